import JvmDerived
import JvmDerived.Pilot.@@N@@Statement
import JvmDerived.Pilot.@@N@@Code
set_option linter.unusedVariables false
set_option linter.unusedSimpArgs false
set_option maxHeartbeats 4000000
set_option maxRecDepth 8192
namespace Jvm.OwnKit
open Sem ClassFile Op Lib Jvm.Stand Jvm.Free Jvm.LawKit Jvm.RoadKit
section Own
variable {p : Program} {l : Launch} {e : Env} {R : Room} {s : State} {m : MethodId} {args : Array Value} {below : List Frame} {meth : Method} {c : Code} {T T' : State} {locs : List Loc} {cells slots : Nat}
/-- from the state T with the frame F on top the run comes to the method's end, and what Q says holds there -/
def OwnG (p : Program) (e : Env) (below : List Frame) (s : State) (Q : Option Value → Heap → List Loc → Prop) (k n : Nat) (T : State) (F : JFrame) : Prop :=
  ∃ s₂ o, Steps p.tables e below (T.setTop F) s₂ ∧ s₂.status = .running ∧ Ended s₂ below o ∧ ∃ v L, o = .returned v ∧ Q v s₂.heap L ∧ FrameEnd s o s₂ L k n
theorem OwnG.st {Q : Option Value → Heap → List Loc → Prop} {k n : Nat} {F F' : JFrame} (h : ∀ t, Steps p.tables e below (T'.setTop F') t → Steps p.tables e below (T.setTop F) t) (g : OwnG p e below s Q k n T' F') : OwnG p e below s Q k n T F := by
  obtain ⟨s2, o, h1, r⟩ := g
  exact ⟨s2, o, h _ h1, r⟩
theorem OwnG.leave (X : Stand p l e R s m args below meth c T locs cells slots) {Q : Option Value → Heap → List Loc → Prop} {k n : Nat} {F : JFrame} {v : Option Value} (hv : meth.sig.returnType = none → v = none) (hlk : meth.locks = false)
    (hs : ∀ fs, (∀ (f : JFrame) (acts : List Action), f.method = m → f.locked = none → f.entered = [] → (doReturn e (T.setTop f) acts v).1 = T.setFrames fs) → Steps p.tables e below (T.setTop F) (T.setFrames fs)) (hq : Q v T.heap locs) (hk : cells ≤ k) (hn : slots ≤ n) : OwnG p e below s Q k n T F := by
  obtain ⟨fs, hr, hrun, hended, hW, hsame⟩ := X.leave hv hlk
  exact ⟨_, _, hs fs hr, hrun, hended, _, _, rfl, hq, ⟨_, rfl⟩, hW, hsame.mono hk hn⟩
theorem OwnG.retI (X : Stand p l e R s m args below meth c T locs cells slots) (hx : p.tables.exec = Jvm.exec) {Q : Option Value → Heap → List Loc → Prop} {k n pc : Nat} {Ls : Array Slot} {z : Int32} {rest : List Value} (hret : meth.sig.returnType = some .int) (hlk : meth.locks = false) (hd : decode c.code pc = .ok (.ireturn, 1)) (hq : Q (some (.int z)) T.heap locs) (hk : cells ≤ k) (hn : slots ≤ n) : OwnG p e below s Q k n T (mkF m pc Ls (.int z :: rest)) :=
  OwnG.leave X (fun h => by rw [hret] at h; cases h) hlk (fun fs hr => retOut X hx hret rfl (Or.inl ⟨rfl, Or.inl rfl, z, rfl⟩) hd hr) hq hk hn
theorem OwnG.retJ (X : Stand p l e R s m args below meth c T locs cells slots) (hx : p.tables.exec = Jvm.exec) {Q : Option Value → Heap → List Loc → Prop} {k n pc : Nat} {Ls : Array Slot} {z : Int64} {rest : List Value} (hret : meth.sig.returnType = some .long) (hlk : meth.locks = false) (hd : decode c.code pc = .ok (.lreturn, 1)) (hq : Q (some (.long z)) T.heap locs) (hk : cells ≤ k) (hn : slots ≤ n) : OwnG p e below s Q k n T (mkF m pc Ls (.long z :: rest)) :=
  OwnG.leave X (fun h => by rw [hret] at h; cases h) hlk (fun fs hr => retOut X hx hret rfl (Or.inr (Or.inl ⟨rfl, rfl, z, rfl⟩)) hd hr) hq hk hn
theorem OwnG.retR (X : Stand p l e R s m args below meth c T locs cells slots) (hx : p.tables.exec = Jvm.exec) {Q : Option Value → Heap → List Loc → Prop} {k n pc : Nat} {Ls : Array Slot} {a : Addr} {rest : List Value} {t : FieldType} (hret : meth.sig.returnType = some t) (ht : t.isReference = true) (hnn : narrow t (.ref a) = .ref a) (hlk : meth.locks = false) (hd : decode c.code pc = .ok (.areturn, 1)) (hq : Q (some (.ref a)) T.heap locs) (hk : cells ≤ k) (hn : slots ≤ n) : OwnG p e below s Q k n T (mkF m pc Ls (.ref a :: rest)) :=
  OwnG.leave X (fun h => by rw [hret] at h; cases h) hlk (fun fs hr => retOut X hx hret hnn (Or.inr (Or.inr (Or.inr (Or.inr ⟨rfl, ht, rfl⟩)))) hd hr) hq hk hn
theorem OwnG.retN (X : Stand p l e R s m args below meth c T locs cells slots) (hx : p.tables.exec = Jvm.exec) {Q : Option Value → Heap → List Loc → Prop} {k n pc : Nat} {Ls : Array Slot} {z : Int32} {rest : List Value} {t : FieldType} (ht : t = .boolean ∨ t = .byte ∨ t = .char ∨ t = .short) (hret : meth.sig.returnType = some t) (hlk : meth.locks = false) (hd : decode c.code pc = .ok (.ireturn, 1)) (hq : Q (some (.int (nar t z))) T.heap locs) (hk : cells ≤ k) (hn : slots ≤ n) : OwnG p e below s Q k n T (mkF m pc Ls (.int z :: rest)) :=
  OwnG.leave X (fun h => by rw [hret] at h; cases h) hlk (fun fs hr => Jvm.RoadKit.retN X hx hret ht hd hr) hq hk hn
theorem OwnG.retV (X : Stand p l e R s m args below meth c T locs cells slots) (hx : p.tables.exec = Jvm.exec) {Q : Option Value → Heap → List Loc → Prop} {k n pc : Nat} {Ls : Array Slot} (hret : meth.sig.returnType = none) (hlk : meth.locks = false) (hd : decode c.code pc = .ok (.return_, 1)) (hq : Q none T.heap locs) (hk : cells ≤ k) (hn : slots ≤ n) : OwnG p e below s Q k n T (mkF m pc Ls []) :=
  OwnG.leave X (fun _ => rfl) hlk (fun fs hr => X.returnOut hx hret hd hr) hq hk hn
end Own
end Jvm.OwnKit
namespace Jvm.OwnKit
open Sem ClassFile Op Lib Jvm.Stand Jvm.Free Jvm.LawKit Jvm.RoadKit
section Arrays
variable {p : Program} {l : Launch} {e : Env} {R : Room} {s : State} {m : MethodId} {args : Array Value} {below : List Frame} {meth : Method} {c : Code} {T : State} {locs : List Loc} {cells slots : Nat} {Z : State} {a0 : Array Value} {h h' : Heap} {a b : Addr} {ty : FieldType} {n : Nat} {f f' : Nat → Value}
/-- at a lies an array of kind ty and length n whose components are f 0, f 1, .. -/
def OwnA (Z : State) (h : Heap) (a : Addr) (ty : FieldType) (n : Nat) (f : Nat → Value) : Prop := ∃ c : Cell, Arr Z h a c ty ∧ c.slots.size = n ∧ ∀ i, i < n → c.slots[i]? = some (f i)
def updv {α : Type} (g : Nat → α) (j : Nat) (v : α) : Nat → α := fun i => if i = j then v else g i
abbrev iv' (g : Nat → Int32) : Nat → Value := fun i => .int (g i)
abbrev jv' (g : Nat → Int64) : Nat → Value := fun i => .long (g i)
theorem OwnA.lt (A : OwnA Z h a ty n f) : a < h.size := by obtain ⟨c, A, -⟩ := A; exact A.lt
theorem OwnA.ext (A : OwnA Z h a ty n f) (E : Ext h h') : OwnA Z h' a ty n f := by obtain ⟨c, A, r⟩ := A; exact ⟨c, A.ext E, r⟩
theorem OwnA.other {sl : Nat} {v : Value} (A : OwnA Z h b ty n f) (W : Wr h h' a sl v) (q : b ≠ a) : OwnA Z h' b ty n f := by obtain ⟨c, A, r⟩ := A; exact ⟨c, A.other W q, r⟩
theorem OwnA.keep {ws : List Addr} (A : OwnA Z h a ty n f) (K : Keep h h' ws) (q : a ∉ ws) : OwnA Z h' a ty n f := by obtain ⟨c, A, r⟩ := A; exact ⟨c, ⟨K.2.1 a c A.1 q, A.2⟩, r⟩
theorem OwnA.congr (A : OwnA Z h a ty n f) (q : ∀ i, i < n → f i = f' i) : OwnA Z h a ty n f' := by obtain ⟨c, A, s1, s2⟩ := A; exact ⟨c, A, s1, fun i hi => (s2 i hi).trans (congrArg some (q i hi))⟩
theorem own_in {c : Cell} {j : Int32} (S : c.slots.size = n) (h0 : 0 ≤ j.toInt) (h1 : j.toInt < n) : ¬ (j < 0 ∨ c.slots.size ≤ j.toNatClampNeg) := by
  have e0 : (0 : Int32).toInt = 0 := rfl
  have e1 : j.toNatClampNeg = j.toInt.toNat := rfl
  rw [S, Int32.lt_iff_toInt_lt, e0, e1]; omega
theorem own_slots (c : Cell) (i : Nat) (v : Value) : (c.setSlot i v).slots = c.slots.setIfInBounds i v := rfl
theorem own_set {cl : Cell} {sl : Nat} {v : Value} (A : Arr Z h a cl ty) (S : cl.slots.size = n) (G : ∀ i, i < n → cl.slots[i]? = some (f i)) (W : Wr h h' a sl v) (hs : sl < n) : OwnA Z h' a ty n (updv f sl v) := by
  refine ⟨_, A.same W, by rw [sz_set]; exact S, fun i hi => ?_⟩
  rw [own_slots]
  by_cases u : sl = i
  · subst u; rw [Array.getElem?_setIfInBounds_self_of_lt (by omega)]; exact congrArg some (show v = (if sl = sl then v else f sl) by rw [if_pos rfl])
  · rw [Array.getElem?_setIfInBounds_ne u, G i hi]; exact congrArg some (show f i = (if i = sl then v else f i) by rw [if_neg (fun q => u q.symm)])
theorem own_ldB {g : Nat → Int32} (A : OwnA Z h a .byte n (iv' g)) (X : Stand p l e R s m args below meth c T locs cells slots) (hx : p.tables.exec = Jvm.exec) (hZ : Z.Warmed39 s.vm) (eT : T.heap = h) {j : Int32} (h0 : 0 ≤ j.toInt) (h1 : j.toInt < n) {gf : JFrame} (hg : gf.method = m) {rest : List Value} (hs : gf.stack = .int j :: .ref a :: rest) (hd : decode c.code gf.pc = .ok (.baload, 1)) :
    ∀ target, Steps p.tables e below (T.setTop { gf with pc := gf.pc + 1, stack := .int (g j.toInt.toNat) :: rest }) target → Steps p.tables e below (T.setTop gf) target := by
  obtain ⟨cl, A, S, G⟩ := A
  exact fun t k => X.baloadBytes hx (by rw [eT]; exact A.1) (State.isArrayOf_alike hZ.alike A.2.1) A.2.2 (own_in S h0 h1) (G j.toInt.toNat (by omega)) hg hs hd t k
theorem own_ldI {g : Nat → Int32} (A : OwnA Z h a .int n (iv' g)) (X : Stand p l e R s m args below meth c T locs cells slots) (hx : p.tables.exec = Jvm.exec) (hZ : Z.Warmed39 s.vm) (eT : T.heap = h) {j : Int32} (h0 : 0 ≤ j.toInt) (h1 : j.toInt < n) {gf : JFrame} (hg : gf.method = m) {rest : List Value} (hs : gf.stack = .int j :: .ref a :: rest) (hd : decode c.code gf.pc = .ok (.iaload, 1)) :
    ∀ target, Steps p.tables e below (T.setTop { gf with pc := gf.pc + 1, stack := .int (g j.toInt.toNat) :: rest }) target → Steps p.tables e below (T.setTop gf) target := by
  obtain ⟨cl, A, S, G⟩ := A
  exact fun t k => X.iaload hx (by rw [eT]; exact A.1) (State.isArrayOf_alike hZ.alike A.2.1) A.2.2 (own_in S h0 h1) (G j.toInt.toNat (by omega)) hg hs hd t k
theorem own_ldJ {g : Nat → Int64} (A : OwnA Z h a .long n (jv' g)) (X : Stand p l e R s m args below meth c T locs cells slots) (hx : p.tables.exec = Jvm.exec) (hZ : Z.Warmed39 s.vm) (eT : T.heap = h) {j : Int32} (h0 : 0 ≤ j.toInt) (h1 : j.toInt < n) {gf : JFrame} (hg : gf.method = m) {rest : List Value} (hs : gf.stack = .int j :: .ref a :: rest) (hd : decode c.code gf.pc = .ok (.laload, 1)) :
    ∀ target, Steps p.tables e below (T.setTop { gf with pc := gf.pc + 1, stack := .long (g j.toInt.toNat) :: rest }) target → Steps p.tables e below (T.setTop gf) target := by
  obtain ⟨cl, A, S, G⟩ := A
  exact fun t k => X.laload hx (by rw [eT]; exact A.1) (State.isArrayOf_alike hZ.alike A.2.1) A.2.2 (own_in S h0 h1) (G j.toInt.toNat (by omega)) hg hs hd t k
theorem own_len (A : OwnA Z h a ty n f) (X : Stand p l e R s m args below meth c T locs cells slots) (hx : p.tables.exec = Jvm.exec) (hZ : Z.Warmed39 s.vm) (eT : T.heap = h) {gf : JFrame} (hg : gf.method = m) {rest : List Value} (hs : gf.stack = .ref a :: rest) (hd : decode c.code gf.pc = .ok (.arraylength, 1)) :
    ∀ target, Steps p.tables e below (T.setTop { gf with pc := gf.pc + 1, stack := .int n.toInt32 :: rest }) target → Steps p.tables e below (T.setTop gf) target := by
  obtain ⟨cl, A, S, G⟩ := A
  subst S
  exact fun t k => X.arraylength hx (by rw [eT]; exact A.1) (State.isArrayOf_alike hZ.alike A.2.1) hg hs hd t k
theorem own_stB {g : Nat → Int32} (A : OwnA Z h a .byte n (iv' g)) (X : Stand p l e R s m args below meth c T locs cells slots) (hx : p.tables.exec = Jvm.exec) (hZ : Z.Warmed39 s.vm) (eT : T.heap = h) {j x : Int32} (h0 : 0 ≤ j.toInt) (h1 : j.toInt < n) {gf : JFrame} (hg : gf.method = m) {rest : List Value} (hs : gf.stack = .int x :: .int j :: .ref a :: rest) (hd : decode c.code gf.pc = .ok (.bastore, 1)) :
    ∃ T' h', Stand p l e R s m args below meth c T' (locs ++ [⟨a, j.toNatClampNeg⟩]) cells slots ∧ T'.heap = h' ∧ Wr h h' a j.toNatClampNeg (.int (nar .byte x)) ∧ OwnA Z h' a .byte n (iv' (updv g j.toInt.toNat x.toInt8.toInt32)) ∧ ∀ target, Steps p.tables e below (T'.setTop { gf with pc := gf.pc + 1, stack := rest }) target → Steps p.tables e below (T.setTop gf) target := by
  obtain ⟨cl, A, S, G⟩ := A
  obtain ⟨T', h', X', e', W, st⟩ := stB X hx hZ eT A (own_in S h0 h1) hg hs hd
  refine ⟨T', h', X', e', W, OwnA.congr (own_set A S G W (by show j.toInt.toNat < n; omega)) fun i hi => ?_, st⟩
  show (if i = j.toInt.toNat then Value.int (x.toInt8.toInt32) else .int (g i)) = .int (if i = j.toInt.toNat then x.toInt8.toInt32 else g i)
  by_cases u : i = j.toInt.toNat
  · rw [if_pos u, if_pos u]
  · rw [if_neg u, if_neg u]
theorem own_stI {g : Nat → Int32} (A : OwnA Z h a .int n (iv' g)) (X : Stand p l e R s m args below meth c T locs cells slots) (hx : p.tables.exec = Jvm.exec) (hZ : Z.Warmed39 s.vm) (eT : T.heap = h) {j x : Int32} (h0 : 0 ≤ j.toInt) (h1 : j.toInt < n) {gf : JFrame} (hg : gf.method = m) {rest : List Value} (hs : gf.stack = .int x :: .int j :: .ref a :: rest) (hd : decode c.code gf.pc = .ok (.iastore, 1)) :
    ∃ T' h', Stand p l e R s m args below meth c T' (locs ++ [⟨a, j.toNatClampNeg⟩]) cells slots ∧ T'.heap = h' ∧ Wr h h' a j.toNatClampNeg (.int x) ∧ OwnA Z h' a .int n (iv' (updv g j.toInt.toNat x)) ∧ ∀ target, Steps p.tables e below (T'.setTop { gf with pc := gf.pc + 1, stack := rest }) target → Steps p.tables e below (T.setTop gf) target := by
  obtain ⟨cl, A, S, G⟩ := A
  obtain ⟨T', h', X', e', W, st⟩ := stI X hx hZ eT A (own_in S h0 h1) hg hs hd
  refine ⟨T', h', X', e', W, OwnA.congr (own_set A S G W (by show j.toInt.toNat < n; omega)) fun i hi => ?_, st⟩
  show (if i = j.toInt.toNat then Value.int x else .int (g i)) = .int (if i = j.toInt.toNat then x else g i)
  by_cases u : i = j.toInt.toNat
  · rw [if_pos u, if_pos u]
  · rw [if_neg u, if_neg u]
theorem own_stJ {g : Nat → Int64} (A : OwnA Z h a .long n (jv' g)) (X : Stand p l e R s m args below meth c T locs cells slots) (hx : p.tables.exec = Jvm.exec) (hZ : Z.Warmed39 s.vm) (eT : T.heap = h) {j : Int32} {x : Int64} (h0 : 0 ≤ j.toInt) (h1 : j.toInt < n) {gf : JFrame} (hg : gf.method = m) {rest : List Value} (hs : gf.stack = .long x :: .int j :: .ref a :: rest) (hd : decode c.code gf.pc = .ok (.lastore, 1)) :
    ∃ T' h', Stand p l e R s m args below meth c T' (locs ++ [⟨a, j.toNatClampNeg⟩]) cells slots ∧ T'.heap = h' ∧ Wr h h' a j.toNatClampNeg (.long x) ∧ OwnA Z h' a .long n (jv' (updv g j.toInt.toNat x)) ∧ ∀ target, Steps p.tables e below (T'.setTop { gf with pc := gf.pc + 1, stack := rest }) target → Steps p.tables e below (T.setTop gf) target := by
  obtain ⟨cl, A, S, G⟩ := A
  obtain ⟨T', h', X', e', W, st⟩ := stJ X hx hZ eT A (own_in S h0 h1) hg hs hd
  refine ⟨T', h', X', e', W, OwnA.congr (own_set A S G W (by show j.toInt.toNat < n; omega)) fun i hi => ?_, st⟩
  show (if i = j.toInt.toNat then Value.long x else .long (g i)) = .long (if i = j.toInt.toNat then x else g i)
  by_cases u : i = j.toInt.toNat
  · rw [if_pos u, if_pos u]
  · rw [if_neg u, if_neg u]
theorem own_newA {k : ClassId} {z : Int32} (A : Arr Z h a (newA k ty z) ty) (hn : z.toInt = n) : OwnA Z h a ty n (fun _ => defaultValue ty) := by
  have e1 : z.toNatClampNeg = n := by show z.toInt.toNat = n; omega
  refine ⟨_, A, by rw [sz_new]; exact e1, fun i hi => ?_⟩
  show (Array.replicate z.toNatClampNeg (defaultValue ty))[i]? = _
  rw [e1, Array.getElem?_replicate, if_pos hi]
end Arrays
end Jvm.OwnKit
namespace Jvm.OwnKit
open Jvm.RoadKit
theorem own_split {w : Nat} (x m : BitVec w) : (x &&& ~~~m) + (x &&& m) = x := by
  rw [BitVec.add_eq_or_of_and_eq_zero]
  · ext i hi
    simp only [BitVec.getElem_or, BitVec.getElem_and, BitVec.getElem_not]
    cases x[i] <;> cases m[i] <;> rfl
  · ext i hi
    simp only [BitVec.getElem_and, BitVec.getElem_not, BitVec.getElem_zero]
    cases x[i] <;> cases m[i] <;> rfl
theorem own_hi (x m m' : Int32) (h : m' = ~~~m) : (x &&& m') + (x &&& m) = x := by
  subst h
  exact Int32.toBitVec_inj.mp (own_split x.toBitVec m.toBitVec)
theorem own_irem (x y : Int32) : x - (x / y) * y = x % y := by
  apply Int32.toInt_inj.mp
  have h1 := rng32 (x % y)
  have e := Int.mul_tdiv_add_tmod x.toInt y.toInt
  rw [Int32.toInt_mod] at h1 ⊢
  rw [Int32.toInt_sub, Int32.toInt_mul, Int32.toInt_div, Int.bmod_mul_bmod, Int.sub_bmod_bmod]
  rw [show x.toInt - x.toInt.tdiv y.toInt * y.toInt = x.toInt.tmod y.toInt by rw [Int.mul_comm]; omega]
  exact Int.bmod_eq_of_le_mul_two (by omega) (by omega)
end Jvm.OwnKit
namespace Jvm.Pilot.@@N@@
open Jvm Jvm.ClassFile Sem Op Lib Jvm.Free Jvm.Stand Jvm.LawKit Jvm.RoadKit Bundle Jvm.Pilot.@@N@@.Jvm.D Jvm.OwnKit
def F1 (q1 : Int64) (p2 : Int32) (p3 : Int32) : Int32 := (if (((p2.toUInt32 >>> (p3 &&& 31).toUInt32).toInt32) &&& (1 : Int32)) = (0 : Int32) then (((((q1.toUInt64 >>> (((8 : Int32) * p3) &&& 0x3f).toInt64.toUInt64).toInt64) &&& (255 : Int64)).toInt32).toInt8.toInt32) else (((48 : Int32) + (((((q1.toUInt64 >>> (((8 : Int32) * p3) &&& 0x3f).toInt64.toUInt64).toInt64) &&& (255 : Int64)).toInt32) - (((((q1.toUInt64 >>> (((8 : Int32) * p3) &&& 0x3f).toInt64.toUInt64).toInt64) &&& (255 : Int64)).toInt32) / (10 : Int32)) * (10 : Int32))).toInt8.toInt32))
theorem d1_0 : decode method_2_code 0 = .ok (.lload_n 0, 1) := by decide +kernel
theorem d1_1 : decode method_2_code 1 = .ok (.bipush 8, 2) := by decide +kernel
theorem d1_3 : decode method_2_code 3 = .ok (.iload_n 3, 1) := by decide +kernel
theorem d1_4 : decode method_2_code 4 = .ok (.imul, 1) := by decide +kernel
theorem d1_5 : decode method_2_code 5 = .ok (.lushr, 1) := by decide +kernel
theorem d1_6 : decode method_2_code 6 = .ok (.ldc2_w 7, 3) := by decide +kernel
theorem d1_9 : decode method_2_code 9 = .ok (.land, 1) := by decide +kernel
theorem d1_10 : decode method_2_code 10 = .ok (.l2i, 1) := by decide +kernel
theorem d1_11 : decode method_2_code 11 = .ok (.istore 4, 2) := by decide +kernel
theorem d1_13 : decode method_2_code 13 = .ok (.iload_n 2, 1) := by decide +kernel
theorem d1_14 : decode method_2_code 14 = .ok (.iload_n 3, 1) := by decide +kernel
theorem d1_15 : decode method_2_code 15 = .ok (.iushr, 1) := by decide +kernel
theorem d1_16 : decode method_2_code 16 = .ok (.iconst 1, 1) := by decide +kernel
theorem d1_17 : decode method_2_code 17 = .ok (.iand, 1) := by decide +kernel
theorem d1_18 : decode method_2_code 18 = .ok (.ifCond .eq 13, 3) := by decide +kernel
theorem d1_21 : decode method_2_code 21 = .ok (.bipush 48, 2) := by decide +kernel
theorem d1_23 : decode method_2_code 23 = .ok (.iload 4, 2) := by decide +kernel
theorem d1_25 : decode method_2_code 25 = .ok (.bipush 10, 2) := by decide +kernel
theorem d1_27 : decode method_2_code 27 = .ok (.irem, 1) := by decide +kernel
theorem d1_28 : decode method_2_code 28 = .ok (.iadd, 1) := by decide +kernel
theorem d1_29 : decode method_2_code 29 = .ok (.i2b, 1) := by decide +kernel
theorem d1_30 : decode method_2_code 30 = .ok (.ireturn, 1) := by decide +kernel
theorem d1_31 : decode method_2_code 31 = .ok (.iload 4, 2) := by decide +kernel
theorem d1_33 : decode method_2_code 33 = .ok (.i2b, 1) := by decide +kernel
theorem d1_34 : decode method_2_code 34 = .ok (.ireturn, 1) := by decide +kernel
theorem pn_1 : plainName "com/example/provenir/provenir/Iso2709RecordNumberPinLaw" = true := by first | (simp [plainName, overriddenIn]; done) | decide +kernel
theorem ef_1 (m : MethodId) (q1 : Int64) (p2 : Int32) (p3 : Int32) : entryFrame m #[(.long q1), (.int p2), (.int p3)] 5 = mkF m 0 #[.val (.long q1), .second, .val (.int p2), .val (.int p3), .unset] [] := by first | (simp [entryFrame, mkF, argsToLocals, Value.category]; done) | rfl
def Q1 (Z : State) (q1 : Int64) (p2 : Int32) (p3 : Int32) (h0 : Heap) (n0 : Nat) (v : Option Value) (h : Heap) (L : List Loc) : Prop := v = some (.int (F1 q1 p2 p3)) ∧ Fr n0 L ∧ h = h0
set_option maxRecDepth 65536 in
set_option maxHeartbeats 40000000 in
theorem rm1 (l : Launch) (Z : State) (a0 : Array Value) (hw : ∀ d ∈ tables_1, d.before a0 Z = true) (ws : List Jvm.Cond) (q1 : Int64) (p2 : Int32) (p3 : Int32)  (h0 : Heap) (n0 : Nat) (Z0 : n0 ≤ h0.size)  :
    MetFree l (⟨"com/example/provenir/provenir/Iso2709RecordNumberPinLaw", "at", "(JII)B"⟩ : MethodName) (head1 (Jvm.Cond.code (⟨"com/example/provenir/provenir/Iso2709RecordNumberPinLaw", "at", "(JII)B"⟩ : MethodName) method_2_code 5 (some .byte) :: ws) ({ frames := 0, cells := 0, slots := 0, locals := 0 } : Room)) (fun a U => a = #[(.long q1), (.int p2), (.int p3)] ∧ Z.Warmed39 U.vm ∧ U.heap = h0) (fun _ _ _ _ _ => True) (fun _ U o U' => ∃ v L, o = .returned v ∧ Q1 Z q1 p2 p3 h0 n0 v U'.heap L ∧ FrameEnd U o U' L ({ frames := 0, cells := 0, slots := 0, locals := 0 } : Room).cells ({ frames := 0, cells := 0, slots := 0, locals := 0 } : Room).slots) := by
  refine MetFree.of_bodySF (plainFor_of_name pn_1) hisR ?_
  intro p e s m args below meth c s₁ Bd hml0 hP hK
  obtain ⟨rfl, hZ, hh⟩ := hP
  have hx := Bd.exec
  have hby := Bd.bytes
  have hml : c.maxLocals = 5 := hml0
  have hown : s.vm.findClass "com/example/provenir/provenir/Iso2709RecordNumberPinLaw" = some m.cls := findClass_of_methodNamed Bd.named
  have hnm := (name_of_methodNamed Bd.named Bd.method).1
  have X0 : Stand p l e ({ frames := 0, cells := 0, slots := 0, locals := 0 } : Room) s m #[(.long q1), (.int p2), (.int p3)] below meth c s₁ [] 0 0 := Stand.of_body Bd
  have e0 : s₁.heap = h0 := by rw [← hh, Bd.state]; rfl
  have N0 := Fr.nil n0
  suffices hG : OwnG p e below s (Q1 Z q1 p2 p3 h0 n0) ({ frames := 0, cells := 0, slots := 0, locals := 0 } : Room).cells ({ frames := 0, cells := 0, slots := 0, locals := 0 } : Room).slots s₁ (mkF m 0 #[.val (.long q1), .second, .val (.int p2), .val (.int p3), .unset] []) by
    obtain ⟨s2, o2, g1, g2⟩ := hG
    exact ⟨s2, o2, castTop (ef_1 m q1 p2 p3) g1, g2⟩
  have sg1 : ∀ tgt, Steps p.tables e below (s₁.setTop (mkF m 18 #[.val (.long q1), .second, .val (.int p2), .val (.int p3), .val (.int ((((q1.toUInt64 >>> (((8 : Int32) * p3) &&& 0x3f).toInt64.toUInt64).toInt64) &&& (255 : Int64)).toInt32))] [(.int (((p2.toUInt32 >>> (p3 &&& 31).toUInt32).toInt32) &&& (1 : Int32)))])) tgt → Steps p.tables e below (s₁.setTop (mkF m 0 #[.val (.long q1), .second, .val (.int p2), .val (.int p3), .unset] [])) tgt := by
    intro tgt kt
    refine XS.lloadN X0.here hx rfl (hb hby d1_0) rfl ?_
    show Steps p.tables e below (s₁.setTop (mkF m 1 #[.val (.long q1), .second, .val (.int p2), .val (.int p3), .unset] [(.long q1)])) _
    refine XS.bipush X0.here hx rfl (hb hby d1_1) ?_
    show Steps p.tables e below (s₁.setTop (mkF m 3 #[.val (.long q1), .second, .val (.int p2), .val (.int p3), .unset] [(.int (8 : Int32)), (.long q1)])) _
    refine XS.iloadN X0.here hx rfl (hb hby d1_3) rfl ?_
    show Steps p.tables e below (s₁.setTop (mkF m 4 #[.val (.long q1), .second, .val (.int p2), .val (.int p3), .unset] [(.int p3), (.int (8 : Int32)), (.long q1)])) _
    refine XS.imul X0.here hx rfl (hb hby d1_4) rfl ?_
    show Steps p.tables e below (s₁.setTop (mkF m 5 #[.val (.long q1), .second, .val (.int p2), .val (.int p3), .unset] [(.int ((8 : Int32) * p3)), (.long q1)])) _
    refine XS.lushr X0.here hx rfl (hb hby d1_5) rfl ?_
    show Steps p.tables e below (s₁.setTop (mkF m 6 #[.val (.long q1), .second, .val (.int p2), .val (.int p3), .unset] [(.long ((q1.toUInt64 >>> (((8 : Int32) * p3) &&& 0x3f).toInt64.toUInt64).toInt64))])) _
    refine X0.ldc2Long hx hown (mvT hZ (hw _ (List.mem_of_getElem? (i := 5) rfl))) (g := (mkF m 6 #[.val (.long q1), .second, .val (.int p2), .val (.int p3), .unset] [(.long ((q1.toUInt64 >>> (((8 : Int32) * p3) &&& 0x3f).toInt64.toUInt64).toInt64))])) rfl (hb hby d1_6) _ ?_
    show Steps p.tables e below (s₁.setTop (mkF m 9 #[.val (.long q1), .second, .val (.int p2), .val (.int p3), .unset] [(.long (255 : Int64)), (.long ((q1.toUInt64 >>> (((8 : Int32) * p3) &&& 0x3f).toInt64.toUInt64).toInt64))])) _
    refine XS.land X0.here hx rfl (hb hby d1_9) rfl ?_
    show Steps p.tables e below (s₁.setTop (mkF m 10 #[.val (.long q1), .second, .val (.int p2), .val (.int p3), .unset] [(.long (((q1.toUInt64 >>> (((8 : Int32) * p3) &&& 0x3f).toInt64.toUInt64).toInt64) &&& (255 : Int64)))])) _
    refine XS.l2i X0.here hx rfl (hb hby d1_10) rfl ?_
    show Steps p.tables e below (s₁.setTop (mkF m 11 #[.val (.long q1), .second, .val (.int p2), .val (.int p3), .unset] [(.int ((((q1.toUInt64 >>> (((8 : Int32) * p3) &&& 0x3f).toInt64.toUInt64).toInt64) &&& (255 : Int64)).toInt32))])) _
    refine XS.istore X0.here hx rfl (hb hby d1_11) rfl (l' := #[.val (.long q1), .second, .val (.int p2), .val (.int p3), .val (.int ((((q1.toUInt64 >>> (((8 : Int32) * p3) &&& 0x3f).toInt64.toUInt64).toInt64) &&& (255 : Int64)).toInt32))]) rfl ?_
    show Steps p.tables e below (s₁.setTop (mkF m 13 #[.val (.long q1), .second, .val (.int p2), .val (.int p3), .val (.int ((((q1.toUInt64 >>> (((8 : Int32) * p3) &&& 0x3f).toInt64.toUInt64).toInt64) &&& (255 : Int64)).toInt32))] [])) _
    refine XS.iloadN X0.here hx rfl (hb hby d1_13) rfl ?_
    show Steps p.tables e below (s₁.setTop (mkF m 14 #[.val (.long q1), .second, .val (.int p2), .val (.int p3), .val (.int ((((q1.toUInt64 >>> (((8 : Int32) * p3) &&& 0x3f).toInt64.toUInt64).toInt64) &&& (255 : Int64)).toInt32))] [(.int p2)])) _
    refine XS.iloadN X0.here hx rfl (hb hby d1_14) rfl ?_
    show Steps p.tables e below (s₁.setTop (mkF m 15 #[.val (.long q1), .second, .val (.int p2), .val (.int p3), .val (.int ((((q1.toUInt64 >>> (((8 : Int32) * p3) &&& 0x3f).toInt64.toUInt64).toInt64) &&& (255 : Int64)).toInt32))] [(.int p3), (.int p2)])) _
    refine XS.iushr X0.here hx rfl (hb hby d1_15) rfl ?_
    show Steps p.tables e below (s₁.setTop (mkF m 16 #[.val (.long q1), .second, .val (.int p2), .val (.int p3), .val (.int ((((q1.toUInt64 >>> (((8 : Int32) * p3) &&& 0x3f).toInt64.toUInt64).toInt64) &&& (255 : Int64)).toInt32))] [(.int ((p2.toUInt32 >>> (p3 &&& 31).toUInt32).toInt32))])) _
    refine XS.iconst X0.here hx rfl (hb hby d1_16) ?_
    show Steps p.tables e below (s₁.setTop (mkF m 17 #[.val (.long q1), .second, .val (.int p2), .val (.int p3), .val (.int ((((q1.toUInt64 >>> (((8 : Int32) * p3) &&& 0x3f).toInt64.toUInt64).toInt64) &&& (255 : Int64)).toInt32))] [(.int (1 : Int32)), (.int ((p2.toUInt32 >>> (p3 &&& 31).toUInt32).toInt32))])) _
    refine XS.iand X0.here hx rfl (hb hby d1_17) rfl ?_
    show Steps p.tables e below (s₁.setTop (mkF m 18 #[.val (.long q1), .second, .val (.int p2), .val (.int p3), .val (.int ((((q1.toUInt64 >>> (((8 : Int32) * p3) &&& 0x3f).toInt64.toUInt64).toInt64) &&& (255 : Int64)).toInt32))] [(.int (((p2.toUInt32 >>> (p3 &&& 31).toUInt32).toInt32) &&& (1 : Int32)))])) _
    exact kt
  refine OwnG.st sg1 ?_
  by_cases hc18_2 : (((p2.toUInt32 >>> (p3 &&& 31).toUInt32).toInt32) &&& (1 : Int32)) = (0 : Int32)
  · have sg3 : ∀ tgt, Steps p.tables e below (s₁.setTop (mkF m 34 #[.val (.long q1), .second, .val (.int p2), .val (.int p3), .val (.int ((((q1.toUInt64 >>> (((8 : Int32) * p3) &&& 0x3f).toInt64.toUInt64).toInt64) &&& (255 : Int64)).toInt32))] [(.int (((((q1.toUInt64 >>> (((8 : Int32) * p3) &&& 0x3f).toInt64.toUInt64).toInt64) &&& (255 : Int64)).toInt32).toInt8.toInt32))])) tgt → Steps p.tables e below (s₁.setTop (mkF m 18 #[.val (.long q1), .second, .val (.int p2), .val (.int p3), .val (.int ((((q1.toUInt64 >>> (((8 : Int32) * p3) &&& 0x3f).toInt64.toUInt64).toInt64) &&& (255 : Int64)).toInt32))] [(.int (((p2.toUInt32 >>> (p3 &&& 31).toUInt32).toInt32) &&& (1 : Int32)))])) tgt := by
      intro tgt kt
      refine XS.ifYes X0.here hx rfl (pc0 := 18) (pc' := 31) rfl (hb hby d1_18) rfl ((if0 _ _).trans (teq hc18_2).1) (by decide) (by decide) ?_
      show Steps p.tables e below (s₁.setTop (mkF m 31 #[.val (.long q1), .second, .val (.int p2), .val (.int p3), .val (.int ((((q1.toUInt64 >>> (((8 : Int32) * p3) &&& 0x3f).toInt64.toUInt64).toInt64) &&& (255 : Int64)).toInt32))] [])) _
      refine XS.iload X0.here hx rfl (hb hby d1_31) rfl ?_
      show Steps p.tables e below (s₁.setTop (mkF m 33 #[.val (.long q1), .second, .val (.int p2), .val (.int p3), .val (.int ((((q1.toUInt64 >>> (((8 : Int32) * p3) &&& 0x3f).toInt64.toUInt64).toInt64) &&& (255 : Int64)).toInt32))] [(.int ((((q1.toUInt64 >>> (((8 : Int32) * p3) &&& 0x3f).toInt64.toUInt64).toInt64) &&& (255 : Int64)).toInt32))])) _
      refine XS.i2b X0.here hx rfl (hb hby d1_33) rfl ?_
      show Steps p.tables e below (s₁.setTop (mkF m 34 #[.val (.long q1), .second, .val (.int p2), .val (.int p3), .val (.int ((((q1.toUInt64 >>> (((8 : Int32) * p3) &&& 0x3f).toInt64.toUInt64).toInt64) &&& (255 : Int64)).toInt32))] [(.int (((((q1.toUInt64 >>> (((8 : Int32) * p3) &&& 0x3f).toInt64.toUInt64).toInt64) &&& (255 : Int64)).toInt32).toInt8.toInt32))])) _
      exact kt
    refine OwnG.st sg3 ?_
    have hv : (((((q1.toUInt64 >>> (((8 : Int32) * p3) &&& 0x3f).toInt64.toUInt64).toInt64) &&& (255 : Int64)).toInt32).toInt8.toInt32) = F1 q1 p2 p3 := by simp only [F1, if_pos hc18_2]
    exact OwnG.retN X0 hx (t := .byte) (by simp) Bd.returns (BodyLoose.notSynchronized Bd) (hb hby d1_34) ⟨congrArg (fun w => some (Value.int w)) ((show nar .byte (((((q1.toUInt64 >>> (((8 : Int32) * p3) &&& 0x3f).toInt64.toUInt64).toInt64) &&& (255 : Int64)).toInt32).toInt8.toInt32) = (((((q1.toUInt64 >>> (((8 : Int32) * p3) &&& 0x3f).toInt64.toUInt64).toInt64) &&& (255 : Int64)).toInt32).toInt8.toInt32) from congrArg Int8.toInt32 (Int8.toInt8_toInt32 _)).trans hv), N0, e0⟩ (by decide) (by decide)
  · have sg4 : ∀ tgt, Steps p.tables e below (s₁.setTop (mkF m 30 #[.val (.long q1), .second, .val (.int p2), .val (.int p3), .val (.int ((((q1.toUInt64 >>> (((8 : Int32) * p3) &&& 0x3f).toInt64.toUInt64).toInt64) &&& (255 : Int64)).toInt32))] [(.int (((48 : Int32) + (((((q1.toUInt64 >>> (((8 : Int32) * p3) &&& 0x3f).toInt64.toUInt64).toInt64) &&& (255 : Int64)).toInt32) - (((((q1.toUInt64 >>> (((8 : Int32) * p3) &&& 0x3f).toInt64.toUInt64).toInt64) &&& (255 : Int64)).toInt32) / (10 : Int32)) * (10 : Int32))).toInt8.toInt32))])) tgt → Steps p.tables e below (s₁.setTop (mkF m 18 #[.val (.long q1), .second, .val (.int p2), .val (.int p3), .val (.int ((((q1.toUInt64 >>> (((8 : Int32) * p3) &&& 0x3f).toInt64.toUInt64).toInt64) &&& (255 : Int64)).toInt32))] [(.int (((p2.toUInt32 >>> (p3 &&& 31).toUInt32).toInt32) &&& (1 : Int32)))])) tgt := by
      intro tgt kt
      refine XS.ifNo X0.here hx rfl (hb hby d1_18) rfl ((if0 _ _).trans (feq hc18_2).1) ?_
      show Steps p.tables e below (s₁.setTop (mkF m 21 #[.val (.long q1), .second, .val (.int p2), .val (.int p3), .val (.int ((((q1.toUInt64 >>> (((8 : Int32) * p3) &&& 0x3f).toInt64.toUInt64).toInt64) &&& (255 : Int64)).toInt32))] [])) _
      refine XS.bipush X0.here hx rfl (hb hby d1_21) ?_
      show Steps p.tables e below (s₁.setTop (mkF m 23 #[.val (.long q1), .second, .val (.int p2), .val (.int p3), .val (.int ((((q1.toUInt64 >>> (((8 : Int32) * p3) &&& 0x3f).toInt64.toUInt64).toInt64) &&& (255 : Int64)).toInt32))] [(.int (48 : Int32))])) _
      refine XS.iload X0.here hx rfl (hb hby d1_23) rfl ?_
      show Steps p.tables e below (s₁.setTop (mkF m 25 #[.val (.long q1), .second, .val (.int p2), .val (.int p3), .val (.int ((((q1.toUInt64 >>> (((8 : Int32) * p3) &&& 0x3f).toInt64.toUInt64).toInt64) &&& (255 : Int64)).toInt32))] [(.int ((((q1.toUInt64 >>> (((8 : Int32) * p3) &&& 0x3f).toInt64.toUInt64).toInt64) &&& (255 : Int64)).toInt32)), (.int (48 : Int32))])) _
      refine XS.bipush X0.here hx rfl (hb hby d1_25) ?_
      show Steps p.tables e below (s₁.setTop (mkF m 27 #[.val (.long q1), .second, .val (.int p2), .val (.int p3), .val (.int ((((q1.toUInt64 >>> (((8 : Int32) * p3) &&& 0x3f).toInt64.toUInt64).toInt64) &&& (255 : Int64)).toInt32))] [(.int (10 : Int32)), (.int ((((q1.toUInt64 >>> (((8 : Int32) * p3) &&& 0x3f).toInt64.toUInt64).toInt64) &&& (255 : Int64)).toInt32)), (.int (48 : Int32))])) _
      refine XS.irem X0.here hx rfl (hb hby d1_27) rfl (by decide) ?_
      show Steps p.tables e below (s₁.setTop (mkF m 28 #[.val (.long q1), .second, .val (.int p2), .val (.int p3), .val (.int ((((q1.toUInt64 >>> (((8 : Int32) * p3) &&& 0x3f).toInt64.toUInt64).toInt64) &&& (255 : Int64)).toInt32))] [(.int (((((q1.toUInt64 >>> (((8 : Int32) * p3) &&& 0x3f).toInt64.toUInt64).toInt64) &&& (255 : Int64)).toInt32) - (((((q1.toUInt64 >>> (((8 : Int32) * p3) &&& 0x3f).toInt64.toUInt64).toInt64) &&& (255 : Int64)).toInt32) / (10 : Int32)) * (10 : Int32))), (.int (48 : Int32))])) _
      refine XS.iadd X0.here hx rfl (hb hby d1_28) rfl ?_
      show Steps p.tables e below (s₁.setTop (mkF m 29 #[.val (.long q1), .second, .val (.int p2), .val (.int p3), .val (.int ((((q1.toUInt64 >>> (((8 : Int32) * p3) &&& 0x3f).toInt64.toUInt64).toInt64) &&& (255 : Int64)).toInt32))] [(.int ((48 : Int32) + (((((q1.toUInt64 >>> (((8 : Int32) * p3) &&& 0x3f).toInt64.toUInt64).toInt64) &&& (255 : Int64)).toInt32) - (((((q1.toUInt64 >>> (((8 : Int32) * p3) &&& 0x3f).toInt64.toUInt64).toInt64) &&& (255 : Int64)).toInt32) / (10 : Int32)) * (10 : Int32))))])) _
      refine XS.i2b X0.here hx rfl (hb hby d1_29) rfl ?_
      show Steps p.tables e below (s₁.setTop (mkF m 30 #[.val (.long q1), .second, .val (.int p2), .val (.int p3), .val (.int ((((q1.toUInt64 >>> (((8 : Int32) * p3) &&& 0x3f).toInt64.toUInt64).toInt64) &&& (255 : Int64)).toInt32))] [(.int (((48 : Int32) + (((((q1.toUInt64 >>> (((8 : Int32) * p3) &&& 0x3f).toInt64.toUInt64).toInt64) &&& (255 : Int64)).toInt32) - (((((q1.toUInt64 >>> (((8 : Int32) * p3) &&& 0x3f).toInt64.toUInt64).toInt64) &&& (255 : Int64)).toInt32) / (10 : Int32)) * (10 : Int32))).toInt8.toInt32))])) _
      exact kt
    refine OwnG.st sg4 ?_
    have hv : (((48 : Int32) + (((((q1.toUInt64 >>> (((8 : Int32) * p3) &&& 0x3f).toInt64.toUInt64).toInt64) &&& (255 : Int64)).toInt32) - (((((q1.toUInt64 >>> (((8 : Int32) * p3) &&& 0x3f).toInt64.toUInt64).toInt64) &&& (255 : Int64)).toInt32) / (10 : Int32)) * (10 : Int32))).toInt8.toInt32) = F1 q1 p2 p3 := by simp only [F1, if_neg hc18_2]
    exact OwnG.retN X0 hx (t := .byte) (by simp) Bd.returns (BodyLoose.notSynchronized Bd) (hb hby d1_30) ⟨congrArg (fun w => some (Value.int w)) ((show nar .byte (((48 : Int32) + (((((q1.toUInt64 >>> (((8 : Int32) * p3) &&& 0x3f).toInt64.toUInt64).toInt64) &&& (255 : Int64)).toInt32) - (((((q1.toUInt64 >>> (((8 : Int32) * p3) &&& 0x3f).toInt64.toUInt64).toInt64) &&& (255 : Int64)).toInt32) / (10 : Int32)) * (10 : Int32))).toInt8.toInt32) = (((48 : Int32) + (((((q1.toUInt64 >>> (((8 : Int32) * p3) &&& 0x3f).toInt64.toUInt64).toInt64) &&& (255 : Int64)).toInt32) - (((((q1.toUInt64 >>> (((8 : Int32) * p3) &&& 0x3f).toInt64.toUInt64).toInt64) &&& (255 : Int64)).toInt32) / (10 : Int32)) * (10 : Int32))).toInt8.toInt32) from congrArg Int8.toInt32 (Int8.toInt8_toInt32 _)).trans hv), N0, e0⟩ (by decide) (by decide)
theorem own_ip (i k : Int32) (kk : Nat) (hk : k.toInt = kk) (h0 : 0 ≤ i.toInt) (h1 : i.toInt + kk < 1000) : (i + k).toInt = i.toInt + kk ∧ (i + k).toInt.toNat = i.toInt.toNat + kk := by
  have h := c_iadd i k
  have r := rng32 (i + k)
  omega
theorem own_ad (i k : Int32) (h0 : 0 ≤ i.toInt ∧ i.toInt ≤ 3) (h1 : 0 ≤ k.toInt ∧ k.toInt ≤ 5) : (i + k).toInt = i.toInt + k.toInt := by
  have h := c_iadd i k
  have r := rng32 (i + k)
  omega
theorem own_wi (n k : Int32) (hn : n.toInt ≤ 5) (hk : 0 ≤ k.toInt) (hl : k < n) : 0 ≤ ((n - (1 : Int32)) - k).toInt ∧ ((n - (1 : Int32)) - k).toInt < (5 : Nat) := by
  have h1 := c_isub n 1
  have h2 := c_isub (n - 1) k
  have e : (1 : Int32).toInt = 1 := rfl
  rw [Int32.lt_iff_toInt_lt] at hl
  have r1 := rng32 (n - 1)
  have r2 := rng32 (n - 1 - k)
  omega
def F2 (p2 p3 p4 : Int32) (g : Nat → Int32) : Int32 := if p4 < p3 then (if (g (p2 + p4).toInt.toNat) < (48 : Int32) then (-1 : Int32) else (if (57 : Int32) < (g (p2 + p4).toInt.toNat) then (-1 : Int32) else (((g (p2 + p4).toInt.toNat) - (48 : Int32)) * ((updv (updv (updv (updv (updv (fun _ => 0) 0 (1 : Int32)) 1 (10 : Int32)) 2 (100 : Int32)) 3 (1000 : Int32)) 4 (10000 : Int32)) ((p3 - (1 : Int32)) - p4).toInt.toNat)))) else (0 : Int32)
def own_num (g : Nat → Int32) : Int32 → Nat → Nat → Int32
  | ac, _, 0 => ac
  | ac, i, k + 1 => if g i < (48 : Int32) then (-1 : Int32) else if (57 : Int32) < g i then (-1 : Int32) else own_num g (((ac * (10 : Int32)) + g i) - (48 : Int32)) (i + 1) k
theorem own_n0 (g : Nat → Int32) (ac : Int32) (i : Nat) : own_num g ac i 0 = ac := rfl
theorem own_ns (g : Nat → Int32) (ac : Int32) (i k : Nat) : own_num g ac i (k + 1) = if g i < (48 : Int32) then (-1 : Int32) else if (57 : Int32) < g i then (-1 : Int32) else own_num g (((ac * (10 : Int32)) + g i) - (48 : Int32)) (i + 1) k := rfl
def F3 (p2 p3 : Int32) (g : Nat → Int32) : Int32 := own_num g 0 p2.toInt.toNat p3.toInt.toNat
theorem d2_0 : decode method_3_code 0 = .ok (.iload_n 3, 1) := by decide +kernel
theorem d2_1 : decode method_3_code 1 = .ok (.iload_n 2, 1) := by decide +kernel
theorem d2_2 : decode method_3_code 2 = .ok (.if_icmp .lt 5, 3) := by decide +kernel
theorem d2_5 : decode method_3_code 5 = .ok (.iconst 0, 1) := by decide +kernel
theorem d2_6 : decode method_3_code 6 = .ok (.ireturn, 1) := by decide +kernel
theorem d2_7 : decode method_3_code 7 = .ok (.iconst 5, 1) := by decide +kernel
theorem d2_8 : decode method_3_code 8 = .ok (.newarray .int, 2) := by decide +kernel
theorem d2_10 : decode method_3_code 10 = .ok (.dup, 1) := by decide +kernel
theorem d2_11 : decode method_3_code 11 = .ok (.iconst 0, 1) := by decide +kernel
theorem d2_12 : decode method_3_code 12 = .ok (.iconst 1, 1) := by decide +kernel
theorem d2_13 : decode method_3_code 13 = .ok (.iastore, 1) := by decide +kernel
theorem d2_14 : decode method_3_code 14 = .ok (.dup, 1) := by decide +kernel
theorem d2_15 : decode method_3_code 15 = .ok (.iconst 1, 1) := by decide +kernel
theorem d2_16 : decode method_3_code 16 = .ok (.bipush 10, 2) := by decide +kernel
theorem d2_18 : decode method_3_code 18 = .ok (.iastore, 1) := by decide +kernel
theorem d2_19 : decode method_3_code 19 = .ok (.dup, 1) := by decide +kernel
theorem d2_20 : decode method_3_code 20 = .ok (.iconst 2, 1) := by decide +kernel
theorem d2_21 : decode method_3_code 21 = .ok (.bipush 100, 2) := by decide +kernel
theorem d2_23 : decode method_3_code 23 = .ok (.iastore, 1) := by decide +kernel
theorem d2_24 : decode method_3_code 24 = .ok (.dup, 1) := by decide +kernel
theorem d2_25 : decode method_3_code 25 = .ok (.iconst 3, 1) := by decide +kernel
theorem d2_26 : decode method_3_code 26 = .ok (.sipush 1000, 3) := by decide +kernel
theorem d2_29 : decode method_3_code 29 = .ok (.iastore, 1) := by decide +kernel
theorem d2_30 : decode method_3_code 30 = .ok (.dup, 1) := by decide +kernel
theorem d2_31 : decode method_3_code 31 = .ok (.iconst 4, 1) := by decide +kernel
theorem d2_32 : decode method_3_code 32 = .ok (.sipush 10000, 3) := by decide +kernel
theorem d2_35 : decode method_3_code 35 = .ok (.iastore, 1) := by decide +kernel
theorem d2_36 : decode method_3_code 36 = .ok (.astore 4, 2) := by decide +kernel
theorem d2_38 : decode method_3_code 38 = .ok (.aload_n 0, 1) := by decide +kernel
theorem d2_39 : decode method_3_code 39 = .ok (.iload_n 1, 1) := by decide +kernel
theorem d2_40 : decode method_3_code 40 = .ok (.iload_n 3, 1) := by decide +kernel
theorem d2_41 : decode method_3_code 41 = .ok (.iadd, 1) := by decide +kernel
theorem d2_42 : decode method_3_code 42 = .ok (.baload, 1) := by decide +kernel
theorem d2_43 : decode method_3_code 43 = .ok (.istore 5, 2) := by decide +kernel
theorem d2_45 : decode method_3_code 45 = .ok (.iload 5, 2) := by decide +kernel
theorem d2_47 : decode method_3_code 47 = .ok (.bipush 48, 2) := by decide +kernel
theorem d2_49 : decode method_3_code 49 = .ok (.if_icmp .lt 10, 3) := by decide +kernel
theorem d2_52 : decode method_3_code 52 = .ok (.iload 5, 2) := by decide +kernel
theorem d2_54 : decode method_3_code 54 = .ok (.bipush 57, 2) := by decide +kernel
theorem d2_56 : decode method_3_code 56 = .ok (.if_icmp .le 5, 3) := by decide +kernel
theorem d2_59 : decode method_3_code 59 = .ok (.iconst (-1), 1) := by decide +kernel
theorem d2_60 : decode method_3_code 60 = .ok (.ireturn, 1) := by decide +kernel
theorem d2_61 : decode method_3_code 61 = .ok (.iload 5, 2) := by decide +kernel
theorem d2_63 : decode method_3_code 63 = .ok (.bipush 48, 2) := by decide +kernel
theorem d2_65 : decode method_3_code 65 = .ok (.isub, 1) := by decide +kernel
theorem d2_66 : decode method_3_code 66 = .ok (.aload 4, 2) := by decide +kernel
theorem d2_68 : decode method_3_code 68 = .ok (.iload_n 2, 1) := by decide +kernel
theorem d2_69 : decode method_3_code 69 = .ok (.iconst 1, 1) := by decide +kernel
theorem d2_70 : decode method_3_code 70 = .ok (.isub, 1) := by decide +kernel
theorem d2_71 : decode method_3_code 71 = .ok (.iload_n 3, 1) := by decide +kernel
theorem d2_72 : decode method_3_code 72 = .ok (.isub, 1) := by decide +kernel
theorem d2_73 : decode method_3_code 73 = .ok (.iaload, 1) := by decide +kernel
theorem d2_74 : decode method_3_code 74 = .ok (.imul, 1) := by decide +kernel
theorem d2_75 : decode method_3_code 75 = .ok (.ireturn, 1) := by decide +kernel
theorem pn_2 : plainName "com/example/provenir/provenir/Iso2709RecordNumberPinLaw" = true := by first | (simp [plainName, overriddenIn]; done) | decide +kernel
theorem ef_2 (m : MethodId) (a1 : Addr) (p2 : Int32) (p3 : Int32) (p4 : Int32) : entryFrame m #[(.ref a1), (.int p2), (.int p3), (.int p4)] 6 = mkF m 0 #[.val (.ref a1), .val (.int p2), .val (.int p3), .val (.int p4), .unset, .unset] [] := by first | (simp [entryFrame, mkF, argsToLocals, Value.category]; done) | rfl
def Q2 (Z : State) (a1 : Addr) (p2 : Int32) (p3 : Int32) (p4 : Int32) (n_a1 : Nat) (g_a1 : Nat → Int32) (h0 : Heap) (n0 : Nat) (v : Option Value) (h : Heap) (L : List Loc) : Prop := v = some (.int (F2 p2 p3 p4 g_a1)) ∧ Fr n0 L ∧ Keep h0 h []
set_option maxRecDepth 65536 in
set_option maxHeartbeats 40000000 in
theorem rm2 (l : Launch) (Z : State) (a0 : Array Value) (hw : ∀ d ∈ tables_1, d.before a0 Z = true) (ws : List Jvm.Cond) (a1 : Addr) (p2 : Int32) (p3 : Int32) (p4 : Int32) (n_a1 : Nat) (g_a1 : Nat → Int32) (h0 : Heap) (n0 : Nat) (Z0 : n0 ≤ h0.size) (A_a1 : OwnA Z h0 a1 .byte n_a1 (iv' g_a1)) (hs0 : 0 ≤ p2.toInt ∧ p2.toInt ≤ 3) (hs1 : 0 ≤ p3.toInt ∧ p3.toInt ≤ 5) (hs2 : 0 ≤ p4.toInt ∧ p4.toInt ≤ 4) (hs3 : n_a1 = 8) :
    MetFree l (⟨"com/example/provenir/provenir/Iso2709RecordNumberPinLaw", "term", "([BIII)I"⟩ : MethodName) (head1 (Jvm.Cond.code (⟨"com/example/provenir/provenir/Iso2709RecordNumberPinLaw", "term", "([BIII)I"⟩ : MethodName) method_3_code 6 (some .int) :: ws) ({ frames := 0, cells := 1, slots := 5, locals := 0 } : Room)) (fun a U => a = #[(.ref a1), (.int p2), (.int p3), (.int p4)] ∧ Z.Warmed39 U.vm ∧ U.heap = h0) (fun _ _ _ _ _ => True) (fun _ U o U' => ∃ v L, o = .returned v ∧ Q2 Z a1 p2 p3 p4 n_a1 g_a1 h0 n0 v U'.heap L ∧ FrameEnd U o U' L ({ frames := 0, cells := 1, slots := 5, locals := 0 } : Room).cells ({ frames := 0, cells := 1, slots := 5, locals := 0 } : Room).slots) := by
  refine MetFree.of_bodySF (plainFor_of_name pn_2) hisR ?_
  intro p e s m args below meth c s₁ Bd hml0 hP hK
  obtain ⟨rfl, hZ, hh⟩ := hP
  have hx := Bd.exec
  have hby := Bd.bytes
  have hml : c.maxLocals = 6 := hml0
  have hown : s.vm.findClass "com/example/provenir/provenir/Iso2709RecordNumberPinLaw" = some m.cls := findClass_of_methodNamed Bd.named
  have hnm := (name_of_methodNamed Bd.named Bd.method).1
  have X0 : Stand p l e ({ frames := 0, cells := 1, slots := 5, locals := 0 } : Room) s m #[(.ref a1), (.int p2), (.int p3), (.int p4)] below meth c s₁ [] 0 0 := Stand.of_body Bd
  have e0 : s₁.heap = h0 := by rw [← hh, Bd.state]; rfl
  have N0 := Fr.nil n0
  suffices hG : OwnG p e below s (Q2 Z a1 p2 p3 p4 n_a1 g_a1 h0 n0) ({ frames := 0, cells := 1, slots := 5, locals := 0 } : Room).cells ({ frames := 0, cells := 1, slots := 5, locals := 0 } : Room).slots s₁ (mkF m 0 #[.val (.ref a1), .val (.int p2), .val (.int p3), .val (.int p4), .unset, .unset] []) by
    obtain ⟨s2, o2, g1, g2⟩ := hG
    exact ⟨s2, o2, castTop (ef_2 m a1 p2 p3 p4) g1, g2⟩
  have sg1 : ∀ tgt, Steps p.tables e below (s₁.setTop (mkF m 2 #[.val (.ref a1), .val (.int p2), .val (.int p3), .val (.int p4), .unset, .unset] [(.int p3), (.int p4)])) tgt → Steps p.tables e below (s₁.setTop (mkF m 0 #[.val (.ref a1), .val (.int p2), .val (.int p3), .val (.int p4), .unset, .unset] [])) tgt := by
    intro tgt kt
    refine XS.iloadN X0.here hx rfl (hb hby d2_0) rfl ?_
    show Steps p.tables e below (s₁.setTop (mkF m 1 #[.val (.ref a1), .val (.int p2), .val (.int p3), .val (.int p4), .unset, .unset] [(.int p4)])) _
    refine XS.iloadN X0.here hx rfl (hb hby d2_1) rfl ?_
    show Steps p.tables e below (s₁.setTop (mkF m 2 #[.val (.ref a1), .val (.int p2), .val (.int p3), .val (.int p4), .unset, .unset] [(.int p3), (.int p4)])) _
    exact kt
  refine OwnG.st sg1 ?_
  by_cases hc2_2 : p4 < p3
  · have sg3 : ∀ tgt, Steps p.tables e below (s₁.setTop (mkF m 8 #[.val (.ref a1), .val (.int p2), .val (.int p3), .val (.int p4), .unset, .unset] [(.int (5 : Int32))])) tgt → Steps p.tables e below (s₁.setTop (mkF m 2 #[.val (.ref a1), .val (.int p2), .val (.int p3), .val (.int p4), .unset, .unset] [(.int p3), (.int p4)])) tgt := by
      intro tgt kt
      refine XS.icmpYes X0.here hx rfl (pc0 := 2) (pc' := 7) rfl (hb hby d2_2) rfl (tlt hc2_2).1 (by decide) (by decide) ?_
      show Steps p.tables e below (s₁.setTop (mkF m 7 #[.val (.ref a1), .val (.int p2), .val (.int p3), .val (.int p4), .unset, .unset] [])) _
      refine XS.iconst X0.here hx rfl (hb hby d2_7) ?_
      show Steps p.tables e below (s₁.setTop (mkF m 8 #[.val (.ref a1), .val (.int p2), .val (.int p3), .val (.int p4), .unset, .unset] [(.int (5 : Int32))])) _
      exact kt
    refine OwnG.st sg3 ?_
    obtain ⟨T4, h4, k4, X4, e4, E4, A4, st4⟩ := newP X0 hx hZ (hw _ (List.mem_of_getElem? (i := 13) rfl)) e0 (g := (mkF m 8 #[.val (.ref a1), .val (.int p2), .val (.int p3), .val (.int p4), .unset, .unset] [(.int (5 : Int32))])) rfl (hb hby d2_8) rfl (by decide) (cap := 5) (by decide) (by decide) (by decide) (by decide)
    obtain ⟨b4, g4⟩ : ∃ z, z = h0.size := ⟨_, rfl⟩
    rw [← g4] at A4 st4
    have ne4_5 : a1 ≠ b4 := Nat.ne_of_lt (Nat.lt_of_lt_of_le A_a1.lt (Nat.le_of_eq g4.symm))
    have V4 : OwnA Z h4 b4 .int 5 (iv' fun _ => 0) := own_newA A4 (by decide)
    have fA_a1_6 := (A_a1.ext E4)
    have gb_b4 : n0 ≤ b4 := Nat.le_trans Z0 (Nat.le_of_eq g4.symm)
    have Z4 : n0 ≤ h4.size := Nat.le_trans Z0 E4.1
    have sz_b4 : h0.size ≤ b4 := Nat.le_trans (Keep.refl h0 []).1 (Nat.le_of_eq g4.symm)
    have K4 : Keep h0 h4 [] := (Keep.refl h0 []).ext E4
    refine OwnG.st st4 ?_
    show OwnG p e below s _ _ _ T4 (mkF m 10 #[.val (.ref a1), .val (.int p2), .val (.int p3), .val (.int p4), .unset, .unset] [(.ref b4)])
    have sg7 : ∀ tgt, Steps p.tables e below (T4.setTop (mkF m 13 #[.val (.ref a1), .val (.int p2), .val (.int p3), .val (.int p4), .unset, .unset] [(.int (1 : Int32)), (.int (0 : Int32)), (.ref b4), (.ref b4)])) tgt → Steps p.tables e below (T4.setTop (mkF m 10 #[.val (.ref a1), .val (.int p2), .val (.int p3), .val (.int p4), .unset, .unset] [(.ref b4)])) tgt := by
      intro tgt kt
      refine XS.dup X4.here hx rfl (hb hby d2_10) rfl rfl ?_
      show Steps p.tables e below (T4.setTop (mkF m 11 #[.val (.ref a1), .val (.int p2), .val (.int p3), .val (.int p4), .unset, .unset] [(.ref b4), (.ref b4)])) _
      refine XS.iconst X4.here hx rfl (hb hby d2_11) ?_
      show Steps p.tables e below (T4.setTop (mkF m 12 #[.val (.ref a1), .val (.int p2), .val (.int p3), .val (.int p4), .unset, .unset] [(.int (0 : Int32)), (.ref b4), (.ref b4)])) _
      refine XS.iconst X4.here hx rfl (hb hby d2_12) ?_
      show Steps p.tables e below (T4.setTop (mkF m 13 #[.val (.ref a1), .val (.int p2), .val (.int p3), .val (.int p4), .unset, .unset] [(.int (1 : Int32)), (.int (0 : Int32)), (.ref b4), (.ref b4)])) _
      exact kt
    refine OwnG.st sg7 ?_
    obtain ⟨T8, h8, X8, e8, W8, V8, st8⟩ := own_stI V4 X4 hx hZ e4 (by decide) (by decide) (gf := (mkF m 13 #[.val (.ref a1), .val (.int p2), .val (.int p3), .val (.int p4), .unset, .unset] [(.int (1 : Int32)), (.int (0 : Int32)), (.ref b4), (.ref b4)])) rfl rfl (hb hby d2_13)
    have V8' : OwnA Z h8 b4 .int 5 (iv' (updv (fun _ => 0) 0 (1 : Int32))) := V8
    have fA_a1_9 := (fA_a1_6.other W8 ne4_5)
    have N8 := Fr.snoc X8 N0 gb_b4
    have Z8 : n0 ≤ h8.size := by rw [W8.size]; exact Z4
    have K8 : Keep h0 h8 [] := K4.wr W8 (Or.inr sz_b4)
    refine OwnG.st st8 ?_
    show OwnG p e below s _ _ _ T8 (mkF m 14 #[.val (.ref a1), .val (.int p2), .val (.int p3), .val (.int p4), .unset, .unset] [(.ref b4)])
    have sg10 : ∀ tgt, Steps p.tables e below (T8.setTop (mkF m 18 #[.val (.ref a1), .val (.int p2), .val (.int p3), .val (.int p4), .unset, .unset] [(.int (10 : Int32)), (.int (1 : Int32)), (.ref b4), (.ref b4)])) tgt → Steps p.tables e below (T8.setTop (mkF m 14 #[.val (.ref a1), .val (.int p2), .val (.int p3), .val (.int p4), .unset, .unset] [(.ref b4)])) tgt := by
      intro tgt kt
      refine XS.dup X8.here hx rfl (hb hby d2_14) rfl rfl ?_
      show Steps p.tables e below (T8.setTop (mkF m 15 #[.val (.ref a1), .val (.int p2), .val (.int p3), .val (.int p4), .unset, .unset] [(.ref b4), (.ref b4)])) _
      refine XS.iconst X8.here hx rfl (hb hby d2_15) ?_
      show Steps p.tables e below (T8.setTop (mkF m 16 #[.val (.ref a1), .val (.int p2), .val (.int p3), .val (.int p4), .unset, .unset] [(.int (1 : Int32)), (.ref b4), (.ref b4)])) _
      refine XS.bipush X8.here hx rfl (hb hby d2_16) ?_
      show Steps p.tables e below (T8.setTop (mkF m 18 #[.val (.ref a1), .val (.int p2), .val (.int p3), .val (.int p4), .unset, .unset] [(.int (10 : Int32)), (.int (1 : Int32)), (.ref b4), (.ref b4)])) _
      exact kt
    refine OwnG.st sg10 ?_
    obtain ⟨T11, h11, X11, e11, W11, V11, st11⟩ := own_stI V8' X8 hx hZ e8 (by decide) (by decide) (gf := (mkF m 18 #[.val (.ref a1), .val (.int p2), .val (.int p3), .val (.int p4), .unset, .unset] [(.int (10 : Int32)), (.int (1 : Int32)), (.ref b4), (.ref b4)])) rfl rfl (hb hby d2_18)
    have V11' : OwnA Z h11 b4 .int 5 (iv' (updv (updv (fun _ => 0) 0 (1 : Int32)) 1 (10 : Int32))) := V11
    have fA_a1_12 := (fA_a1_9.other W11 ne4_5)
    have N11 := Fr.snoc X11 N8 gb_b4
    have Z11 : n0 ≤ h11.size := by rw [W11.size]; exact Z8
    have K11 : Keep h0 h11 [] := K8.wr W11 (Or.inr sz_b4)
    refine OwnG.st st11 ?_
    show OwnG p e below s _ _ _ T11 (mkF m 19 #[.val (.ref a1), .val (.int p2), .val (.int p3), .val (.int p4), .unset, .unset] [(.ref b4)])
    have sg13 : ∀ tgt, Steps p.tables e below (T11.setTop (mkF m 23 #[.val (.ref a1), .val (.int p2), .val (.int p3), .val (.int p4), .unset, .unset] [(.int (100 : Int32)), (.int (2 : Int32)), (.ref b4), (.ref b4)])) tgt → Steps p.tables e below (T11.setTop (mkF m 19 #[.val (.ref a1), .val (.int p2), .val (.int p3), .val (.int p4), .unset, .unset] [(.ref b4)])) tgt := by
      intro tgt kt
      refine XS.dup X11.here hx rfl (hb hby d2_19) rfl rfl ?_
      show Steps p.tables e below (T11.setTop (mkF m 20 #[.val (.ref a1), .val (.int p2), .val (.int p3), .val (.int p4), .unset, .unset] [(.ref b4), (.ref b4)])) _
      refine XS.iconst X11.here hx rfl (hb hby d2_20) ?_
      show Steps p.tables e below (T11.setTop (mkF m 21 #[.val (.ref a1), .val (.int p2), .val (.int p3), .val (.int p4), .unset, .unset] [(.int (2 : Int32)), (.ref b4), (.ref b4)])) _
      refine XS.bipush X11.here hx rfl (hb hby d2_21) ?_
      show Steps p.tables e below (T11.setTop (mkF m 23 #[.val (.ref a1), .val (.int p2), .val (.int p3), .val (.int p4), .unset, .unset] [(.int (100 : Int32)), (.int (2 : Int32)), (.ref b4), (.ref b4)])) _
      exact kt
    refine OwnG.st sg13 ?_
    obtain ⟨T14, h14, X14, e14, W14, V14, st14⟩ := own_stI V11' X11 hx hZ e11 (by decide) (by decide) (gf := (mkF m 23 #[.val (.ref a1), .val (.int p2), .val (.int p3), .val (.int p4), .unset, .unset] [(.int (100 : Int32)), (.int (2 : Int32)), (.ref b4), (.ref b4)])) rfl rfl (hb hby d2_23)
    have V14' : OwnA Z h14 b4 .int 5 (iv' (updv (updv (updv (fun _ => 0) 0 (1 : Int32)) 1 (10 : Int32)) 2 (100 : Int32))) := V14
    have fA_a1_15 := (fA_a1_12.other W14 ne4_5)
    have N14 := Fr.snoc X14 N11 gb_b4
    have Z14 : n0 ≤ h14.size := by rw [W14.size]; exact Z11
    have K14 : Keep h0 h14 [] := K11.wr W14 (Or.inr sz_b4)
    refine OwnG.st st14 ?_
    show OwnG p e below s _ _ _ T14 (mkF m 24 #[.val (.ref a1), .val (.int p2), .val (.int p3), .val (.int p4), .unset, .unset] [(.ref b4)])
    have sg16 : ∀ tgt, Steps p.tables e below (T14.setTop (mkF m 29 #[.val (.ref a1), .val (.int p2), .val (.int p3), .val (.int p4), .unset, .unset] [(.int (1000 : Int32)), (.int (3 : Int32)), (.ref b4), (.ref b4)])) tgt → Steps p.tables e below (T14.setTop (mkF m 24 #[.val (.ref a1), .val (.int p2), .val (.int p3), .val (.int p4), .unset, .unset] [(.ref b4)])) tgt := by
      intro tgt kt
      refine XS.dup X14.here hx rfl (hb hby d2_24) rfl rfl ?_
      show Steps p.tables e below (T14.setTop (mkF m 25 #[.val (.ref a1), .val (.int p2), .val (.int p3), .val (.int p4), .unset, .unset] [(.ref b4), (.ref b4)])) _
      refine XS.iconst X14.here hx rfl (hb hby d2_25) ?_
      show Steps p.tables e below (T14.setTop (mkF m 26 #[.val (.ref a1), .val (.int p2), .val (.int p3), .val (.int p4), .unset, .unset] [(.int (3 : Int32)), (.ref b4), (.ref b4)])) _
      refine XS.sipush X14.here hx rfl (hb hby d2_26) ?_
      show Steps p.tables e below (T14.setTop (mkF m 29 #[.val (.ref a1), .val (.int p2), .val (.int p3), .val (.int p4), .unset, .unset] [(.int (1000 : Int32)), (.int (3 : Int32)), (.ref b4), (.ref b4)])) _
      exact kt
    refine OwnG.st sg16 ?_
    obtain ⟨T17, h17, X17, e17, W17, V17, st17⟩ := own_stI V14' X14 hx hZ e14 (by decide) (by decide) (gf := (mkF m 29 #[.val (.ref a1), .val (.int p2), .val (.int p3), .val (.int p4), .unset, .unset] [(.int (1000 : Int32)), (.int (3 : Int32)), (.ref b4), (.ref b4)])) rfl rfl (hb hby d2_29)
    have V17' : OwnA Z h17 b4 .int 5 (iv' (updv (updv (updv (updv (fun _ => 0) 0 (1 : Int32)) 1 (10 : Int32)) 2 (100 : Int32)) 3 (1000 : Int32))) := V17
    have fA_a1_18 := (fA_a1_15.other W17 ne4_5)
    have N17 := Fr.snoc X17 N14 gb_b4
    have Z17 : n0 ≤ h17.size := by rw [W17.size]; exact Z14
    have K17 : Keep h0 h17 [] := K14.wr W17 (Or.inr sz_b4)
    refine OwnG.st st17 ?_
    show OwnG p e below s _ _ _ T17 (mkF m 30 #[.val (.ref a1), .val (.int p2), .val (.int p3), .val (.int p4), .unset, .unset] [(.ref b4)])
    have sg19 : ∀ tgt, Steps p.tables e below (T17.setTop (mkF m 35 #[.val (.ref a1), .val (.int p2), .val (.int p3), .val (.int p4), .unset, .unset] [(.int (10000 : Int32)), (.int (4 : Int32)), (.ref b4), (.ref b4)])) tgt → Steps p.tables e below (T17.setTop (mkF m 30 #[.val (.ref a1), .val (.int p2), .val (.int p3), .val (.int p4), .unset, .unset] [(.ref b4)])) tgt := by
      intro tgt kt
      refine XS.dup X17.here hx rfl (hb hby d2_30) rfl rfl ?_
      show Steps p.tables e below (T17.setTop (mkF m 31 #[.val (.ref a1), .val (.int p2), .val (.int p3), .val (.int p4), .unset, .unset] [(.ref b4), (.ref b4)])) _
      refine XS.iconst X17.here hx rfl (hb hby d2_31) ?_
      show Steps p.tables e below (T17.setTop (mkF m 32 #[.val (.ref a1), .val (.int p2), .val (.int p3), .val (.int p4), .unset, .unset] [(.int (4 : Int32)), (.ref b4), (.ref b4)])) _
      refine XS.sipush X17.here hx rfl (hb hby d2_32) ?_
      show Steps p.tables e below (T17.setTop (mkF m 35 #[.val (.ref a1), .val (.int p2), .val (.int p3), .val (.int p4), .unset, .unset] [(.int (10000 : Int32)), (.int (4 : Int32)), (.ref b4), (.ref b4)])) _
      exact kt
    refine OwnG.st sg19 ?_
    obtain ⟨T20, h20, X20, e20, W20, V20, st20⟩ := own_stI V17' X17 hx hZ e17 (by decide) (by decide) (gf := (mkF m 35 #[.val (.ref a1), .val (.int p2), .val (.int p3), .val (.int p4), .unset, .unset] [(.int (10000 : Int32)), (.int (4 : Int32)), (.ref b4), (.ref b4)])) rfl rfl (hb hby d2_35)
    have V20' : OwnA Z h20 b4 .int 5 (iv' (updv (updv (updv (updv (updv (fun _ => 0) 0 (1 : Int32)) 1 (10 : Int32)) 2 (100 : Int32)) 3 (1000 : Int32)) 4 (10000 : Int32))) := V20
    have fA_a1_21 := (fA_a1_18.other W20 ne4_5)
    have N20 := Fr.snoc X20 N17 gb_b4
    have Z20 : n0 ≤ h20.size := by rw [W20.size]; exact Z17
    have K20 : Keep h0 h20 [] := K17.wr W20 (Or.inr sz_b4)
    refine OwnG.st st20 ?_
    show OwnG p e below s _ _ _ T20 (mkF m 36 #[.val (.ref a1), .val (.int p2), .val (.int p3), .val (.int p4), .unset, .unset] [(.ref b4)])
    have sg22 : ∀ tgt, Steps p.tables e below (T20.setTop (mkF m 49 #[.val (.ref a1), .val (.int p2), .val (.int p3), .val (.int p4), .val (.ref b4), .val (.int (g_a1 (p2 + p4).toInt.toNat))] [(.int (48 : Int32)), (.int (g_a1 (p2 + p4).toInt.toNat))])) tgt → Steps p.tables e below (T20.setTop (mkF m 36 #[.val (.ref a1), .val (.int p2), .val (.int p3), .val (.int p4), .unset, .unset] [(.ref b4)])) tgt := by
      intro tgt kt
      refine XS.astore X20.here hx rfl (hb hby d2_36) rfl rfl (l' := #[.val (.ref a1), .val (.int p2), .val (.int p3), .val (.int p4), .val (.ref b4), .unset]) rfl ?_
      show Steps p.tables e below (T20.setTop (mkF m 38 #[.val (.ref a1), .val (.int p2), .val (.int p3), .val (.int p4), .val (.ref b4), .unset] [])) _
      refine XS.aloadN X20.here hx rfl (hb hby d2_38) rfl rfl ?_
      show Steps p.tables e below (T20.setTop (mkF m 39 #[.val (.ref a1), .val (.int p2), .val (.int p3), .val (.int p4), .val (.ref b4), .unset] [(.ref a1)])) _
      refine XS.iloadN X20.here hx rfl (hb hby d2_39) rfl ?_
      show Steps p.tables e below (T20.setTop (mkF m 40 #[.val (.ref a1), .val (.int p2), .val (.int p3), .val (.int p4), .val (.ref b4), .unset] [(.int p2), (.ref a1)])) _
      refine XS.iloadN X20.here hx rfl (hb hby d2_40) rfl ?_
      show Steps p.tables e below (T20.setTop (mkF m 41 #[.val (.ref a1), .val (.int p2), .val (.int p3), .val (.int p4), .val (.ref b4), .unset] [(.int p4), (.int p2), (.ref a1)])) _
      refine XS.iadd X20.here hx rfl (hb hby d2_41) rfl ?_
      show Steps p.tables e below (T20.setTop (mkF m 42 #[.val (.ref a1), .val (.int p2), .val (.int p3), .val (.int p4), .val (.ref b4), .unset] [(.int (p2 + p4)), (.ref a1)])) _
      refine own_ldB fA_a1_21 X20 hx hZ e20 (by have q := own_ad p2 p4 hs0 ⟨hs2.1, by have q := Int32.lt_iff_toInt_lt.mp hc2_2; omega⟩; rw [q]; omega) (by have r := Int32.lt_iff_toInt_lt.mp hc2_2; have q := own_ad p2 p4 hs0 ⟨hs2.1, by omega⟩; rw [q, hs3]; omega) (gf := (mkF m 42 #[.val (.ref a1), .val (.int p2), .val (.int p3), .val (.int p4), .val (.ref b4), .unset] [(.int (p2 + p4)), (.ref a1)])) rfl rfl (hb hby d2_42) _ ?_
      show Steps p.tables e below (T20.setTop (mkF m 43 #[.val (.ref a1), .val (.int p2), .val (.int p3), .val (.int p4), .val (.ref b4), .unset] [(.int (g_a1 (p2 + p4).toInt.toNat))])) _
      refine XS.istore X20.here hx rfl (hb hby d2_43) rfl (l' := #[.val (.ref a1), .val (.int p2), .val (.int p3), .val (.int p4), .val (.ref b4), .val (.int (g_a1 (p2 + p4).toInt.toNat))]) rfl ?_
      show Steps p.tables e below (T20.setTop (mkF m 45 #[.val (.ref a1), .val (.int p2), .val (.int p3), .val (.int p4), .val (.ref b4), .val (.int (g_a1 (p2 + p4).toInt.toNat))] [])) _
      refine XS.iload X20.here hx rfl (hb hby d2_45) rfl ?_
      show Steps p.tables e below (T20.setTop (mkF m 47 #[.val (.ref a1), .val (.int p2), .val (.int p3), .val (.int p4), .val (.ref b4), .val (.int (g_a1 (p2 + p4).toInt.toNat))] [(.int (g_a1 (p2 + p4).toInt.toNat))])) _
      refine XS.bipush X20.here hx rfl (hb hby d2_47) ?_
      show Steps p.tables e below (T20.setTop (mkF m 49 #[.val (.ref a1), .val (.int p2), .val (.int p3), .val (.int p4), .val (.ref b4), .val (.int (g_a1 (p2 + p4).toInt.toNat))] [(.int (48 : Int32)), (.int (g_a1 (p2 + p4).toInt.toNat))])) _
      exact kt
    refine OwnG.st sg22 ?_
    by_cases hc49_23 : (g_a1 (p2 + p4).toInt.toNat) < (48 : Int32)
    · have sg24 : ∀ tgt, Steps p.tables e below (T20.setTop (mkF m 60 #[.val (.ref a1), .val (.int p2), .val (.int p3), .val (.int p4), .val (.ref b4), .val (.int (g_a1 (p2 + p4).toInt.toNat))] [(.int (-1 : Int32))])) tgt → Steps p.tables e below (T20.setTop (mkF m 49 #[.val (.ref a1), .val (.int p2), .val (.int p3), .val (.int p4), .val (.ref b4), .val (.int (g_a1 (p2 + p4).toInt.toNat))] [(.int (48 : Int32)), (.int (g_a1 (p2 + p4).toInt.toNat))])) tgt := by
        intro tgt kt
        refine XS.icmpYes X20.here hx rfl (pc0 := 49) (pc' := 59) rfl (hb hby d2_49) rfl (tlt hc49_23).1 (by decide) (by decide) ?_
        show Steps p.tables e below (T20.setTop (mkF m 59 #[.val (.ref a1), .val (.int p2), .val (.int p3), .val (.int p4), .val (.ref b4), .val (.int (g_a1 (p2 + p4).toInt.toNat))] [])) _
        refine XS.iconst X20.here hx rfl (hb hby d2_59) ?_
        show Steps p.tables e below (T20.setTop (mkF m 60 #[.val (.ref a1), .val (.int p2), .val (.int p3), .val (.int p4), .val (.ref b4), .val (.int (g_a1 (p2 + p4).toInt.toNat))] [(.int (-1 : Int32))])) _
        exact kt
      refine OwnG.st sg24 ?_
      have hv : (-1 : Int32) = F2 p2 p3 p4 g_a1 := by simp only [F2, if_pos hc2_2, if_pos hc49_23]
      exact OwnG.retI X20 hx Bd.returns (BodyLoose.notSynchronized Bd) (hb hby d2_60) ⟨congrArg (fun w => some (Value.int w)) hv, N20, (e20 ▸ K20)⟩ (by decide) (by decide)
    · have sg25 : ∀ tgt, Steps p.tables e below (T20.setTop (mkF m 56 #[.val (.ref a1), .val (.int p2), .val (.int p3), .val (.int p4), .val (.ref b4), .val (.int (g_a1 (p2 + p4).toInt.toNat))] [(.int (57 : Int32)), (.int (g_a1 (p2 + p4).toInt.toNat))])) tgt → Steps p.tables e below (T20.setTop (mkF m 49 #[.val (.ref a1), .val (.int p2), .val (.int p3), .val (.int p4), .val (.ref b4), .val (.int (g_a1 (p2 + p4).toInt.toNat))] [(.int (48 : Int32)), (.int (g_a1 (p2 + p4).toInt.toNat))])) tgt := by
        intro tgt kt
        refine XS.icmpNo X20.here hx rfl (hb hby d2_49) rfl (flt hc49_23).1 ?_
        show Steps p.tables e below (T20.setTop (mkF m 52 #[.val (.ref a1), .val (.int p2), .val (.int p3), .val (.int p4), .val (.ref b4), .val (.int (g_a1 (p2 + p4).toInt.toNat))] [])) _
        refine XS.iload X20.here hx rfl (hb hby d2_52) rfl ?_
        show Steps p.tables e below (T20.setTop (mkF m 54 #[.val (.ref a1), .val (.int p2), .val (.int p3), .val (.int p4), .val (.ref b4), .val (.int (g_a1 (p2 + p4).toInt.toNat))] [(.int (g_a1 (p2 + p4).toInt.toNat))])) _
        refine XS.bipush X20.here hx rfl (hb hby d2_54) ?_
        show Steps p.tables e below (T20.setTop (mkF m 56 #[.val (.ref a1), .val (.int p2), .val (.int p3), .val (.int p4), .val (.ref b4), .val (.int (g_a1 (p2 + p4).toInt.toNat))] [(.int (57 : Int32)), (.int (g_a1 (p2 + p4).toInt.toNat))])) _
        exact kt
      refine OwnG.st sg25 ?_
      by_cases hc56_26 : (57 : Int32) < (g_a1 (p2 + p4).toInt.toNat)
      · have sg27 : ∀ tgt, Steps p.tables e below (T20.setTop (mkF m 60 #[.val (.ref a1), .val (.int p2), .val (.int p3), .val (.int p4), .val (.ref b4), .val (.int (g_a1 (p2 + p4).toInt.toNat))] [(.int (-1 : Int32))])) tgt → Steps p.tables e below (T20.setTop (mkF m 56 #[.val (.ref a1), .val (.int p2), .val (.int p3), .val (.int p4), .val (.ref b4), .val (.int (g_a1 (p2 + p4).toInt.toNat))] [(.int (57 : Int32)), (.int (g_a1 (p2 + p4).toInt.toNat))])) tgt := by
          intro tgt kt
          refine XS.icmpNo X20.here hx rfl (hb hby d2_56) rfl (tlt hc56_26).2.2.2 ?_
          show Steps p.tables e below (T20.setTop (mkF m 59 #[.val (.ref a1), .val (.int p2), .val (.int p3), .val (.int p4), .val (.ref b4), .val (.int (g_a1 (p2 + p4).toInt.toNat))] [])) _
          refine XS.iconst X20.here hx rfl (hb hby d2_59) ?_
          show Steps p.tables e below (T20.setTop (mkF m 60 #[.val (.ref a1), .val (.int p2), .val (.int p3), .val (.int p4), .val (.ref b4), .val (.int (g_a1 (p2 + p4).toInt.toNat))] [(.int (-1 : Int32))])) _
          exact kt
        refine OwnG.st sg27 ?_
        have hv : (-1 : Int32) = F2 p2 p3 p4 g_a1 := by simp only [F2, if_pos hc2_2, if_neg hc49_23, if_pos hc56_26]
        exact OwnG.retI X20 hx Bd.returns (BodyLoose.notSynchronized Bd) (hb hby d2_60) ⟨congrArg (fun w => some (Value.int w)) hv, N20, (e20 ▸ K20)⟩ (by decide) (by decide)
      · have sg28 : ∀ tgt, Steps p.tables e below (T20.setTop (mkF m 75 #[.val (.ref a1), .val (.int p2), .val (.int p3), .val (.int p4), .val (.ref b4), .val (.int (g_a1 (p2 + p4).toInt.toNat))] [(.int (((g_a1 (p2 + p4).toInt.toNat) - (48 : Int32)) * ((updv (updv (updv (updv (updv (fun _ => 0) 0 (1 : Int32)) 1 (10 : Int32)) 2 (100 : Int32)) 3 (1000 : Int32)) 4 (10000 : Int32)) ((p3 - (1 : Int32)) - p4).toInt.toNat)))])) tgt → Steps p.tables e below (T20.setTop (mkF m 56 #[.val (.ref a1), .val (.int p2), .val (.int p3), .val (.int p4), .val (.ref b4), .val (.int (g_a1 (p2 + p4).toInt.toNat))] [(.int (57 : Int32)), (.int (g_a1 (p2 + p4).toInt.toNat))])) tgt := by
          intro tgt kt
          refine XS.icmpYes X20.here hx rfl (pc0 := 56) (pc' := 61) rfl (hb hby d2_56) rfl (flt hc56_26).2.2.2 (by decide) (by decide) ?_
          show Steps p.tables e below (T20.setTop (mkF m 61 #[.val (.ref a1), .val (.int p2), .val (.int p3), .val (.int p4), .val (.ref b4), .val (.int (g_a1 (p2 + p4).toInt.toNat))] [])) _
          refine XS.iload X20.here hx rfl (hb hby d2_61) rfl ?_
          show Steps p.tables e below (T20.setTop (mkF m 63 #[.val (.ref a1), .val (.int p2), .val (.int p3), .val (.int p4), .val (.ref b4), .val (.int (g_a1 (p2 + p4).toInt.toNat))] [(.int (g_a1 (p2 + p4).toInt.toNat))])) _
          refine XS.bipush X20.here hx rfl (hb hby d2_63) ?_
          show Steps p.tables e below (T20.setTop (mkF m 65 #[.val (.ref a1), .val (.int p2), .val (.int p3), .val (.int p4), .val (.ref b4), .val (.int (g_a1 (p2 + p4).toInt.toNat))] [(.int (48 : Int32)), (.int (g_a1 (p2 + p4).toInt.toNat))])) _
          refine XS.isub X20.here hx rfl (hb hby d2_65) rfl ?_
          show Steps p.tables e below (T20.setTop (mkF m 66 #[.val (.ref a1), .val (.int p2), .val (.int p3), .val (.int p4), .val (.ref b4), .val (.int (g_a1 (p2 + p4).toInt.toNat))] [(.int ((g_a1 (p2 + p4).toInt.toNat) - (48 : Int32)))])) _
          refine XS.aload X20.here hx rfl (hb hby d2_66) rfl rfl ?_
          show Steps p.tables e below (T20.setTop (mkF m 68 #[.val (.ref a1), .val (.int p2), .val (.int p3), .val (.int p4), .val (.ref b4), .val (.int (g_a1 (p2 + p4).toInt.toNat))] [(.ref b4), (.int ((g_a1 (p2 + p4).toInt.toNat) - (48 : Int32)))])) _
          refine XS.iloadN X20.here hx rfl (hb hby d2_68) rfl ?_
          show Steps p.tables e below (T20.setTop (mkF m 69 #[.val (.ref a1), .val (.int p2), .val (.int p3), .val (.int p4), .val (.ref b4), .val (.int (g_a1 (p2 + p4).toInt.toNat))] [(.int p3), (.ref b4), (.int ((g_a1 (p2 + p4).toInt.toNat) - (48 : Int32)))])) _
          refine XS.iconst X20.here hx rfl (hb hby d2_69) ?_
          show Steps p.tables e below (T20.setTop (mkF m 70 #[.val (.ref a1), .val (.int p2), .val (.int p3), .val (.int p4), .val (.ref b4), .val (.int (g_a1 (p2 + p4).toInt.toNat))] [(.int (1 : Int32)), (.int p3), (.ref b4), (.int ((g_a1 (p2 + p4).toInt.toNat) - (48 : Int32)))])) _
          refine XS.isub X20.here hx rfl (hb hby d2_70) rfl ?_
          show Steps p.tables e below (T20.setTop (mkF m 71 #[.val (.ref a1), .val (.int p2), .val (.int p3), .val (.int p4), .val (.ref b4), .val (.int (g_a1 (p2 + p4).toInt.toNat))] [(.int (p3 - (1 : Int32))), (.ref b4), (.int ((g_a1 (p2 + p4).toInt.toNat) - (48 : Int32)))])) _
          refine XS.iloadN X20.here hx rfl (hb hby d2_71) rfl ?_
          show Steps p.tables e below (T20.setTop (mkF m 72 #[.val (.ref a1), .val (.int p2), .val (.int p3), .val (.int p4), .val (.ref b4), .val (.int (g_a1 (p2 + p4).toInt.toNat))] [(.int p4), (.int (p3 - (1 : Int32))), (.ref b4), (.int ((g_a1 (p2 + p4).toInt.toNat) - (48 : Int32)))])) _
          refine XS.isub X20.here hx rfl (hb hby d2_72) rfl ?_
          show Steps p.tables e below (T20.setTop (mkF m 73 #[.val (.ref a1), .val (.int p2), .val (.int p3), .val (.int p4), .val (.ref b4), .val (.int (g_a1 (p2 + p4).toInt.toNat))] [(.int ((p3 - (1 : Int32)) - p4)), (.ref b4), (.int ((g_a1 (p2 + p4).toInt.toNat) - (48 : Int32)))])) _
          refine own_ldI V20' X20 hx hZ e20 (own_wi _ _ hs1.2 hs2.1 hc2_2).1 (own_wi _ _ hs1.2 hs2.1 hc2_2).2 (gf := (mkF m 73 #[.val (.ref a1), .val (.int p2), .val (.int p3), .val (.int p4), .val (.ref b4), .val (.int (g_a1 (p2 + p4).toInt.toNat))] [(.int ((p3 - (1 : Int32)) - p4)), (.ref b4), (.int ((g_a1 (p2 + p4).toInt.toNat) - (48 : Int32)))])) rfl rfl (hb hby d2_73) _ ?_
          show Steps p.tables e below (T20.setTop (mkF m 74 #[.val (.ref a1), .val (.int p2), .val (.int p3), .val (.int p4), .val (.ref b4), .val (.int (g_a1 (p2 + p4).toInt.toNat))] [(.int ((updv (updv (updv (updv (updv (fun _ => 0) 0 (1 : Int32)) 1 (10 : Int32)) 2 (100 : Int32)) 3 (1000 : Int32)) 4 (10000 : Int32)) ((p3 - (1 : Int32)) - p4).toInt.toNat)), (.int ((g_a1 (p2 + p4).toInt.toNat) - (48 : Int32)))])) _
          refine XS.imul X20.here hx rfl (hb hby d2_74) rfl ?_
          show Steps p.tables e below (T20.setTop (mkF m 75 #[.val (.ref a1), .val (.int p2), .val (.int p3), .val (.int p4), .val (.ref b4), .val (.int (g_a1 (p2 + p4).toInt.toNat))] [(.int (((g_a1 (p2 + p4).toInt.toNat) - (48 : Int32)) * ((updv (updv (updv (updv (updv (fun _ => 0) 0 (1 : Int32)) 1 (10 : Int32)) 2 (100 : Int32)) 3 (1000 : Int32)) 4 (10000 : Int32)) ((p3 - (1 : Int32)) - p4).toInt.toNat)))])) _
          exact kt
        refine OwnG.st sg28 ?_
        have hv : (((g_a1 (p2 + p4).toInt.toNat) - (48 : Int32)) * ((updv (updv (updv (updv (updv (fun _ => 0) 0 (1 : Int32)) 1 (10 : Int32)) 2 (100 : Int32)) 3 (1000 : Int32)) 4 (10000 : Int32)) ((p3 - (1 : Int32)) - p4).toInt.toNat)) = F2 p2 p3 p4 g_a1 := by simp only [F2, if_pos hc2_2, if_neg hc49_23, if_neg hc56_26]
        exact OwnG.retI X20 hx Bd.returns (BodyLoose.notSynchronized Bd) (hb hby d2_75) ⟨congrArg (fun w => some (Value.int w)) hv, N20, (e20 ▸ K20)⟩ (by decide) (by decide)
  · have sg29 : ∀ tgt, Steps p.tables e below (s₁.setTop (mkF m 6 #[.val (.ref a1), .val (.int p2), .val (.int p3), .val (.int p4), .unset, .unset] [(.int (0 : Int32))])) tgt → Steps p.tables e below (s₁.setTop (mkF m 2 #[.val (.ref a1), .val (.int p2), .val (.int p3), .val (.int p4), .unset, .unset] [(.int p3), (.int p4)])) tgt := by
      intro tgt kt
      refine XS.icmpNo X0.here hx rfl (hb hby d2_2) rfl (flt hc2_2).1 ?_
      show Steps p.tables e below (s₁.setTop (mkF m 5 #[.val (.ref a1), .val (.int p2), .val (.int p3), .val (.int p4), .unset, .unset] [])) _
      refine XS.iconst X0.here hx rfl (hb hby d2_5) ?_
      show Steps p.tables e below (s₁.setTop (mkF m 6 #[.val (.ref a1), .val (.int p2), .val (.int p3), .val (.int p4), .unset, .unset] [(.int (0 : Int32))])) _
      exact kt
    refine OwnG.st sg29 ?_
    have hv : (0 : Int32) = F2 p2 p3 p4 g_a1 := by simp only [F2, if_neg hc2_2]
    exact OwnG.retI X0 hx Bd.returns (BodyLoose.notSynchronized Bd) (hb hby d2_6) ⟨congrArg (fun w => some (Value.int w)) hv, N0, (e0 ▸ (Keep.refl h0 []))⟩ (by decide) (by decide)
theorem d3_0 : decode prog_12_method_5_code 0 = .ok (.iconst 0, 1) := by decide +kernel
theorem d3_1 : decode prog_12_method_5_code 1 = .ok (.istore_n 3, 1) := by decide +kernel
theorem d3_2 : decode prog_12_method_5_code 2 = .ok (.iload_n 1, 1) := by decide +kernel
theorem d3_3 : decode prog_12_method_5_code 3 = .ok (.istore 4, 2) := by decide +kernel
theorem d3_5 : decode prog_12_method_5_code 5 = .ok (.iload 4, 2) := by decide +kernel
theorem d3_7 : decode prog_12_method_5_code 7 = .ok (.iload_n 1, 1) := by decide +kernel
theorem d3_8 : decode prog_12_method_5_code 8 = .ok (.iload_n 2, 1) := by decide +kernel
theorem d3_9 : decode prog_12_method_5_code 9 = .ok (.iadd, 1) := by decide +kernel
theorem d3_10 : decode prog_12_method_5_code 10 = .ok (.if_icmp .ge 42, 3) := by decide +kernel
theorem d3_13 : decode prog_12_method_5_code 13 = .ok (.aload_n 0, 1) := by decide +kernel
theorem d3_14 : decode prog_12_method_5_code 14 = .ok (.iload 4, 2) := by decide +kernel
theorem d3_16 : decode prog_12_method_5_code 16 = .ok (.baload, 1) := by decide +kernel
theorem d3_17 : decode prog_12_method_5_code 17 = .ok (.bipush 48, 2) := by decide +kernel
theorem d3_19 : decode prog_12_method_5_code 19 = .ok (.if_icmp .lt 12, 3) := by decide +kernel
theorem d3_22 : decode prog_12_method_5_code 22 = .ok (.aload_n 0, 1) := by decide +kernel
theorem d3_23 : decode prog_12_method_5_code 23 = .ok (.iload 4, 2) := by decide +kernel
theorem d3_25 : decode prog_12_method_5_code 25 = .ok (.baload, 1) := by decide +kernel
theorem d3_26 : decode prog_12_method_5_code 26 = .ok (.bipush 57, 2) := by decide +kernel
theorem d3_28 : decode prog_12_method_5_code 28 = .ok (.if_icmp .le 5, 3) := by decide +kernel
theorem d3_31 : decode prog_12_method_5_code 31 = .ok (.iconst (-1), 1) := by decide +kernel
theorem d3_32 : decode prog_12_method_5_code 32 = .ok (.ireturn, 1) := by decide +kernel
theorem d3_33 : decode prog_12_method_5_code 33 = .ok (.iload_n 3, 1) := by decide +kernel
theorem d3_34 : decode prog_12_method_5_code 34 = .ok (.bipush 10, 2) := by decide +kernel
theorem d3_36 : decode prog_12_method_5_code 36 = .ok (.imul, 1) := by decide +kernel
theorem d3_37 : decode prog_12_method_5_code 37 = .ok (.aload_n 0, 1) := by decide +kernel
theorem d3_38 : decode prog_12_method_5_code 38 = .ok (.iload 4, 2) := by decide +kernel
theorem d3_40 : decode prog_12_method_5_code 40 = .ok (.baload, 1) := by decide +kernel
theorem d3_41 : decode prog_12_method_5_code 41 = .ok (.iadd, 1) := by decide +kernel
theorem d3_42 : decode prog_12_method_5_code 42 = .ok (.bipush 48, 2) := by decide +kernel
theorem d3_44 : decode prog_12_method_5_code 44 = .ok (.isub, 1) := by decide +kernel
theorem d3_45 : decode prog_12_method_5_code 45 = .ok (.istore_n 3, 1) := by decide +kernel
theorem d3_46 : decode prog_12_method_5_code 46 = .ok (.iinc 4 1, 3) := by decide +kernel
theorem d3_49 : decode prog_12_method_5_code 49 = .ok (.goto (-44), 3) := by decide +kernel
theorem d3_52 : decode prog_12_method_5_code 52 = .ok (.iload_n 3, 1) := by decide +kernel
theorem d3_53 : decode prog_12_method_5_code 53 = .ok (.ireturn, 1) := by decide +kernel
theorem pn_3 : plainName "com/example/provenir/provenir/Iso2709Record" = true := by first | (simp [plainName, overriddenIn]; done) | decide +kernel
theorem ef_3 (m : MethodId) (a1 : Addr) (p2 : Int32) (p3 : Int32) : entryFrame m #[(.ref a1), (.int p2), (.int p3)] 5 = mkF m 0 #[.val (.ref a1), .val (.int p2), .val (.int p3), .unset, .unset] [] := by first | (simp [entryFrame, mkF, argsToLocals, Value.category]; done) | rfl
def Q3 (Z : State) (a1 : Addr) (p2 : Int32) (p3 : Int32) (n_a1 : Nat) (g_a1 : Nat → Int32) (h0 : Heap) (n0 : Nat) (v : Option Value) (h : Heap) (L : List Loc) : Prop := v = some (.int (F3 p2 p3 g_a1)) ∧ Fr n0 L ∧ h = h0
set_option maxRecDepth 65536 in
set_option maxHeartbeats 40000000 in
theorem rm3 (l : Launch) (Z : State) (a0 : Array Value) (hw : ∀ d ∈ tables_1, d.before a0 Z = true) (ws : List Jvm.Cond) (a1 : Addr) (p2 : Int32) (p3 : Int32) (n_a1 : Nat) (g_a1 : Nat → Int32) (h0 : Heap) (n0 : Nat) (Z0 : n0 ≤ h0.size) (A_a1 : OwnA Z h0 a1 .byte n_a1 (iv' g_a1)) (hs0 : 0 ≤ p2.toInt ∧ p2.toInt ≤ 3) (hs1 : 0 ≤ p3.toInt ∧ p3.toInt ≤ 5) (hs3 : n_a1 = 8) :
    MetFree l (⟨"com/example/provenir/provenir/Iso2709Record", "number", "([BII)I"⟩ : MethodName) (head1 (Jvm.Cond.code (⟨"com/example/provenir/provenir/Iso2709Record", "number", "([BII)I"⟩ : MethodName) prog_12_method_5_code 5 (some .int) :: ws) ({ frames := 0, cells := 0, slots := 0, locals := 0 } : Room)) (fun a U => a = #[(.ref a1), (.int p2), (.int p3)] ∧ Z.Warmed39 U.vm ∧ U.heap = h0) (fun _ _ _ _ _ => True) (fun _ U o U' => ∃ v L, o = .returned v ∧ Q3 Z a1 p2 p3 n_a1 g_a1 h0 n0 v U'.heap L ∧ FrameEnd U o U' L ({ frames := 0, cells := 0, slots := 0, locals := 0 } : Room).cells ({ frames := 0, cells := 0, slots := 0, locals := 0 } : Room).slots) := by
  refine MetFree.of_bodySF (plainFor_of_name pn_3) hisR ?_
  intro p e s m args below meth c s₁ Bd hml0 hP hK
  obtain ⟨rfl, hZ, hh⟩ := hP
  have hx := Bd.exec
  have hby := Bd.bytes
  have hml : c.maxLocals = 5 := hml0
  have hown : s.vm.findClass "com/example/provenir/provenir/Iso2709Record" = some m.cls := findClass_of_methodNamed Bd.named
  have hnm := (name_of_methodNamed Bd.named Bd.method).1
  have X0 : Stand p l e ({ frames := 0, cells := 0, slots := 0, locals := 0 } : Room) s m #[(.ref a1), (.int p2), (.int p3)] below meth c s₁ [] 0 0 := Stand.of_body Bd
  have e0 : s₁.heap = h0 := by rw [← hh, Bd.state]; rfl
  have N0 := Fr.nil n0
  suffices hG : OwnG p e below s (Q3 Z a1 p2 p3 n_a1 g_a1 h0 n0) ({ frames := 0, cells := 0, slots := 0, locals := 0 } : Room).cells ({ frames := 0, cells := 0, slots := 0, locals := 0 } : Room).slots s₁ (mkF m 0 #[.val (.ref a1), .val (.int p2), .val (.int p3), .unset, .unset] []) by
    obtain ⟨s2, o2, g1, g2⟩ := hG
    exact ⟨s2, o2, castTop (ef_3 m a1 p2 p3) g1, g2⟩
  have sg1 : ∀ tgt, Steps p.tables e below (s₁.setTop (mkF m 5 #[.val (.ref a1), .val (.int p2), .val (.int p3), .val (.int (0 : Int32)), .val (.int p2)] [])) tgt → Steps p.tables e below (s₁.setTop (mkF m 0 #[.val (.ref a1), .val (.int p2), .val (.int p3), .unset, .unset] [])) tgt := by
    intro tgt kt
    refine XS.iconst X0.here hx rfl (hb hby d3_0) ?_
    show Steps p.tables e below (s₁.setTop (mkF m 1 #[.val (.ref a1), .val (.int p2), .val (.int p3), .unset, .unset] [(.int (0 : Int32))])) _
    refine XS.istoreN X0.here hx rfl (hb hby d3_1) rfl (l' := #[.val (.ref a1), .val (.int p2), .val (.int p3), .val (.int (0 : Int32)), .unset]) rfl ?_
    show Steps p.tables e below (s₁.setTop (mkF m 2 #[.val (.ref a1), .val (.int p2), .val (.int p3), .val (.int (0 : Int32)), .unset] [])) _
    refine XS.iloadN X0.here hx rfl (hb hby d3_2) rfl ?_
    show Steps p.tables e below (s₁.setTop (mkF m 3 #[.val (.ref a1), .val (.int p2), .val (.int p3), .val (.int (0 : Int32)), .unset] [(.int p2)])) _
    refine XS.istore X0.here hx rfl (hb hby d3_3) rfl (l' := #[.val (.ref a1), .val (.int p2), .val (.int p3), .val (.int (0 : Int32)), .val (.int p2)]) rfl ?_
    show Steps p.tables e below (s₁.setTop (mkF m 5 #[.val (.ref a1), .val (.int p2), .val (.int p3), .val (.int (0 : Int32)), .val (.int p2)] [])) _
    exact kt
  refine OwnG.st sg1 ?_
  have hsum := own_ad p2 p3 hs0 hs1
  have lp2 : ∀ (k : Nat) (T : State) (lc : List Loc) (ac : Int32) (i4 : Int32) (X : Stand p l e ({ frames := 0, cells := 0, slots := 0, locals := 0 } : Room) s m #[(.ref a1), (.int p2), (.int p3)] below meth c T lc 0 0) (eT : T.heap = h0) (N : Fr n0 lc) (hI : own_num g_a1 ac i4.toInt.toNat ((p2.toInt + p3.toInt) - i4.toInt).toNat = F3 p2 p3 g_a1) (hi0 : p2.toInt ≤ i4.toInt) (hi1 : i4.toInt ≤ p2.toInt + p3.toInt), ((p2.toInt + p3.toInt) - i4.toInt).toNat = k → OwnG p e below s (Q3 Z a1 p2 p3 n_a1 g_a1 h0 n0) ({ frames := 0, cells := 0, slots := 0, locals := 0 } : Room).cells ({ frames := 0, cells := 0, slots := 0, locals := 0 } : Room).slots T (mkF m 5 #[.val (.ref a1), .val (.int p2), .val (.int p3), .val (.int ac), .val (.int i4)] []) := by
    intro k
    induction k using Nat.strongRecOn with
    | _ k ih =>
      intro T lc ac i4 X eT N hI hi0 hi1 hk
      have sg3 : ∀ tgt, Steps p.tables e below (T.setTop (mkF m 10 #[.val (.ref a1), .val (.int p2), .val (.int p3), .val (.int ac), .val (.int i4)] [(.int (p2 + p3)), (.int i4)])) tgt → Steps p.tables e below (T.setTop (mkF m 5 #[.val (.ref a1), .val (.int p2), .val (.int p3), .val (.int ac), .val (.int i4)] [])) tgt := by
        intro tgt kt
        refine XS.iload X.here hx rfl (hb hby d3_5) rfl ?_
        show Steps p.tables e below (T.setTop (mkF m 7 #[.val (.ref a1), .val (.int p2), .val (.int p3), .val (.int ac), .val (.int i4)] [(.int i4)])) _
        refine XS.iloadN X.here hx rfl (hb hby d3_7) rfl ?_
        show Steps p.tables e below (T.setTop (mkF m 8 #[.val (.ref a1), .val (.int p2), .val (.int p3), .val (.int ac), .val (.int i4)] [(.int p2), (.int i4)])) _
        refine XS.iloadN X.here hx rfl (hb hby d3_8) rfl ?_
        show Steps p.tables e below (T.setTop (mkF m 9 #[.val (.ref a1), .val (.int p2), .val (.int p3), .val (.int ac), .val (.int i4)] [(.int p3), (.int p2), (.int i4)])) _
        refine XS.iadd X.here hx rfl (hb hby d3_9) rfl ?_
        show Steps p.tables e below (T.setTop (mkF m 10 #[.val (.ref a1), .val (.int p2), .val (.int p3), .val (.int ac), .val (.int i4)] [(.int (p2 + p3)), (.int i4)])) _
        exact kt
      refine OwnG.st sg3 ?_
      by_cases hc10_4 : i4 < (p2 + p3)
      · have sg5 : ∀ tgt, Steps p.tables e below (T.setTop (mkF m 19 #[.val (.ref a1), .val (.int p2), .val (.int p3), .val (.int ac), .val (.int i4)] [(.int (48 : Int32)), (.int (g_a1 i4.toInt.toNat))])) tgt → Steps p.tables e below (T.setTop (mkF m 10 #[.val (.ref a1), .val (.int p2), .val (.int p3), .val (.int ac), .val (.int i4)] [(.int (p2 + p3)), (.int i4)])) tgt := by
          intro tgt kt
          refine XS.icmpNo X.here hx rfl (hb hby d3_10) rfl (tlt hc10_4).2.1 ?_
          show Steps p.tables e below (T.setTop (mkF m 13 #[.val (.ref a1), .val (.int p2), .val (.int p3), .val (.int ac), .val (.int i4)] [])) _
          refine XS.aloadN X.here hx rfl (hb hby d3_13) rfl rfl ?_
          show Steps p.tables e below (T.setTop (mkF m 14 #[.val (.ref a1), .val (.int p2), .val (.int p3), .val (.int ac), .val (.int i4)] [(.ref a1)])) _
          refine XS.iload X.here hx rfl (hb hby d3_14) rfl ?_
          show Steps p.tables e below (T.setTop (mkF m 16 #[.val (.ref a1), .val (.int p2), .val (.int p3), .val (.int ac), .val (.int i4)] [(.int i4), (.ref a1)])) _
          refine own_ldB A_a1 X hx hZ eT (by omega) (by have q := Int32.lt_iff_toInt_lt.mp hc10_4; rw [hsum] at q; omega) (gf := (mkF m 16 #[.val (.ref a1), .val (.int p2), .val (.int p3), .val (.int ac), .val (.int i4)] [(.int i4), (.ref a1)])) rfl rfl (hb hby d3_16) _ ?_
          show Steps p.tables e below (T.setTop (mkF m 17 #[.val (.ref a1), .val (.int p2), .val (.int p3), .val (.int ac), .val (.int i4)] [(.int (g_a1 i4.toInt.toNat))])) _
          refine XS.bipush X.here hx rfl (hb hby d3_17) ?_
          show Steps p.tables e below (T.setTop (mkF m 19 #[.val (.ref a1), .val (.int p2), .val (.int p3), .val (.int ac), .val (.int i4)] [(.int (48 : Int32)), (.int (g_a1 i4.toInt.toNat))])) _
          exact kt
        refine OwnG.st sg5 ?_
        by_cases hc19_6 : (g_a1 i4.toInt.toNat) < (48 : Int32)
        · have sg7 : ∀ tgt, Steps p.tables e below (T.setTop (mkF m 32 #[.val (.ref a1), .val (.int p2), .val (.int p3), .val (.int ac), .val (.int i4)] [(.int (-1 : Int32))])) tgt → Steps p.tables e below (T.setTop (mkF m 19 #[.val (.ref a1), .val (.int p2), .val (.int p3), .val (.int ac), .val (.int i4)] [(.int (48 : Int32)), (.int (g_a1 i4.toInt.toNat))])) tgt := by
            intro tgt kt
            refine XS.icmpYes X.here hx rfl (pc0 := 19) (pc' := 31) rfl (hb hby d3_19) rfl (tlt hc19_6).1 (by decide) (by decide) ?_
            show Steps p.tables e below (T.setTop (mkF m 31 #[.val (.ref a1), .val (.int p2), .val (.int p3), .val (.int ac), .val (.int i4)] [])) _
            refine XS.iconst X.here hx rfl (hb hby d3_31) ?_
            show Steps p.tables e below (T.setTop (mkF m 32 #[.val (.ref a1), .val (.int p2), .val (.int p3), .val (.int ac), .val (.int i4)] [(.int (-1 : Int32))])) _
            exact kt
          refine OwnG.st sg7 ?_
          have hv : (-1 : Int32) = F3 p2 p3 g_a1 := by have q := Int32.lt_iff_toInt_lt.mp hc10_4; rw [hsum] at q; rw [show ((p2.toInt + p3.toInt) - i4.toInt).toNat = ((p2.toInt + p3.toInt) - i4.toInt).toNat - 1 + 1 by omega, own_ns, if_pos hc19_6] at hI; exact hI
          exact OwnG.retI X hx Bd.returns (BodyLoose.notSynchronized Bd) (hb hby d3_32) ⟨congrArg (fun w => some (Value.int w)) hv, N, eT⟩ (by decide) (by decide)
        · have sg8 : ∀ tgt, Steps p.tables e below (T.setTop (mkF m 28 #[.val (.ref a1), .val (.int p2), .val (.int p3), .val (.int ac), .val (.int i4)] [(.int (57 : Int32)), (.int (g_a1 i4.toInt.toNat))])) tgt → Steps p.tables e below (T.setTop (mkF m 19 #[.val (.ref a1), .val (.int p2), .val (.int p3), .val (.int ac), .val (.int i4)] [(.int (48 : Int32)), (.int (g_a1 i4.toInt.toNat))])) tgt := by
            intro tgt kt
            refine XS.icmpNo X.here hx rfl (hb hby d3_19) rfl (flt hc19_6).1 ?_
            show Steps p.tables e below (T.setTop (mkF m 22 #[.val (.ref a1), .val (.int p2), .val (.int p3), .val (.int ac), .val (.int i4)] [])) _
            refine XS.aloadN X.here hx rfl (hb hby d3_22) rfl rfl ?_
            show Steps p.tables e below (T.setTop (mkF m 23 #[.val (.ref a1), .val (.int p2), .val (.int p3), .val (.int ac), .val (.int i4)] [(.ref a1)])) _
            refine XS.iload X.here hx rfl (hb hby d3_23) rfl ?_
            show Steps p.tables e below (T.setTop (mkF m 25 #[.val (.ref a1), .val (.int p2), .val (.int p3), .val (.int ac), .val (.int i4)] [(.int i4), (.ref a1)])) _
            refine own_ldB A_a1 X hx hZ eT (by omega) (by have q := Int32.lt_iff_toInt_lt.mp hc10_4; rw [hsum] at q; omega) (gf := (mkF m 25 #[.val (.ref a1), .val (.int p2), .val (.int p3), .val (.int ac), .val (.int i4)] [(.int i4), (.ref a1)])) rfl rfl (hb hby d3_25) _ ?_
            show Steps p.tables e below (T.setTop (mkF m 26 #[.val (.ref a1), .val (.int p2), .val (.int p3), .val (.int ac), .val (.int i4)] [(.int (g_a1 i4.toInt.toNat))])) _
            refine XS.bipush X.here hx rfl (hb hby d3_26) ?_
            show Steps p.tables e below (T.setTop (mkF m 28 #[.val (.ref a1), .val (.int p2), .val (.int p3), .val (.int ac), .val (.int i4)] [(.int (57 : Int32)), (.int (g_a1 i4.toInt.toNat))])) _
            exact kt
          refine OwnG.st sg8 ?_
          by_cases hc28_9 : (57 : Int32) < (g_a1 i4.toInt.toNat)
          · have sg10 : ∀ tgt, Steps p.tables e below (T.setTop (mkF m 32 #[.val (.ref a1), .val (.int p2), .val (.int p3), .val (.int ac), .val (.int i4)] [(.int (-1 : Int32))])) tgt → Steps p.tables e below (T.setTop (mkF m 28 #[.val (.ref a1), .val (.int p2), .val (.int p3), .val (.int ac), .val (.int i4)] [(.int (57 : Int32)), (.int (g_a1 i4.toInt.toNat))])) tgt := by
              intro tgt kt
              refine XS.icmpNo X.here hx rfl (hb hby d3_28) rfl (tlt hc28_9).2.2.2 ?_
              show Steps p.tables e below (T.setTop (mkF m 31 #[.val (.ref a1), .val (.int p2), .val (.int p3), .val (.int ac), .val (.int i4)] [])) _
              refine XS.iconst X.here hx rfl (hb hby d3_31) ?_
              show Steps p.tables e below (T.setTop (mkF m 32 #[.val (.ref a1), .val (.int p2), .val (.int p3), .val (.int ac), .val (.int i4)] [(.int (-1 : Int32))])) _
              exact kt
            refine OwnG.st sg10 ?_
            have hv : (-1 : Int32) = F3 p2 p3 g_a1 := by have q := Int32.lt_iff_toInt_lt.mp hc10_4; rw [hsum] at q; rw [show ((p2.toInt + p3.toInt) - i4.toInt).toNat = ((p2.toInt + p3.toInt) - i4.toInt).toNat - 1 + 1 by omega, own_ns, if_neg hc19_6, if_pos hc28_9] at hI; exact hI
            exact OwnG.retI X hx Bd.returns (BodyLoose.notSynchronized Bd) (hb hby d3_32) ⟨congrArg (fun w => some (Value.int w)) hv, N, eT⟩ (by decide) (by decide)
          · have sg11 : ∀ tgt, Steps p.tables e below (T.setTop (mkF m 5 #[.val (.ref a1), .val (.int p2), .val (.int p3), .val (.int (((ac * (10 : Int32)) + (g_a1 i4.toInt.toNat)) - (48 : Int32))), .val (.int (i4 + (1 : Int32)))] [])) tgt → Steps p.tables e below (T.setTop (mkF m 28 #[.val (.ref a1), .val (.int p2), .val (.int p3), .val (.int ac), .val (.int i4)] [(.int (57 : Int32)), (.int (g_a1 i4.toInt.toNat))])) tgt := by
              intro tgt kt
              refine XS.icmpYes X.here hx rfl (pc0 := 28) (pc' := 33) rfl (hb hby d3_28) rfl (flt hc28_9).2.2.2 (by decide) (by decide) ?_
              show Steps p.tables e below (T.setTop (mkF m 33 #[.val (.ref a1), .val (.int p2), .val (.int p3), .val (.int ac), .val (.int i4)] [])) _
              refine XS.iloadN X.here hx rfl (hb hby d3_33) rfl ?_
              show Steps p.tables e below (T.setTop (mkF m 34 #[.val (.ref a1), .val (.int p2), .val (.int p3), .val (.int ac), .val (.int i4)] [(.int ac)])) _
              refine XS.bipush X.here hx rfl (hb hby d3_34) ?_
              show Steps p.tables e below (T.setTop (mkF m 36 #[.val (.ref a1), .val (.int p2), .val (.int p3), .val (.int ac), .val (.int i4)] [(.int (10 : Int32)), (.int ac)])) _
              refine XS.imul X.here hx rfl (hb hby d3_36) rfl ?_
              show Steps p.tables e below (T.setTop (mkF m 37 #[.val (.ref a1), .val (.int p2), .val (.int p3), .val (.int ac), .val (.int i4)] [(.int (ac * (10 : Int32)))])) _
              refine XS.aloadN X.here hx rfl (hb hby d3_37) rfl rfl ?_
              show Steps p.tables e below (T.setTop (mkF m 38 #[.val (.ref a1), .val (.int p2), .val (.int p3), .val (.int ac), .val (.int i4)] [(.ref a1), (.int (ac * (10 : Int32)))])) _
              refine XS.iload X.here hx rfl (hb hby d3_38) rfl ?_
              show Steps p.tables e below (T.setTop (mkF m 40 #[.val (.ref a1), .val (.int p2), .val (.int p3), .val (.int ac), .val (.int i4)] [(.int i4), (.ref a1), (.int (ac * (10 : Int32)))])) _
              refine own_ldB A_a1 X hx hZ eT (by omega) (by have q := Int32.lt_iff_toInt_lt.mp hc10_4; rw [hsum] at q; omega) (gf := (mkF m 40 #[.val (.ref a1), .val (.int p2), .val (.int p3), .val (.int ac), .val (.int i4)] [(.int i4), (.ref a1), (.int (ac * (10 : Int32)))])) rfl rfl (hb hby d3_40) _ ?_
              show Steps p.tables e below (T.setTop (mkF m 41 #[.val (.ref a1), .val (.int p2), .val (.int p3), .val (.int ac), .val (.int i4)] [(.int (g_a1 i4.toInt.toNat)), (.int (ac * (10 : Int32)))])) _
              refine XS.iadd X.here hx rfl (hb hby d3_41) rfl ?_
              show Steps p.tables e below (T.setTop (mkF m 42 #[.val (.ref a1), .val (.int p2), .val (.int p3), .val (.int ac), .val (.int i4)] [(.int ((ac * (10 : Int32)) + (g_a1 i4.toInt.toNat)))])) _
              refine XS.bipush X.here hx rfl (hb hby d3_42) ?_
              show Steps p.tables e below (T.setTop (mkF m 44 #[.val (.ref a1), .val (.int p2), .val (.int p3), .val (.int ac), .val (.int i4)] [(.int (48 : Int32)), (.int ((ac * (10 : Int32)) + (g_a1 i4.toInt.toNat)))])) _
              refine XS.isub X.here hx rfl (hb hby d3_44) rfl ?_
              show Steps p.tables e below (T.setTop (mkF m 45 #[.val (.ref a1), .val (.int p2), .val (.int p3), .val (.int ac), .val (.int i4)] [(.int (((ac * (10 : Int32)) + (g_a1 i4.toInt.toNat)) - (48 : Int32)))])) _
              refine XS.istoreN X.here hx rfl (hb hby d3_45) rfl (l' := #[.val (.ref a1), .val (.int p2), .val (.int p3), .val (.int (((ac * (10 : Int32)) + (g_a1 i4.toInt.toNat)) - (48 : Int32))), .val (.int i4)]) rfl ?_
              show Steps p.tables e below (T.setTop (mkF m 46 #[.val (.ref a1), .val (.int p2), .val (.int p3), .val (.int (((ac * (10 : Int32)) + (g_a1 i4.toInt.toNat)) - (48 : Int32))), .val (.int i4)] [])) _
              refine XS.iinc X.here hx rfl (hb hby d3_46) rfl (l' := #[.val (.ref a1), .val (.int p2), .val (.int p3), .val (.int (((ac * (10 : Int32)) + (g_a1 i4.toInt.toNat)) - (48 : Int32))), .val (.int (i4 + (1 : Int32)))]) rfl ?_
              show Steps p.tables e below (T.setTop (mkF m 49 #[.val (.ref a1), .val (.int p2), .val (.int p3), .val (.int (((ac * (10 : Int32)) + (g_a1 i4.toInt.toNat)) - (48 : Int32))), .val (.int (i4 + (1 : Int32)))] [])) _
              refine XS.goto X.here hx rfl (pc0 := 49) (pc' := 5) rfl (hb hby d3_49) (by decide) (by decide) ?_
              show Steps p.tables e below (T.setTop (mkF m 5 #[.val (.ref a1), .val (.int p2), .val (.int p3), .val (.int (((ac * (10 : Int32)) + (g_a1 i4.toInt.toNat)) - (48 : Int32))), .val (.int (i4 + (1 : Int32)))] [])) _
              exact kt
            refine OwnG.st sg11 ?_
            have hlt := Int32.lt_iff_toInt_lt.mp hc10_4
            rw [hsum] at hlt
            have a1 := own_ip i4 1 1 rfl (by omega) (by omega)
            refine ih _ (by rw [← hk, a1.1]; omega) T lc _ _ X eT N ?_ (by rw [a1.1]; omega) (by rw [a1.1]; omega) rfl
            rw [show ((p2.toInt + p3.toInt) - i4.toInt).toNat = ((p2.toInt + p3.toInt) - (i4 + (1 : Int32)).toInt).toNat + 1 by rw [a1.1]; omega, own_ns, if_neg hc19_6, if_neg hc28_9, ← a1.2] at hI
            exact hI
      · have sg12 : ∀ tgt, Steps p.tables e below (T.setTop (mkF m 53 #[.val (.ref a1), .val (.int p2), .val (.int p3), .val (.int ac), .val (.int i4)] [(.int ac)])) tgt → Steps p.tables e below (T.setTop (mkF m 10 #[.val (.ref a1), .val (.int p2), .val (.int p3), .val (.int ac), .val (.int i4)] [(.int (p2 + p3)), (.int i4)])) tgt := by
          intro tgt kt
          refine XS.icmpYes X.here hx rfl (pc0 := 10) (pc' := 52) rfl (hb hby d3_10) rfl (flt hc10_4).2.1 (by decide) (by decide) ?_
          show Steps p.tables e below (T.setTop (mkF m 52 #[.val (.ref a1), .val (.int p2), .val (.int p3), .val (.int ac), .val (.int i4)] [])) _
          refine XS.iloadN X.here hx rfl (hb hby d3_52) rfl ?_
          show Steps p.tables e below (T.setTop (mkF m 53 #[.val (.ref a1), .val (.int p2), .val (.int p3), .val (.int ac), .val (.int i4)] [(.int ac)])) _
          exact kt
        refine OwnG.st sg12 ?_
        have hv : ac = F3 p2 p3 g_a1 := by have q := hc10_4; rw [Int32.lt_iff_toInt_lt, hsum] at q; rw [show ((p2.toInt + p3.toInt) - i4.toInt).toNat = 0 by omega, own_n0] at hI; exact hI
        exact OwnG.retI X hx Bd.returns (BodyLoose.notSynchronized Bd) (hb hby d3_53) ⟨congrArg (fun w => some (Value.int w)) hv, N, eT⟩ (by decide) (by decide)
  exact lp2 _ s₁ _  _ _ X0 e0 N0 (by rw [show (p2.toInt + p3.toInt - p2.toInt).toNat = p3.toInt.toNat by omega]; rfl) (by omega) (by omega)  rfl
theorem own_fr (x : Int32) : 0 ≤ (x &&& (3 : Int32)).toInt ∧ (x &&& (3 : Int32)).toInt ≤ 3 := by
  have h := c_mask x 3 2 (by decide) (by decide)
  omega
theorem own_ct (x : Int32) : 0 ≤ (((x.toUInt32 >>> ((2 : Int32) &&& 31).toUInt32).toInt32) - (((x.toUInt32 >>> ((2 : Int32) &&& 31).toUInt32).toInt32) / (6 : Int32)) * (6 : Int32)).toInt ∧ (((x.toUInt32 >>> ((2 : Int32) &&& 31).toUInt32).toInt32) - (((x.toUInt32 >>> ((2 : Int32) &&& 31).toUInt32).toInt32) / (6 : Int32)) * (6 : Int32)).toInt ≤ 5 := by
  have h1 := c_iushr x 2 2 (by decide) (by decide)
  have r := rng32 x
  rw [own_irem]
  have h2 := (c_irem ((x.toUInt32 >>> ((2 : Int32) &&& 31).toUInt32).toInt32) 6 6 rfl).1 (by omega)
  omega
theorem own_tm (g : Nat → Int32) (f n k : Int32) (kk : Nat) (w : Int32) (hf : 0 ≤ f.toInt ∧ f.toInt ≤ 3) (hk : k.toInt = kk) (hkk : kk ≤ 5) (hl : k < n) (hw : (updv (updv (updv (updv (updv (fun _ => 0) 0 (1 : Int32)) 1 (10 : Int32)) 2 (100 : Int32)) 3 (1000 : Int32)) 4 (10000 : Int32)) ((n - (1 : Int32)) - k).toInt.toNat = w) : F2 f n k g = (if g (f.toInt.toNat + kk) < (48 : Int32) then (-1 : Int32) else if (57 : Int32) < g (f.toInt.toNat + kk) then (-1 : Int32) else (g (f.toInt.toNat + kk) - (48 : Int32)) * w) := by
  have a := own_ip f k kk hk hf.1 (by omega)
  unfold F2
  rw [if_pos hl, a.2, hw]
theorem own_tz (g : Nat → Int32) (f n k : Int32) (hl : ¬ k < n) : F2 f n k g = 0 := by
  unfold F2
  rw [if_neg hl]
theorem own_pos (x w : Int32) (h1 : ¬ x < (48 : Int32)) (h2 : ¬ (57 : Int32) < x) (hw : 1 ≤ w.toInt ∧ w.toInt ≤ 10000) : ¬ ((x - (48 : Int32)) * w) < (0 : Int32) := by
  rw [Int32.lt_iff_toInt_lt] at h1 h2 ⊢
  have e0 : (0 : Int32).toInt = 0 := rfl
  have e1 : (48 : Int32).toInt = 48 := rfl
  have e2 : (57 : Int32).toInt = 57 := rfl
  have a := c_isub x 48
  have r := rng32 (x - 48)
  have hd : 0 ≤ (x - 48).toInt ∧ (x - 48).toInt ≤ 9 := by omega
  have b := c_imul (x - 48) w
  have r2 := rng32 ((x - 48) * w)
  have q1 : 0 ≤ (x - 48).toInt * w.toInt := Int.mul_nonneg hd.1 (by omega)
  have q2 : (x - 48).toInt * w.toInt ≤ 9 * 10000 := Int.mul_le_mul hd.2 hw.2 (by omega) (by decide)
  omega
theorem own_n1 : (-1 : Int32) < (0 : Int32) := by decide
theorem own_z0 : ¬ (0 : Int32) < (0 : Int32) := by decide
theorem own_c0 (g : Nat → Int32) (f : Int32) (hf : 0 ≤ f.toInt ∧ f.toInt ≤ 3) : F3 f 0 g = (if (F2 f 0 0 g) < (0 : Int32) then (-1 : Int32) else (if (F2 f 0 1 g) < (0 : Int32) then (-1 : Int32) else (if (F2 f 0 2 g) < (0 : Int32) then (-1 : Int32) else (if (F2 f 0 3 g) < (0 : Int32) then (-1 : Int32) else (if (F2 f 0 4 g) < (0 : Int32) then (-1 : Int32) else (((((F2 f 0 0 g) + (F2 f 0 1 g)) + (F2 f 0 2 g)) + (F2 f 0 3 g)) + (F2 f 0 4 g))))))) := by
  rw [own_tz g f 0 0 (by decide), own_tz g f 0 1 (by decide), own_tz g f 0 2 (by decide), own_tz g f 0 3 (by decide), own_tz g f 0 4 (by decide)]
  show own_num g 0 f.toInt.toNat 0 = _
  simp only [own_n0, if_neg own_z0]
  decide
theorem own_c1 (g : Nat → Int32) (f : Int32) (hf : 0 ≤ f.toInt ∧ f.toInt ≤ 3) : F3 f 1 g = (if (F2 f 1 0 g) < (0 : Int32) then (-1 : Int32) else (if (F2 f 1 1 g) < (0 : Int32) then (-1 : Int32) else (if (F2 f 1 2 g) < (0 : Int32) then (-1 : Int32) else (if (F2 f 1 3 g) < (0 : Int32) then (-1 : Int32) else (if (F2 f 1 4 g) < (0 : Int32) then (-1 : Int32) else (((((F2 f 1 0 g) + (F2 f 1 1 g)) + (F2 f 1 2 g)) + (F2 f 1 3 g)) + (F2 f 1 4 g))))))) := by
  rw [own_tm g f 1 0 0 1 hf rfl (by decide) (by decide) rfl, own_tz g f 1 1 (by decide), own_tz g f 1 2 (by decide), own_tz g f 1 3 (by decide), own_tz g f 1 4 (by decide)]
  show own_num g 0 f.toInt.toNat 1 = _
  rw [own_ns]
  rw [show g f.toInt.toNat = g (f.toInt.toNat + 0) from rfl]
  by_cases a0 : g (f.toInt.toNat + 0) < (48 : Int32)
  · simp only [if_pos a0, if_pos own_n1]
  by_cases b0 : (57 : Int32) < g (f.toInt.toNat + 0)
  · simp only [if_neg a0, if_pos b0, if_pos own_n1]
  simp only [if_neg a0, if_neg b0, if_neg (own_pos _ 1 a0 b0 (by decide))]
  simp only [own_n0, if_neg own_z0]
  grind
theorem own_c2 (g : Nat → Int32) (f : Int32) (hf : 0 ≤ f.toInt ∧ f.toInt ≤ 3) : F3 f 2 g = (if (F2 f 2 0 g) < (0 : Int32) then (-1 : Int32) else (if (F2 f 2 1 g) < (0 : Int32) then (-1 : Int32) else (if (F2 f 2 2 g) < (0 : Int32) then (-1 : Int32) else (if (F2 f 2 3 g) < (0 : Int32) then (-1 : Int32) else (if (F2 f 2 4 g) < (0 : Int32) then (-1 : Int32) else (((((F2 f 2 0 g) + (F2 f 2 1 g)) + (F2 f 2 2 g)) + (F2 f 2 3 g)) + (F2 f 2 4 g))))))) := by
  rw [own_tm g f 2 0 0 10 hf rfl (by decide) (by decide) rfl, own_tm g f 2 1 1 1 hf rfl (by decide) (by decide) rfl, own_tz g f 2 2 (by decide), own_tz g f 2 3 (by decide), own_tz g f 2 4 (by decide)]
  show own_num g 0 f.toInt.toNat 2 = _
  rw [own_ns]
  rw [show g f.toInt.toNat = g (f.toInt.toNat + 0) from rfl]
  by_cases a0 : g (f.toInt.toNat + 0) < (48 : Int32)
  · simp only [if_pos a0, if_pos own_n1]
  by_cases b0 : (57 : Int32) < g (f.toInt.toNat + 0)
  · simp only [if_neg a0, if_pos b0, if_pos own_n1]
  simp only [if_neg a0, if_neg b0, if_neg (own_pos _ 10 a0 b0 (by decide))]
  rw [own_ns, Nat.add_assoc]
  by_cases a1 : g (f.toInt.toNat + 1) < (48 : Int32)
  · simp only [if_pos a1, if_pos own_n1]
  by_cases b1 : (57 : Int32) < g (f.toInt.toNat + 1)
  · simp only [if_neg a1, if_pos b1, if_pos own_n1]
  simp only [if_neg a1, if_neg b1, if_neg (own_pos _ 1 a1 b1 (by decide))]
  simp only [own_n0, if_neg own_z0]
  grind
theorem own_c3 (g : Nat → Int32) (f : Int32) (hf : 0 ≤ f.toInt ∧ f.toInt ≤ 3) : F3 f 3 g = (if (F2 f 3 0 g) < (0 : Int32) then (-1 : Int32) else (if (F2 f 3 1 g) < (0 : Int32) then (-1 : Int32) else (if (F2 f 3 2 g) < (0 : Int32) then (-1 : Int32) else (if (F2 f 3 3 g) < (0 : Int32) then (-1 : Int32) else (if (F2 f 3 4 g) < (0 : Int32) then (-1 : Int32) else (((((F2 f 3 0 g) + (F2 f 3 1 g)) + (F2 f 3 2 g)) + (F2 f 3 3 g)) + (F2 f 3 4 g))))))) := by
  rw [own_tm g f 3 0 0 100 hf rfl (by decide) (by decide) rfl, own_tm g f 3 1 1 10 hf rfl (by decide) (by decide) rfl, own_tm g f 3 2 2 1 hf rfl (by decide) (by decide) rfl, own_tz g f 3 3 (by decide), own_tz g f 3 4 (by decide)]
  show own_num g 0 f.toInt.toNat 3 = _
  rw [own_ns]
  rw [show g f.toInt.toNat = g (f.toInt.toNat + 0) from rfl]
  by_cases a0 : g (f.toInt.toNat + 0) < (48 : Int32)
  · simp only [if_pos a0, if_pos own_n1]
  by_cases b0 : (57 : Int32) < g (f.toInt.toNat + 0)
  · simp only [if_neg a0, if_pos b0, if_pos own_n1]
  simp only [if_neg a0, if_neg b0, if_neg (own_pos _ 100 a0 b0 (by decide))]
  rw [own_ns, Nat.add_assoc]
  by_cases a1 : g (f.toInt.toNat + 1) < (48 : Int32)
  · simp only [if_pos a1, if_pos own_n1]
  by_cases b1 : (57 : Int32) < g (f.toInt.toNat + 1)
  · simp only [if_neg a1, if_pos b1, if_pos own_n1]
  simp only [if_neg a1, if_neg b1, if_neg (own_pos _ 10 a1 b1 (by decide))]
  rw [own_ns, Nat.add_assoc]
  by_cases a2 : g (f.toInt.toNat + 2) < (48 : Int32)
  · simp only [if_pos a2, if_pos own_n1]
  by_cases b2 : (57 : Int32) < g (f.toInt.toNat + 2)
  · simp only [if_neg a2, if_pos b2, if_pos own_n1]
  simp only [if_neg a2, if_neg b2, if_neg (own_pos _ 1 a2 b2 (by decide))]
  simp only [own_n0, if_neg own_z0]
  grind
theorem own_c4 (g : Nat → Int32) (f : Int32) (hf : 0 ≤ f.toInt ∧ f.toInt ≤ 3) : F3 f 4 g = (if (F2 f 4 0 g) < (0 : Int32) then (-1 : Int32) else (if (F2 f 4 1 g) < (0 : Int32) then (-1 : Int32) else (if (F2 f 4 2 g) < (0 : Int32) then (-1 : Int32) else (if (F2 f 4 3 g) < (0 : Int32) then (-1 : Int32) else (if (F2 f 4 4 g) < (0 : Int32) then (-1 : Int32) else (((((F2 f 4 0 g) + (F2 f 4 1 g)) + (F2 f 4 2 g)) + (F2 f 4 3 g)) + (F2 f 4 4 g))))))) := by
  rw [own_tm g f 4 0 0 1000 hf rfl (by decide) (by decide) rfl, own_tm g f 4 1 1 100 hf rfl (by decide) (by decide) rfl, own_tm g f 4 2 2 10 hf rfl (by decide) (by decide) rfl, own_tm g f 4 3 3 1 hf rfl (by decide) (by decide) rfl, own_tz g f 4 4 (by decide)]
  show own_num g 0 f.toInt.toNat 4 = _
  rw [own_ns]
  rw [show g f.toInt.toNat = g (f.toInt.toNat + 0) from rfl]
  by_cases a0 : g (f.toInt.toNat + 0) < (48 : Int32)
  · simp only [if_pos a0, if_pos own_n1]
  by_cases b0 : (57 : Int32) < g (f.toInt.toNat + 0)
  · simp only [if_neg a0, if_pos b0, if_pos own_n1]
  simp only [if_neg a0, if_neg b0, if_neg (own_pos _ 1000 a0 b0 (by decide))]
  rw [own_ns, Nat.add_assoc]
  by_cases a1 : g (f.toInt.toNat + 1) < (48 : Int32)
  · simp only [if_pos a1, if_pos own_n1]
  by_cases b1 : (57 : Int32) < g (f.toInt.toNat + 1)
  · simp only [if_neg a1, if_pos b1, if_pos own_n1]
  simp only [if_neg a1, if_neg b1, if_neg (own_pos _ 100 a1 b1 (by decide))]
  rw [own_ns, Nat.add_assoc]
  by_cases a2 : g (f.toInt.toNat + 2) < (48 : Int32)
  · simp only [if_pos a2, if_pos own_n1]
  by_cases b2 : (57 : Int32) < g (f.toInt.toNat + 2)
  · simp only [if_neg a2, if_pos b2, if_pos own_n1]
  simp only [if_neg a2, if_neg b2, if_neg (own_pos _ 10 a2 b2 (by decide))]
  rw [own_ns, Nat.add_assoc]
  by_cases a3 : g (f.toInt.toNat + 3) < (48 : Int32)
  · simp only [if_pos a3, if_pos own_n1]
  by_cases b3 : (57 : Int32) < g (f.toInt.toNat + 3)
  · simp only [if_neg a3, if_pos b3, if_pos own_n1]
  simp only [if_neg a3, if_neg b3, if_neg (own_pos _ 1 a3 b3 (by decide))]
  simp only [own_n0, if_neg own_z0]
  grind
theorem own_c5 (g : Nat → Int32) (f : Int32) (hf : 0 ≤ f.toInt ∧ f.toInt ≤ 3) : F3 f 5 g = (if (F2 f 5 0 g) < (0 : Int32) then (-1 : Int32) else (if (F2 f 5 1 g) < (0 : Int32) then (-1 : Int32) else (if (F2 f 5 2 g) < (0 : Int32) then (-1 : Int32) else (if (F2 f 5 3 g) < (0 : Int32) then (-1 : Int32) else (if (F2 f 5 4 g) < (0 : Int32) then (-1 : Int32) else (((((F2 f 5 0 g) + (F2 f 5 1 g)) + (F2 f 5 2 g)) + (F2 f 5 3 g)) + (F2 f 5 4 g))))))) := by
  rw [own_tm g f 5 0 0 10000 hf rfl (by decide) (by decide) rfl, own_tm g f 5 1 1 1000 hf rfl (by decide) (by decide) rfl, own_tm g f 5 2 2 100 hf rfl (by decide) (by decide) rfl, own_tm g f 5 3 3 10 hf rfl (by decide) (by decide) rfl, own_tm g f 5 4 4 1 hf rfl (by decide) (by decide) rfl]
  show own_num g 0 f.toInt.toNat 5 = _
  rw [own_ns]
  rw [show g f.toInt.toNat = g (f.toInt.toNat + 0) from rfl]
  by_cases a0 : g (f.toInt.toNat + 0) < (48 : Int32)
  · simp only [if_pos a0, if_pos own_n1]
  by_cases b0 : (57 : Int32) < g (f.toInt.toNat + 0)
  · simp only [if_neg a0, if_pos b0, if_pos own_n1]
  simp only [if_neg a0, if_neg b0, if_neg (own_pos _ 10000 a0 b0 (by decide))]
  rw [own_ns, Nat.add_assoc]
  by_cases a1 : g (f.toInt.toNat + 1) < (48 : Int32)
  · simp only [if_pos a1, if_pos own_n1]
  by_cases b1 : (57 : Int32) < g (f.toInt.toNat + 1)
  · simp only [if_neg a1, if_pos b1, if_pos own_n1]
  simp only [if_neg a1, if_neg b1, if_neg (own_pos _ 1000 a1 b1 (by decide))]
  rw [own_ns, Nat.add_assoc]
  by_cases a2 : g (f.toInt.toNat + 2) < (48 : Int32)
  · simp only [if_pos a2, if_pos own_n1]
  by_cases b2 : (57 : Int32) < g (f.toInt.toNat + 2)
  · simp only [if_neg a2, if_pos b2, if_pos own_n1]
  simp only [if_neg a2, if_neg b2, if_neg (own_pos _ 100 a2 b2 (by decide))]
  rw [own_ns, Nat.add_assoc]
  by_cases a3 : g (f.toInt.toNat + 3) < (48 : Int32)
  · simp only [if_pos a3, if_pos own_n1]
  by_cases b3 : (57 : Int32) < g (f.toInt.toNat + 3)
  · simp only [if_neg a3, if_pos b3, if_pos own_n1]
  simp only [if_neg a3, if_neg b3, if_neg (own_pos _ 10 a3 b3 (by decide))]
  rw [own_ns, Nat.add_assoc]
  by_cases a4 : g (f.toInt.toNat + 4) < (48 : Int32)
  · simp only [if_pos a4, if_pos own_n1]
  by_cases b4 : (57 : Int32) < g (f.toInt.toNat + 4)
  · simp only [if_neg a4, if_pos b4, if_pos own_n1]
  simp only [if_neg a4, if_neg b4, if_neg (own_pos _ 1 a4 b4 (by decide))]
  simp only [own_n0, if_neg own_z0]
  grind
theorem own_law (g : Nat → Int32) (f n : Int32) (hf : 0 ≤ f.toInt ∧ f.toInt ≤ 3) (hn : 0 ≤ n.toInt ∧ n.toInt ≤ 5) : F3 f n g = (if (F2 f n 0 g) < (0 : Int32) then (-1 : Int32) else (if (F2 f n 1 g) < (0 : Int32) then (-1 : Int32) else (if (F2 f n 2 g) < (0 : Int32) then (-1 : Int32) else (if (F2 f n 3 g) < (0 : Int32) then (-1 : Int32) else (if (F2 f n 4 g) < (0 : Int32) then (-1 : Int32) else (((((F2 f n 0 g) + (F2 f n 1 g)) + (F2 f n 2 g)) + (F2 f n 3 g)) + (F2 f n 4 g))))))) := by
  have h : n = 0 ∨ n = 1 ∨ n = 2 ∨ n = 3 ∨ n = 4 ∨ n = 5 := by
    have e0 : (0 : Int32).toInt = 0 := rfl
    have e1 : (1 : Int32).toInt = 1 := rfl
    have e2 : (2 : Int32).toInt = 2 := rfl
    have e3 : (3 : Int32).toInt = 3 := rfl
    have e4 : (4 : Int32).toInt = 4 := rfl
    have e5 : (5 : Int32).toInt = 5 := rfl
    simp only [← Int32.toInt_inj]
    omega
  rcases h with rfl | rfl | rfl | rfl | rfl | rfl
  · exact own_c0 g f hf
  · exact own_c1 g f hf
  · exact own_c2 g f hf
  · exact own_c3 g f hf
  · exact own_c4 g f hf
  · exact own_c5 g f hf
theorem pn_0 : plainName "com/example/provenir/provenir/Iso2709RecordNumberPinLaw" = true := by first | (simp [plainName, overriddenIn]; done) | decide +kernel
theorem pd_0_0 : parseMethodDescriptor "(JII)B" = some ⟨[.long, .int, .int], some .byte⟩ := by decide +kernel
theorem pd_0_1 : parseMethodDescriptor "([BIII)I" = some ⟨[(.array .byte), .int, .int, .int], some .int⟩ := by decide +kernel
theorem pd_0_2 : parseMethodDescriptor "([BII)I" = some ⟨[(.array .byte), .int, .int], some .int⟩ := by decide +kernel
theorem ef_0 (m : MethodId) (q1 : Int64) (p2 : Int32) (p3 : Int32) : entryFrame m #[(.long q1), (.int p2), (.int p3)] maxLocals = mkF m 0 #[.val (.long q1), .second, .val (.int p2), .val (.int p3), .unset, .unset, .unset, .unset, .unset, .unset, .unset, .unset, .unset, .unset] [] := by first | (simp [entryFrame, mkF, argsToLocals, Value.category, maxLocals]; done) | rfl
def Q0 (Z : State) (q1 : Int64) (p2 : Int32) (p3 : Int32) (h0 : Heap) (n0 : Nat) (v : Option Value) (h : Heap) (L : List Loc) : Prop := v = some (.int 1) ∧ Fr n0 L
set_option maxRecDepth 65536 in
set_option maxHeartbeats 40000000 in
theorem rm0 (l : Launch) (Z : State) (a0 : Array Value) (hw : ∀ d ∈ tables_1, d.before a0 Z = true) (ws : List Jvm.Cond) (q1 : Int64) (p2 : Int32) (p3 : Int32)  (h0 : Heap) (n0 : Nat) (Z0 : n0 ≤ h0.size)  :
    MetFree l x (head1 (Jvm.Cond.code x code maxLocals ret :: ws) room_1) (fun a U => a = #[(.long q1), (.int p2), (.int p3)] ∧ Z.Warmed39 U.vm ∧ U.heap = h0) (fun _ _ _ _ _ => True) (fun _ U o U' => ∃ v L, o = .returned v ∧ Q0 Z q1 p2 p3 h0 n0 v U'.heap L ∧ FrameEnd U o U' L room_1.cells room_1.slots) := by
  refine MetFree.of_bodySF (plainFor_of_name pn_0) hisR ?_
  intro p e s m args below meth c s₁ Bd hml0 hP hK
  obtain ⟨rfl, hZ, hh⟩ := hP
  have hx := Bd.exec
  have hby := Bd.bytes
  have hml : c.maxLocals = 14 := hml0
  have hown : s.vm.findClass "com/example/provenir/provenir/Iso2709RecordNumberPinLaw" = some m.cls := findClass_of_methodNamed Bd.named
  have hnm := (name_of_methodNamed Bd.named Bd.method).1
  have X0 : Stand p l e room_1 s m #[(.long q1), (.int p2), (.int p3)] below meth c s₁ [] 0 0 := Stand.of_body Bd
  have e0 : s₁.heap = h0 := by rw [← hh, Bd.state]; rfl
  have N0 := Fr.nil n0
  suffices hG : OwnG p e below s (Q0 Z q1 p2 p3 h0 n0) room_1.cells room_1.slots s₁ (mkF m 0 #[.val (.long q1), .second, .val (.int p2), .val (.int p3), .unset, .unset, .unset, .unset, .unset, .unset, .unset, .unset, .unset, .unset] []) by
    obtain ⟨s2, o2, g1, g2⟩ := hG
    exact ⟨s2, o2, castTop (ef_0 m q1 p2 p3) g1, g2⟩
  have sg1 : ∀ tgt, Steps p.tables e below (s₁.setTop (mkF m 13 #[.val (.long q1), .second, .val (.int p2), .val (.int p3), .val (.int (p3 &&& (3 : Int32))), .val (.int (((p3.toUInt32 >>> ((2 : Int32) &&& 31).toUInt32).toInt32) - (((p3.toUInt32 >>> ((2 : Int32) &&& 31).toUInt32).toInt32) / (6 : Int32)) * (6 : Int32))), .unset, .unset, .unset, .unset, .unset, .unset, .unset, .unset] [])) tgt → Steps p.tables e below (s₁.setTop (mkF m 0 #[.val (.long q1), .second, .val (.int p2), .val (.int p3), .unset, .unset, .unset, .unset, .unset, .unset, .unset, .unset, .unset, .unset] [])) tgt := by
    intro tgt kt
    refine XS.iloadN X0.here hx rfl (hb hby at_0) rfl ?_
    show Steps p.tables e below (s₁.setTop (mkF m 1 #[.val (.long q1), .second, .val (.int p2), .val (.int p3), .unset, .unset, .unset, .unset, .unset, .unset, .unset, .unset, .unset, .unset] [(.int p3)])) _
    refine XS.iconst X0.here hx rfl (hb hby at_1) ?_
    show Steps p.tables e below (s₁.setTop (mkF m 2 #[.val (.long q1), .second, .val (.int p2), .val (.int p3), .unset, .unset, .unset, .unset, .unset, .unset, .unset, .unset, .unset, .unset] [(.int (3 : Int32)), (.int p3)])) _
    refine XS.iand X0.here hx rfl (hb hby at_2) rfl ?_
    show Steps p.tables e below (s₁.setTop (mkF m 3 #[.val (.long q1), .second, .val (.int p2), .val (.int p3), .unset, .unset, .unset, .unset, .unset, .unset, .unset, .unset, .unset, .unset] [(.int (p3 &&& (3 : Int32)))])) _
    refine XS.istore X0.here hx rfl (hb hby at_3) rfl (l' := #[.val (.long q1), .second, .val (.int p2), .val (.int p3), .val (.int (p3 &&& (3 : Int32))), .unset, .unset, .unset, .unset, .unset, .unset, .unset, .unset, .unset]) rfl ?_
    show Steps p.tables e below (s₁.setTop (mkF m 5 #[.val (.long q1), .second, .val (.int p2), .val (.int p3), .val (.int (p3 &&& (3 : Int32))), .unset, .unset, .unset, .unset, .unset, .unset, .unset, .unset, .unset] [])) _
    refine XS.iloadN X0.here hx rfl (hb hby at_5) rfl ?_
    show Steps p.tables e below (s₁.setTop (mkF m 6 #[.val (.long q1), .second, .val (.int p2), .val (.int p3), .val (.int (p3 &&& (3 : Int32))), .unset, .unset, .unset, .unset, .unset, .unset, .unset, .unset, .unset] [(.int p3)])) _
    refine XS.iconst X0.here hx rfl (hb hby at_6) ?_
    show Steps p.tables e below (s₁.setTop (mkF m 7 #[.val (.long q1), .second, .val (.int p2), .val (.int p3), .val (.int (p3 &&& (3 : Int32))), .unset, .unset, .unset, .unset, .unset, .unset, .unset, .unset, .unset] [(.int (2 : Int32)), (.int p3)])) _
    refine XS.iushr X0.here hx rfl (hb hby at_7) rfl ?_
    show Steps p.tables e below (s₁.setTop (mkF m 8 #[.val (.long q1), .second, .val (.int p2), .val (.int p3), .val (.int (p3 &&& (3 : Int32))), .unset, .unset, .unset, .unset, .unset, .unset, .unset, .unset, .unset] [(.int ((p3.toUInt32 >>> ((2 : Int32) &&& 31).toUInt32).toInt32))])) _
    refine XS.bipush X0.here hx rfl (hb hby at_8) ?_
    show Steps p.tables e below (s₁.setTop (mkF m 10 #[.val (.long q1), .second, .val (.int p2), .val (.int p3), .val (.int (p3 &&& (3 : Int32))), .unset, .unset, .unset, .unset, .unset, .unset, .unset, .unset, .unset] [(.int (6 : Int32)), (.int ((p3.toUInt32 >>> ((2 : Int32) &&& 31).toUInt32).toInt32))])) _
    refine XS.irem X0.here hx rfl (hb hby at_10) rfl (by decide) ?_
    show Steps p.tables e below (s₁.setTop (mkF m 11 #[.val (.long q1), .second, .val (.int p2), .val (.int p3), .val (.int (p3 &&& (3 : Int32))), .unset, .unset, .unset, .unset, .unset, .unset, .unset, .unset, .unset] [(.int (((p3.toUInt32 >>> ((2 : Int32) &&& 31).toUInt32).toInt32) - (((p3.toUInt32 >>> ((2 : Int32) &&& 31).toUInt32).toInt32) / (6 : Int32)) * (6 : Int32)))])) _
    refine XS.istore X0.here hx rfl (hb hby at_11) rfl (l' := #[.val (.long q1), .second, .val (.int p2), .val (.int p3), .val (.int (p3 &&& (3 : Int32))), .val (.int (((p3.toUInt32 >>> ((2 : Int32) &&& 31).toUInt32).toInt32) - (((p3.toUInt32 >>> ((2 : Int32) &&& 31).toUInt32).toInt32) / (6 : Int32)) * (6 : Int32))), .unset, .unset, .unset, .unset, .unset, .unset, .unset, .unset]) rfl ?_
    show Steps p.tables e below (s₁.setTop (mkF m 13 #[.val (.long q1), .second, .val (.int p2), .val (.int p3), .val (.int (p3 &&& (3 : Int32))), .val (.int (((p3.toUInt32 >>> ((2 : Int32) &&& 31).toUInt32).toInt32) - (((p3.toUInt32 >>> ((2 : Int32) &&& 31).toUInt32).toInt32) / (6 : Int32)) * (6 : Int32))), .unset, .unset, .unset, .unset, .unset, .unset, .unset, .unset] [])) _
    exact kt
  refine OwnG.st sg1 ?_
  obtain ⟨z4_2, hz4_2⟩ : ∃ w : Int32, w = (p3 &&& (3 : Int32)) := ⟨_, rfl⟩
  obtain ⟨z5_3, hz5_3⟩ : ∃ w : Int32, w = (((p3.toUInt32 >>> ((2 : Int32) &&& 31).toUInt32).toInt32) - (((p3.toUInt32 >>> ((2 : Int32) &&& 31).toUInt32).toInt32) / (6 : Int32)) * (6 : Int32)) := ⟨_, rfl⟩
  rw [← hz4_2, ← hz5_3]
  show OwnG p e below s _ _ _ s₁ (mkF m 13 #[.val (.long q1), .second, .val (.int p2), .val (.int p3), .val (.int z4_2), .val (.int z5_3), .unset, .unset, .unset, .unset, .unset, .unset, .unset, .unset] [])
  have hfr := own_fr p3
  have hct := own_ct p3
  rw [← hz4_2] at hfr
  rw [← hz5_3] at hct
  have sg4 : ∀ tgt, Steps p.tables e below (s₁.setTop (mkF m 15 #[.val (.long q1), .second, .val (.int p2), .val (.int p3), .val (.int z4_2), .val (.int z5_3), .unset, .unset, .unset, .unset, .unset, .unset, .unset, .unset] [(.int (8 : Int32))])) tgt → Steps p.tables e below (s₁.setTop (mkF m 13 #[.val (.long q1), .second, .val (.int p2), .val (.int p3), .val (.int z4_2), .val (.int z5_3), .unset, .unset, .unset, .unset, .unset, .unset, .unset, .unset] [])) tgt := by
    intro tgt kt
    refine XS.bipush X0.here hx rfl (hb hby at_13) ?_
    show Steps p.tables e below (s₁.setTop (mkF m 15 #[.val (.long q1), .second, .val (.int p2), .val (.int p3), .val (.int z4_2), .val (.int z5_3), .unset, .unset, .unset, .unset, .unset, .unset, .unset, .unset] [(.int (8 : Int32))])) _
    exact kt
  refine OwnG.st sg4 ?_
  obtain ⟨T5, h5, k5, X5, e5, E5, A5, st5⟩ := newP X0 hx hZ (hw _ (List.mem_of_getElem? (i := 0) rfl)) e0 (g := (mkF m 15 #[.val (.long q1), .second, .val (.int p2), .val (.int p3), .val (.int z4_2), .val (.int z5_3), .unset, .unset, .unset, .unset, .unset, .unset, .unset, .unset] [(.int (8 : Int32))])) rfl (hb hby at_15) rfl (by decide) (cap := 8) (by decide) (by decide) (by decide) (by decide)
  obtain ⟨b5, g5⟩ : ∃ z, z = h0.size := ⟨_, rfl⟩
  rw [← g5] at A5 st5
  have V5 : OwnA Z h5 b5 .byte 8 (iv' fun _ => 0) := own_newA A5 (by decide)
  have gb_b5 : n0 ≤ b5 := Nat.le_trans Z0 (Nat.le_of_eq g5.symm)
  have Z5 : n0 ≤ h5.size := Nat.le_trans Z0 E5.1
  refine OwnG.st st5 ?_
  show OwnG p e below s _ _ _ T5 (mkF m 17 #[.val (.long q1), .second, .val (.int p2), .val (.int p3), .val (.int z4_2), .val (.int z5_3), .unset, .unset, .unset, .unset, .unset, .unset, .unset, .unset] [(.ref b5)])
  have sg6 : ∀ tgt, Steps p.tables e below (T5.setTop (mkF m 25 #[.val (.long q1), .second, .val (.int p2), .val (.int p3), .val (.int z4_2), .val (.int z5_3), .val (.ref b5), .unset, .unset, .unset, .unset, .unset, .unset, .unset] [(.int (0 : Int32)), (.int p2), (.long q1), (.int (0 : Int32)), (.ref b5)])) tgt → Steps p.tables e below (T5.setTop (mkF m 17 #[.val (.long q1), .second, .val (.int p2), .val (.int p3), .val (.int z4_2), .val (.int z5_3), .unset, .unset, .unset, .unset, .unset, .unset, .unset, .unset] [(.ref b5)])) tgt := by
    intro tgt kt
    refine XS.astore X5.here hx rfl (hb hby at_17) rfl rfl (l' := #[.val (.long q1), .second, .val (.int p2), .val (.int p3), .val (.int z4_2), .val (.int z5_3), .val (.ref b5), .unset, .unset, .unset, .unset, .unset, .unset, .unset]) rfl ?_
    show Steps p.tables e below (T5.setTop (mkF m 19 #[.val (.long q1), .second, .val (.int p2), .val (.int p3), .val (.int z4_2), .val (.int z5_3), .val (.ref b5), .unset, .unset, .unset, .unset, .unset, .unset, .unset] [])) _
    refine XS.aload X5.here hx rfl (hb hby at_19) rfl rfl ?_
    show Steps p.tables e below (T5.setTop (mkF m 21 #[.val (.long q1), .second, .val (.int p2), .val (.int p3), .val (.int z4_2), .val (.int z5_3), .val (.ref b5), .unset, .unset, .unset, .unset, .unset, .unset, .unset] [(.ref b5)])) _
    refine XS.iconst X5.here hx rfl (hb hby at_21) ?_
    show Steps p.tables e below (T5.setTop (mkF m 22 #[.val (.long q1), .second, .val (.int p2), .val (.int p3), .val (.int z4_2), .val (.int z5_3), .val (.ref b5), .unset, .unset, .unset, .unset, .unset, .unset, .unset] [(.int (0 : Int32)), (.ref b5)])) _
    refine XS.lloadN X5.here hx rfl (hb hby at_22) rfl ?_
    show Steps p.tables e below (T5.setTop (mkF m 23 #[.val (.long q1), .second, .val (.int p2), .val (.int p3), .val (.int z4_2), .val (.int z5_3), .val (.ref b5), .unset, .unset, .unset, .unset, .unset, .unset, .unset] [(.long q1), (.int (0 : Int32)), (.ref b5)])) _
    refine XS.iloadN X5.here hx rfl (hb hby at_23) rfl ?_
    show Steps p.tables e below (T5.setTop (mkF m 24 #[.val (.long q1), .second, .val (.int p2), .val (.int p3), .val (.int z4_2), .val (.int z5_3), .val (.ref b5), .unset, .unset, .unset, .unset, .unset, .unset, .unset] [(.int p2), (.long q1), (.int (0 : Int32)), (.ref b5)])) _
    refine XS.iconst X5.here hx rfl (hb hby at_24) ?_
    show Steps p.tables e below (T5.setTop (mkF m 25 #[.val (.long q1), .second, .val (.int p2), .val (.int p3), .val (.int z4_2), .val (.int z5_3), .val (.ref b5), .unset, .unset, .unset, .unset, .unset, .unset, .unset] [(.int (0 : Int32)), (.int p2), (.long q1), (.int (0 : Int32)), (.ref b5)])) _
    exact kt
  refine OwnG.st sg6 ?_
  obtain ⟨_, _, ⟨T7, L7, k7, n7⟩, -, X7, ⟨Lc7, hQ7, l7, y7, z7⟩, st7⟩ := Jvm.LawKit.callS X5 hx (y := (⟨"com/example/provenir/provenir/Iso2709RecordNumberPinLaw", "at", "(JII)B"⟩ : MethodName)) hown (mvT hZ (hw _ (List.mem_of_getElem? (i := 1) rfl))) (mvT hZ (hw _ (List.mem_of_getElem? (i := 2) rfl))) (mvT hZ (hw _ (List.mem_of_getElem? (i := 3) rfl))) (mvT hZ (hw _ (List.mem_of_getElem? (i := 4) rfl))) (by decide) (backOf (W := 2) (rm1 l Z a0 hw [] q1 p2 (0 : Int32)  h5 n0 Z5 ) hZ (hw _ (List.mem_of_getElem? (i := 4) rfl)) (hw _ (List.mem_of_getElem? (i := 3) rfl)) (by decide) (by decide)) (g := (mkF m 25 #[.val (.long q1), .second, .val (.int p2), .val (.int p3), .val (.int z4_2), .val (.int z5_3), .val (.ref b5), .unset, .unset, .unset, .unset, .unset, .unset, .unset] [(.int (0 : Int32)), (.int p2), (.long q1), (.int (0 : Int32)), (.ref b5)])) rfl (by rw [hml]; rfl) (argsL := [(.long q1), (.int p2), (.int (0 : Int32))]) (rest := [(.int (0 : Int32)), (.ref b5)]) (lenOf pd_0_0 rfl) rfl (by show 2 * 0 + _ ≤ _; exact Nat.le_of_eq rfl) (hb hby at_25) (fun _ _ => ⟨rfl, e5, (by decide : 1 + 0 ≤ _), (by decide : 8 + 0 ≤ _)⟩)
  dsimp only [Pt.U, Pt.locs, Pt.cells, Pt.slots] at X7 l7 y7 z7 st7 hQ7
  subst l7 y7 z7
  obtain ⟨rfl, N7q, e7⟩ := hQ7
  have N7 := Fr.app N0 N7q
  refine OwnG.st (fun t k => st7 t k) ?_
  show OwnG p e below s _ _ _ T7 (mkF m 28 #[.val (.long q1), .second, .val (.int p2), .val (.int p3), .val (.int z4_2), .val (.int z5_3), .val (.ref b5), .unset, .unset, .unset, .unset, .unset, .unset, .unset] [(.int (F1 q1 p2 (0 : Int32))), (.int (0 : Int32)), (.ref b5)])
  obtain ⟨T8, h8, X8, e8, W8, V8, st8⟩ := own_stB V5 X7 hx hZ e7 (by decide) (by decide) (gf := (mkF m 28 #[.val (.long q1), .second, .val (.int p2), .val (.int p3), .val (.int z4_2), .val (.int z5_3), .val (.ref b5), .unset, .unset, .unset, .unset, .unset, .unset, .unset] [(.int (F1 q1 p2 (0 : Int32))), (.int (0 : Int32)), (.ref b5)])) rfl rfl (hb hby at_28)
  have V8' : OwnA Z h8 b5 .byte 8 (iv' (updv (fun _ => 0) 0 ((F1 q1 p2 (0 : Int32)).toInt8.toInt32))) := V8
  have N8 := Fr.snoc X8 N7 gb_b5
  have Z8 : n0 ≤ h8.size := by rw [W8.size]; exact Z5
  refine OwnG.st st8 ?_
  show OwnG p e below s _ _ _ T8 (mkF m 29 #[.val (.long q1), .second, .val (.int p2), .val (.int p3), .val (.int z4_2), .val (.int z5_3), .val (.ref b5), .unset, .unset, .unset, .unset, .unset, .unset, .unset] [])
  have sg9 : ∀ tgt, Steps p.tables e below (T8.setTop (mkF m 35 #[.val (.long q1), .second, .val (.int p2), .val (.int p3), .val (.int z4_2), .val (.int z5_3), .val (.ref b5), .unset, .unset, .unset, .unset, .unset, .unset, .unset] [(.int (1 : Int32)), (.int p2), (.long q1), (.int (1 : Int32)), (.ref b5)])) tgt → Steps p.tables e below (T8.setTop (mkF m 29 #[.val (.long q1), .second, .val (.int p2), .val (.int p3), .val (.int z4_2), .val (.int z5_3), .val (.ref b5), .unset, .unset, .unset, .unset, .unset, .unset, .unset] [])) tgt := by
    intro tgt kt
    refine XS.aload X8.here hx rfl (hb hby at_29) rfl rfl ?_
    show Steps p.tables e below (T8.setTop (mkF m 31 #[.val (.long q1), .second, .val (.int p2), .val (.int p3), .val (.int z4_2), .val (.int z5_3), .val (.ref b5), .unset, .unset, .unset, .unset, .unset, .unset, .unset] [(.ref b5)])) _
    refine XS.iconst X8.here hx rfl (hb hby at_31) ?_
    show Steps p.tables e below (T8.setTop (mkF m 32 #[.val (.long q1), .second, .val (.int p2), .val (.int p3), .val (.int z4_2), .val (.int z5_3), .val (.ref b5), .unset, .unset, .unset, .unset, .unset, .unset, .unset] [(.int (1 : Int32)), (.ref b5)])) _
    refine XS.lloadN X8.here hx rfl (hb hby at_32) rfl ?_
    show Steps p.tables e below (T8.setTop (mkF m 33 #[.val (.long q1), .second, .val (.int p2), .val (.int p3), .val (.int z4_2), .val (.int z5_3), .val (.ref b5), .unset, .unset, .unset, .unset, .unset, .unset, .unset] [(.long q1), (.int (1 : Int32)), (.ref b5)])) _
    refine XS.iloadN X8.here hx rfl (hb hby at_33) rfl ?_
    show Steps p.tables e below (T8.setTop (mkF m 34 #[.val (.long q1), .second, .val (.int p2), .val (.int p3), .val (.int z4_2), .val (.int z5_3), .val (.ref b5), .unset, .unset, .unset, .unset, .unset, .unset, .unset] [(.int p2), (.long q1), (.int (1 : Int32)), (.ref b5)])) _
    refine XS.iconst X8.here hx rfl (hb hby at_34) ?_
    show Steps p.tables e below (T8.setTop (mkF m 35 #[.val (.long q1), .second, .val (.int p2), .val (.int p3), .val (.int z4_2), .val (.int z5_3), .val (.ref b5), .unset, .unset, .unset, .unset, .unset, .unset, .unset] [(.int (1 : Int32)), (.int p2), (.long q1), (.int (1 : Int32)), (.ref b5)])) _
    exact kt
  refine OwnG.st sg9 ?_
  obtain ⟨_, _, ⟨T10, L10, k10, n10⟩, -, X10, ⟨Lc10, hQ10, l10, y10, z10⟩, st10⟩ := Jvm.LawKit.callS X8 hx (y := (⟨"com/example/provenir/provenir/Iso2709RecordNumberPinLaw", "at", "(JII)B"⟩ : MethodName)) hown (mvT hZ (hw _ (List.mem_of_getElem? (i := 1) rfl))) (mvT hZ (hw _ (List.mem_of_getElem? (i := 2) rfl))) (mvT hZ (hw _ (List.mem_of_getElem? (i := 3) rfl))) (mvT hZ (hw _ (List.mem_of_getElem? (i := 4) rfl))) (by decide) (backOf (W := 2) (rm1 l Z a0 hw [] q1 p2 (1 : Int32)  h8 n0 Z8 ) hZ (hw _ (List.mem_of_getElem? (i := 4) rfl)) (hw _ (List.mem_of_getElem? (i := 3) rfl)) (by decide) (by decide)) (g := (mkF m 35 #[.val (.long q1), .second, .val (.int p2), .val (.int p3), .val (.int z4_2), .val (.int z5_3), .val (.ref b5), .unset, .unset, .unset, .unset, .unset, .unset, .unset] [(.int (1 : Int32)), (.int p2), (.long q1), (.int (1 : Int32)), (.ref b5)])) rfl (by rw [hml]; rfl) (argsL := [(.long q1), (.int p2), (.int (1 : Int32))]) (rest := [(.int (1 : Int32)), (.ref b5)]) (lenOf pd_0_0 rfl) rfl (by show 2 * 0 + _ ≤ _; exact Nat.le_of_eq rfl) (hb hby at_35) (fun _ _ => ⟨rfl, e8, (by decide : 1 + 0 ≤ _), (by decide : 8 + 0 ≤ _)⟩)
  dsimp only [Pt.U, Pt.locs, Pt.cells, Pt.slots] at X10 l10 y10 z10 st10 hQ10
  subst l10 y10 z10
  obtain ⟨rfl, N10q, e10⟩ := hQ10
  have N10 := Fr.app N8 N10q
  refine OwnG.st (fun t k => st10 t k) ?_
  show OwnG p e below s _ _ _ T10 (mkF m 38 #[.val (.long q1), .second, .val (.int p2), .val (.int p3), .val (.int z4_2), .val (.int z5_3), .val (.ref b5), .unset, .unset, .unset, .unset, .unset, .unset, .unset] [(.int (F1 q1 p2 (1 : Int32))), (.int (1 : Int32)), (.ref b5)])
  obtain ⟨T11, h11, X11, e11, W11, V11, st11⟩ := own_stB V8' X10 hx hZ e10 (by decide) (by decide) (gf := (mkF m 38 #[.val (.long q1), .second, .val (.int p2), .val (.int p3), .val (.int z4_2), .val (.int z5_3), .val (.ref b5), .unset, .unset, .unset, .unset, .unset, .unset, .unset] [(.int (F1 q1 p2 (1 : Int32))), (.int (1 : Int32)), (.ref b5)])) rfl rfl (hb hby at_38)
  have V11' : OwnA Z h11 b5 .byte 8 (iv' (updv (updv (fun _ => 0) 0 ((F1 q1 p2 (0 : Int32)).toInt8.toInt32)) 1 ((F1 q1 p2 (1 : Int32)).toInt8.toInt32))) := V11
  have N11 := Fr.snoc X11 N10 gb_b5
  have Z11 : n0 ≤ h11.size := by rw [W11.size]; exact Z8
  refine OwnG.st st11 ?_
  show OwnG p e below s _ _ _ T11 (mkF m 39 #[.val (.long q1), .second, .val (.int p2), .val (.int p3), .val (.int z4_2), .val (.int z5_3), .val (.ref b5), .unset, .unset, .unset, .unset, .unset, .unset, .unset] [])
  have sg12 : ∀ tgt, Steps p.tables e below (T11.setTop (mkF m 45 #[.val (.long q1), .second, .val (.int p2), .val (.int p3), .val (.int z4_2), .val (.int z5_3), .val (.ref b5), .unset, .unset, .unset, .unset, .unset, .unset, .unset] [(.int (2 : Int32)), (.int p2), (.long q1), (.int (2 : Int32)), (.ref b5)])) tgt → Steps p.tables e below (T11.setTop (mkF m 39 #[.val (.long q1), .second, .val (.int p2), .val (.int p3), .val (.int z4_2), .val (.int z5_3), .val (.ref b5), .unset, .unset, .unset, .unset, .unset, .unset, .unset] [])) tgt := by
    intro tgt kt
    refine XS.aload X11.here hx rfl (hb hby at_39) rfl rfl ?_
    show Steps p.tables e below (T11.setTop (mkF m 41 #[.val (.long q1), .second, .val (.int p2), .val (.int p3), .val (.int z4_2), .val (.int z5_3), .val (.ref b5), .unset, .unset, .unset, .unset, .unset, .unset, .unset] [(.ref b5)])) _
    refine XS.iconst X11.here hx rfl (hb hby at_41) ?_
    show Steps p.tables e below (T11.setTop (mkF m 42 #[.val (.long q1), .second, .val (.int p2), .val (.int p3), .val (.int z4_2), .val (.int z5_3), .val (.ref b5), .unset, .unset, .unset, .unset, .unset, .unset, .unset] [(.int (2 : Int32)), (.ref b5)])) _
    refine XS.lloadN X11.here hx rfl (hb hby at_42) rfl ?_
    show Steps p.tables e below (T11.setTop (mkF m 43 #[.val (.long q1), .second, .val (.int p2), .val (.int p3), .val (.int z4_2), .val (.int z5_3), .val (.ref b5), .unset, .unset, .unset, .unset, .unset, .unset, .unset] [(.long q1), (.int (2 : Int32)), (.ref b5)])) _
    refine XS.iloadN X11.here hx rfl (hb hby at_43) rfl ?_
    show Steps p.tables e below (T11.setTop (mkF m 44 #[.val (.long q1), .second, .val (.int p2), .val (.int p3), .val (.int z4_2), .val (.int z5_3), .val (.ref b5), .unset, .unset, .unset, .unset, .unset, .unset, .unset] [(.int p2), (.long q1), (.int (2 : Int32)), (.ref b5)])) _
    refine XS.iconst X11.here hx rfl (hb hby at_44) ?_
    show Steps p.tables e below (T11.setTop (mkF m 45 #[.val (.long q1), .second, .val (.int p2), .val (.int p3), .val (.int z4_2), .val (.int z5_3), .val (.ref b5), .unset, .unset, .unset, .unset, .unset, .unset, .unset] [(.int (2 : Int32)), (.int p2), (.long q1), (.int (2 : Int32)), (.ref b5)])) _
    exact kt
  refine OwnG.st sg12 ?_
  obtain ⟨_, _, ⟨T13, L13, k13, n13⟩, -, X13, ⟨Lc13, hQ13, l13, y13, z13⟩, st13⟩ := Jvm.LawKit.callS X11 hx (y := (⟨"com/example/provenir/provenir/Iso2709RecordNumberPinLaw", "at", "(JII)B"⟩ : MethodName)) hown (mvT hZ (hw _ (List.mem_of_getElem? (i := 1) rfl))) (mvT hZ (hw _ (List.mem_of_getElem? (i := 2) rfl))) (mvT hZ (hw _ (List.mem_of_getElem? (i := 3) rfl))) (mvT hZ (hw _ (List.mem_of_getElem? (i := 4) rfl))) (by decide) (backOf (W := 2) (rm1 l Z a0 hw [] q1 p2 (2 : Int32)  h11 n0 Z11 ) hZ (hw _ (List.mem_of_getElem? (i := 4) rfl)) (hw _ (List.mem_of_getElem? (i := 3) rfl)) (by decide) (by decide)) (g := (mkF m 45 #[.val (.long q1), .second, .val (.int p2), .val (.int p3), .val (.int z4_2), .val (.int z5_3), .val (.ref b5), .unset, .unset, .unset, .unset, .unset, .unset, .unset] [(.int (2 : Int32)), (.int p2), (.long q1), (.int (2 : Int32)), (.ref b5)])) rfl (by rw [hml]; rfl) (argsL := [(.long q1), (.int p2), (.int (2 : Int32))]) (rest := [(.int (2 : Int32)), (.ref b5)]) (lenOf pd_0_0 rfl) rfl (by show 2 * 0 + _ ≤ _; exact Nat.le_of_eq rfl) (hb hby at_45) (fun _ _ => ⟨rfl, e11, (by decide : 1 + 0 ≤ _), (by decide : 8 + 0 ≤ _)⟩)
  dsimp only [Pt.U, Pt.locs, Pt.cells, Pt.slots] at X13 l13 y13 z13 st13 hQ13
  subst l13 y13 z13
  obtain ⟨rfl, N13q, e13⟩ := hQ13
  have N13 := Fr.app N11 N13q
  refine OwnG.st (fun t k => st13 t k) ?_
  show OwnG p e below s _ _ _ T13 (mkF m 48 #[.val (.long q1), .second, .val (.int p2), .val (.int p3), .val (.int z4_2), .val (.int z5_3), .val (.ref b5), .unset, .unset, .unset, .unset, .unset, .unset, .unset] [(.int (F1 q1 p2 (2 : Int32))), (.int (2 : Int32)), (.ref b5)])
  obtain ⟨T14, h14, X14, e14, W14, V14, st14⟩ := own_stB V11' X13 hx hZ e13 (by decide) (by decide) (gf := (mkF m 48 #[.val (.long q1), .second, .val (.int p2), .val (.int p3), .val (.int z4_2), .val (.int z5_3), .val (.ref b5), .unset, .unset, .unset, .unset, .unset, .unset, .unset] [(.int (F1 q1 p2 (2 : Int32))), (.int (2 : Int32)), (.ref b5)])) rfl rfl (hb hby at_48)
  have V14' : OwnA Z h14 b5 .byte 8 (iv' (updv (updv (updv (fun _ => 0) 0 ((F1 q1 p2 (0 : Int32)).toInt8.toInt32)) 1 ((F1 q1 p2 (1 : Int32)).toInt8.toInt32)) 2 ((F1 q1 p2 (2 : Int32)).toInt8.toInt32))) := V14
  have N14 := Fr.snoc X14 N13 gb_b5
  have Z14 : n0 ≤ h14.size := by rw [W14.size]; exact Z11
  refine OwnG.st st14 ?_
  show OwnG p e below s _ _ _ T14 (mkF m 49 #[.val (.long q1), .second, .val (.int p2), .val (.int p3), .val (.int z4_2), .val (.int z5_3), .val (.ref b5), .unset, .unset, .unset, .unset, .unset, .unset, .unset] [])
  have sg15 : ∀ tgt, Steps p.tables e below (T14.setTop (mkF m 55 #[.val (.long q1), .second, .val (.int p2), .val (.int p3), .val (.int z4_2), .val (.int z5_3), .val (.ref b5), .unset, .unset, .unset, .unset, .unset, .unset, .unset] [(.int (3 : Int32)), (.int p2), (.long q1), (.int (3 : Int32)), (.ref b5)])) tgt → Steps p.tables e below (T14.setTop (mkF m 49 #[.val (.long q1), .second, .val (.int p2), .val (.int p3), .val (.int z4_2), .val (.int z5_3), .val (.ref b5), .unset, .unset, .unset, .unset, .unset, .unset, .unset] [])) tgt := by
    intro tgt kt
    refine XS.aload X14.here hx rfl (hb hby at_49) rfl rfl ?_
    show Steps p.tables e below (T14.setTop (mkF m 51 #[.val (.long q1), .second, .val (.int p2), .val (.int p3), .val (.int z4_2), .val (.int z5_3), .val (.ref b5), .unset, .unset, .unset, .unset, .unset, .unset, .unset] [(.ref b5)])) _
    refine XS.iconst X14.here hx rfl (hb hby at_51) ?_
    show Steps p.tables e below (T14.setTop (mkF m 52 #[.val (.long q1), .second, .val (.int p2), .val (.int p3), .val (.int z4_2), .val (.int z5_3), .val (.ref b5), .unset, .unset, .unset, .unset, .unset, .unset, .unset] [(.int (3 : Int32)), (.ref b5)])) _
    refine XS.lloadN X14.here hx rfl (hb hby at_52) rfl ?_
    show Steps p.tables e below (T14.setTop (mkF m 53 #[.val (.long q1), .second, .val (.int p2), .val (.int p3), .val (.int z4_2), .val (.int z5_3), .val (.ref b5), .unset, .unset, .unset, .unset, .unset, .unset, .unset] [(.long q1), (.int (3 : Int32)), (.ref b5)])) _
    refine XS.iloadN X14.here hx rfl (hb hby at_53) rfl ?_
    show Steps p.tables e below (T14.setTop (mkF m 54 #[.val (.long q1), .second, .val (.int p2), .val (.int p3), .val (.int z4_2), .val (.int z5_3), .val (.ref b5), .unset, .unset, .unset, .unset, .unset, .unset, .unset] [(.int p2), (.long q1), (.int (3 : Int32)), (.ref b5)])) _
    refine XS.iconst X14.here hx rfl (hb hby at_54) ?_
    show Steps p.tables e below (T14.setTop (mkF m 55 #[.val (.long q1), .second, .val (.int p2), .val (.int p3), .val (.int z4_2), .val (.int z5_3), .val (.ref b5), .unset, .unset, .unset, .unset, .unset, .unset, .unset] [(.int (3 : Int32)), (.int p2), (.long q1), (.int (3 : Int32)), (.ref b5)])) _
    exact kt
  refine OwnG.st sg15 ?_
  obtain ⟨_, _, ⟨T16, L16, k16, n16⟩, -, X16, ⟨Lc16, hQ16, l16, y16, z16⟩, st16⟩ := Jvm.LawKit.callS X14 hx (y := (⟨"com/example/provenir/provenir/Iso2709RecordNumberPinLaw", "at", "(JII)B"⟩ : MethodName)) hown (mvT hZ (hw _ (List.mem_of_getElem? (i := 1) rfl))) (mvT hZ (hw _ (List.mem_of_getElem? (i := 2) rfl))) (mvT hZ (hw _ (List.mem_of_getElem? (i := 3) rfl))) (mvT hZ (hw _ (List.mem_of_getElem? (i := 4) rfl))) (by decide) (backOf (W := 2) (rm1 l Z a0 hw [] q1 p2 (3 : Int32)  h14 n0 Z14 ) hZ (hw _ (List.mem_of_getElem? (i := 4) rfl)) (hw _ (List.mem_of_getElem? (i := 3) rfl)) (by decide) (by decide)) (g := (mkF m 55 #[.val (.long q1), .second, .val (.int p2), .val (.int p3), .val (.int z4_2), .val (.int z5_3), .val (.ref b5), .unset, .unset, .unset, .unset, .unset, .unset, .unset] [(.int (3 : Int32)), (.int p2), (.long q1), (.int (3 : Int32)), (.ref b5)])) rfl (by rw [hml]; rfl) (argsL := [(.long q1), (.int p2), (.int (3 : Int32))]) (rest := [(.int (3 : Int32)), (.ref b5)]) (lenOf pd_0_0 rfl) rfl (by show 2 * 0 + _ ≤ _; exact Nat.le_of_eq rfl) (hb hby at_55) (fun _ _ => ⟨rfl, e14, (by decide : 1 + 0 ≤ _), (by decide : 8 + 0 ≤ _)⟩)
  dsimp only [Pt.U, Pt.locs, Pt.cells, Pt.slots] at X16 l16 y16 z16 st16 hQ16
  subst l16 y16 z16
  obtain ⟨rfl, N16q, e16⟩ := hQ16
  have N16 := Fr.app N14 N16q
  refine OwnG.st (fun t k => st16 t k) ?_
  show OwnG p e below s _ _ _ T16 (mkF m 58 #[.val (.long q1), .second, .val (.int p2), .val (.int p3), .val (.int z4_2), .val (.int z5_3), .val (.ref b5), .unset, .unset, .unset, .unset, .unset, .unset, .unset] [(.int (F1 q1 p2 (3 : Int32))), (.int (3 : Int32)), (.ref b5)])
  obtain ⟨T17, h17, X17, e17, W17, V17, st17⟩ := own_stB V14' X16 hx hZ e16 (by decide) (by decide) (gf := (mkF m 58 #[.val (.long q1), .second, .val (.int p2), .val (.int p3), .val (.int z4_2), .val (.int z5_3), .val (.ref b5), .unset, .unset, .unset, .unset, .unset, .unset, .unset] [(.int (F1 q1 p2 (3 : Int32))), (.int (3 : Int32)), (.ref b5)])) rfl rfl (hb hby at_58)
  have V17' : OwnA Z h17 b5 .byte 8 (iv' (updv (updv (updv (updv (fun _ => 0) 0 ((F1 q1 p2 (0 : Int32)).toInt8.toInt32)) 1 ((F1 q1 p2 (1 : Int32)).toInt8.toInt32)) 2 ((F1 q1 p2 (2 : Int32)).toInt8.toInt32)) 3 ((F1 q1 p2 (3 : Int32)).toInt8.toInt32))) := V17
  have N17 := Fr.snoc X17 N16 gb_b5
  have Z17 : n0 ≤ h17.size := by rw [W17.size]; exact Z14
  refine OwnG.st st17 ?_
  show OwnG p e below s _ _ _ T17 (mkF m 59 #[.val (.long q1), .second, .val (.int p2), .val (.int p3), .val (.int z4_2), .val (.int z5_3), .val (.ref b5), .unset, .unset, .unset, .unset, .unset, .unset, .unset] [])
  have sg18 : ∀ tgt, Steps p.tables e below (T17.setTop (mkF m 65 #[.val (.long q1), .second, .val (.int p2), .val (.int p3), .val (.int z4_2), .val (.int z5_3), .val (.ref b5), .unset, .unset, .unset, .unset, .unset, .unset, .unset] [(.int (4 : Int32)), (.int p2), (.long q1), (.int (4 : Int32)), (.ref b5)])) tgt → Steps p.tables e below (T17.setTop (mkF m 59 #[.val (.long q1), .second, .val (.int p2), .val (.int p3), .val (.int z4_2), .val (.int z5_3), .val (.ref b5), .unset, .unset, .unset, .unset, .unset, .unset, .unset] [])) tgt := by
    intro tgt kt
    refine XS.aload X17.here hx rfl (hb hby at_59) rfl rfl ?_
    show Steps p.tables e below (T17.setTop (mkF m 61 #[.val (.long q1), .second, .val (.int p2), .val (.int p3), .val (.int z4_2), .val (.int z5_3), .val (.ref b5), .unset, .unset, .unset, .unset, .unset, .unset, .unset] [(.ref b5)])) _
    refine XS.iconst X17.here hx rfl (hb hby at_61) ?_
    show Steps p.tables e below (T17.setTop (mkF m 62 #[.val (.long q1), .second, .val (.int p2), .val (.int p3), .val (.int z4_2), .val (.int z5_3), .val (.ref b5), .unset, .unset, .unset, .unset, .unset, .unset, .unset] [(.int (4 : Int32)), (.ref b5)])) _
    refine XS.lloadN X17.here hx rfl (hb hby at_62) rfl ?_
    show Steps p.tables e below (T17.setTop (mkF m 63 #[.val (.long q1), .second, .val (.int p2), .val (.int p3), .val (.int z4_2), .val (.int z5_3), .val (.ref b5), .unset, .unset, .unset, .unset, .unset, .unset, .unset] [(.long q1), (.int (4 : Int32)), (.ref b5)])) _
    refine XS.iloadN X17.here hx rfl (hb hby at_63) rfl ?_
    show Steps p.tables e below (T17.setTop (mkF m 64 #[.val (.long q1), .second, .val (.int p2), .val (.int p3), .val (.int z4_2), .val (.int z5_3), .val (.ref b5), .unset, .unset, .unset, .unset, .unset, .unset, .unset] [(.int p2), (.long q1), (.int (4 : Int32)), (.ref b5)])) _
    refine XS.iconst X17.here hx rfl (hb hby at_64) ?_
    show Steps p.tables e below (T17.setTop (mkF m 65 #[.val (.long q1), .second, .val (.int p2), .val (.int p3), .val (.int z4_2), .val (.int z5_3), .val (.ref b5), .unset, .unset, .unset, .unset, .unset, .unset, .unset] [(.int (4 : Int32)), (.int p2), (.long q1), (.int (4 : Int32)), (.ref b5)])) _
    exact kt
  refine OwnG.st sg18 ?_
  obtain ⟨_, _, ⟨T19, L19, k19, n19⟩, -, X19, ⟨Lc19, hQ19, l19, y19, z19⟩, st19⟩ := Jvm.LawKit.callS X17 hx (y := (⟨"com/example/provenir/provenir/Iso2709RecordNumberPinLaw", "at", "(JII)B"⟩ : MethodName)) hown (mvT hZ (hw _ (List.mem_of_getElem? (i := 1) rfl))) (mvT hZ (hw _ (List.mem_of_getElem? (i := 2) rfl))) (mvT hZ (hw _ (List.mem_of_getElem? (i := 3) rfl))) (mvT hZ (hw _ (List.mem_of_getElem? (i := 4) rfl))) (by decide) (backOf (W := 2) (rm1 l Z a0 hw [] q1 p2 (4 : Int32)  h17 n0 Z17 ) hZ (hw _ (List.mem_of_getElem? (i := 4) rfl)) (hw _ (List.mem_of_getElem? (i := 3) rfl)) (by decide) (by decide)) (g := (mkF m 65 #[.val (.long q1), .second, .val (.int p2), .val (.int p3), .val (.int z4_2), .val (.int z5_3), .val (.ref b5), .unset, .unset, .unset, .unset, .unset, .unset, .unset] [(.int (4 : Int32)), (.int p2), (.long q1), (.int (4 : Int32)), (.ref b5)])) rfl (by rw [hml]; rfl) (argsL := [(.long q1), (.int p2), (.int (4 : Int32))]) (rest := [(.int (4 : Int32)), (.ref b5)]) (lenOf pd_0_0 rfl) rfl (by show 2 * 0 + _ ≤ _; exact Nat.le_of_eq rfl) (hb hby at_65) (fun _ _ => ⟨rfl, e17, (by decide : 1 + 0 ≤ _), (by decide : 8 + 0 ≤ _)⟩)
  dsimp only [Pt.U, Pt.locs, Pt.cells, Pt.slots] at X19 l19 y19 z19 st19 hQ19
  subst l19 y19 z19
  obtain ⟨rfl, N19q, e19⟩ := hQ19
  have N19 := Fr.app N17 N19q
  refine OwnG.st (fun t k => st19 t k) ?_
  show OwnG p e below s _ _ _ T19 (mkF m 68 #[.val (.long q1), .second, .val (.int p2), .val (.int p3), .val (.int z4_2), .val (.int z5_3), .val (.ref b5), .unset, .unset, .unset, .unset, .unset, .unset, .unset] [(.int (F1 q1 p2 (4 : Int32))), (.int (4 : Int32)), (.ref b5)])
  obtain ⟨T20, h20, X20, e20, W20, V20, st20⟩ := own_stB V17' X19 hx hZ e19 (by decide) (by decide) (gf := (mkF m 68 #[.val (.long q1), .second, .val (.int p2), .val (.int p3), .val (.int z4_2), .val (.int z5_3), .val (.ref b5), .unset, .unset, .unset, .unset, .unset, .unset, .unset] [(.int (F1 q1 p2 (4 : Int32))), (.int (4 : Int32)), (.ref b5)])) rfl rfl (hb hby at_68)
  have V20' : OwnA Z h20 b5 .byte 8 (iv' (updv (updv (updv (updv (updv (fun _ => 0) 0 ((F1 q1 p2 (0 : Int32)).toInt8.toInt32)) 1 ((F1 q1 p2 (1 : Int32)).toInt8.toInt32)) 2 ((F1 q1 p2 (2 : Int32)).toInt8.toInt32)) 3 ((F1 q1 p2 (3 : Int32)).toInt8.toInt32)) 4 ((F1 q1 p2 (4 : Int32)).toInt8.toInt32))) := V20
  have N20 := Fr.snoc X20 N19 gb_b5
  have Z20 : n0 ≤ h20.size := by rw [W20.size]; exact Z17
  refine OwnG.st st20 ?_
  show OwnG p e below s _ _ _ T20 (mkF m 69 #[.val (.long q1), .second, .val (.int p2), .val (.int p3), .val (.int z4_2), .val (.int z5_3), .val (.ref b5), .unset, .unset, .unset, .unset, .unset, .unset, .unset] [])
  have sg21 : ∀ tgt, Steps p.tables e below (T20.setTop (mkF m 75 #[.val (.long q1), .second, .val (.int p2), .val (.int p3), .val (.int z4_2), .val (.int z5_3), .val (.ref b5), .unset, .unset, .unset, .unset, .unset, .unset, .unset] [(.int (5 : Int32)), (.int p2), (.long q1), (.int (5 : Int32)), (.ref b5)])) tgt → Steps p.tables e below (T20.setTop (mkF m 69 #[.val (.long q1), .second, .val (.int p2), .val (.int p3), .val (.int z4_2), .val (.int z5_3), .val (.ref b5), .unset, .unset, .unset, .unset, .unset, .unset, .unset] [])) tgt := by
    intro tgt kt
    refine XS.aload X20.here hx rfl (hb hby at_69) rfl rfl ?_
    show Steps p.tables e below (T20.setTop (mkF m 71 #[.val (.long q1), .second, .val (.int p2), .val (.int p3), .val (.int z4_2), .val (.int z5_3), .val (.ref b5), .unset, .unset, .unset, .unset, .unset, .unset, .unset] [(.ref b5)])) _
    refine XS.iconst X20.here hx rfl (hb hby at_71) ?_
    show Steps p.tables e below (T20.setTop (mkF m 72 #[.val (.long q1), .second, .val (.int p2), .val (.int p3), .val (.int z4_2), .val (.int z5_3), .val (.ref b5), .unset, .unset, .unset, .unset, .unset, .unset, .unset] [(.int (5 : Int32)), (.ref b5)])) _
    refine XS.lloadN X20.here hx rfl (hb hby at_72) rfl ?_
    show Steps p.tables e below (T20.setTop (mkF m 73 #[.val (.long q1), .second, .val (.int p2), .val (.int p3), .val (.int z4_2), .val (.int z5_3), .val (.ref b5), .unset, .unset, .unset, .unset, .unset, .unset, .unset] [(.long q1), (.int (5 : Int32)), (.ref b5)])) _
    refine XS.iloadN X20.here hx rfl (hb hby at_73) rfl ?_
    show Steps p.tables e below (T20.setTop (mkF m 74 #[.val (.long q1), .second, .val (.int p2), .val (.int p3), .val (.int z4_2), .val (.int z5_3), .val (.ref b5), .unset, .unset, .unset, .unset, .unset, .unset, .unset] [(.int p2), (.long q1), (.int (5 : Int32)), (.ref b5)])) _
    refine XS.iconst X20.here hx rfl (hb hby at_74) ?_
    show Steps p.tables e below (T20.setTop (mkF m 75 #[.val (.long q1), .second, .val (.int p2), .val (.int p3), .val (.int z4_2), .val (.int z5_3), .val (.ref b5), .unset, .unset, .unset, .unset, .unset, .unset, .unset] [(.int (5 : Int32)), (.int p2), (.long q1), (.int (5 : Int32)), (.ref b5)])) _
    exact kt
  refine OwnG.st sg21 ?_
  obtain ⟨_, _, ⟨T22, L22, k22, n22⟩, -, X22, ⟨Lc22, hQ22, l22, y22, z22⟩, st22⟩ := Jvm.LawKit.callS X20 hx (y := (⟨"com/example/provenir/provenir/Iso2709RecordNumberPinLaw", "at", "(JII)B"⟩ : MethodName)) hown (mvT hZ (hw _ (List.mem_of_getElem? (i := 1) rfl))) (mvT hZ (hw _ (List.mem_of_getElem? (i := 2) rfl))) (mvT hZ (hw _ (List.mem_of_getElem? (i := 3) rfl))) (mvT hZ (hw _ (List.mem_of_getElem? (i := 4) rfl))) (by decide) (backOf (W := 2) (rm1 l Z a0 hw [] q1 p2 (5 : Int32)  h20 n0 Z20 ) hZ (hw _ (List.mem_of_getElem? (i := 4) rfl)) (hw _ (List.mem_of_getElem? (i := 3) rfl)) (by decide) (by decide)) (g := (mkF m 75 #[.val (.long q1), .second, .val (.int p2), .val (.int p3), .val (.int z4_2), .val (.int z5_3), .val (.ref b5), .unset, .unset, .unset, .unset, .unset, .unset, .unset] [(.int (5 : Int32)), (.int p2), (.long q1), (.int (5 : Int32)), (.ref b5)])) rfl (by rw [hml]; rfl) (argsL := [(.long q1), (.int p2), (.int (5 : Int32))]) (rest := [(.int (5 : Int32)), (.ref b5)]) (lenOf pd_0_0 rfl) rfl (by show 2 * 0 + _ ≤ _; exact Nat.le_of_eq rfl) (hb hby at_75) (fun _ _ => ⟨rfl, e20, (by decide : 1 + 0 ≤ _), (by decide : 8 + 0 ≤ _)⟩)
  dsimp only [Pt.U, Pt.locs, Pt.cells, Pt.slots] at X22 l22 y22 z22 st22 hQ22
  subst l22 y22 z22
  obtain ⟨rfl, N22q, e22⟩ := hQ22
  have N22 := Fr.app N20 N22q
  refine OwnG.st (fun t k => st22 t k) ?_
  show OwnG p e below s _ _ _ T22 (mkF m 78 #[.val (.long q1), .second, .val (.int p2), .val (.int p3), .val (.int z4_2), .val (.int z5_3), .val (.ref b5), .unset, .unset, .unset, .unset, .unset, .unset, .unset] [(.int (F1 q1 p2 (5 : Int32))), (.int (5 : Int32)), (.ref b5)])
  obtain ⟨T23, h23, X23, e23, W23, V23, st23⟩ := own_stB V20' X22 hx hZ e22 (by decide) (by decide) (gf := (mkF m 78 #[.val (.long q1), .second, .val (.int p2), .val (.int p3), .val (.int z4_2), .val (.int z5_3), .val (.ref b5), .unset, .unset, .unset, .unset, .unset, .unset, .unset] [(.int (F1 q1 p2 (5 : Int32))), (.int (5 : Int32)), (.ref b5)])) rfl rfl (hb hby at_78)
  have V23' : OwnA Z h23 b5 .byte 8 (iv' (updv (updv (updv (updv (updv (updv (fun _ => 0) 0 ((F1 q1 p2 (0 : Int32)).toInt8.toInt32)) 1 ((F1 q1 p2 (1 : Int32)).toInt8.toInt32)) 2 ((F1 q1 p2 (2 : Int32)).toInt8.toInt32)) 3 ((F1 q1 p2 (3 : Int32)).toInt8.toInt32)) 4 ((F1 q1 p2 (4 : Int32)).toInt8.toInt32)) 5 ((F1 q1 p2 (5 : Int32)).toInt8.toInt32))) := V23
  have N23 := Fr.snoc X23 N22 gb_b5
  have Z23 : n0 ≤ h23.size := by rw [W23.size]; exact Z20
  refine OwnG.st st23 ?_
  show OwnG p e below s _ _ _ T23 (mkF m 79 #[.val (.long q1), .second, .val (.int p2), .val (.int p3), .val (.int z4_2), .val (.int z5_3), .val (.ref b5), .unset, .unset, .unset, .unset, .unset, .unset, .unset] [])
  have sg24 : ∀ tgt, Steps p.tables e below (T23.setTop (mkF m 87 #[.val (.long q1), .second, .val (.int p2), .val (.int p3), .val (.int z4_2), .val (.int z5_3), .val (.ref b5), .unset, .unset, .unset, .unset, .unset, .unset, .unset] [(.int (6 : Int32)), (.int p2), (.long q1), (.int (6 : Int32)), (.ref b5)])) tgt → Steps p.tables e below (T23.setTop (mkF m 79 #[.val (.long q1), .second, .val (.int p2), .val (.int p3), .val (.int z4_2), .val (.int z5_3), .val (.ref b5), .unset, .unset, .unset, .unset, .unset, .unset, .unset] [])) tgt := by
    intro tgt kt
    refine XS.aload X23.here hx rfl (hb hby at_79) rfl rfl ?_
    show Steps p.tables e below (T23.setTop (mkF m 81 #[.val (.long q1), .second, .val (.int p2), .val (.int p3), .val (.int z4_2), .val (.int z5_3), .val (.ref b5), .unset, .unset, .unset, .unset, .unset, .unset, .unset] [(.ref b5)])) _
    refine XS.bipush X23.here hx rfl (hb hby at_81) ?_
    show Steps p.tables e below (T23.setTop (mkF m 83 #[.val (.long q1), .second, .val (.int p2), .val (.int p3), .val (.int z4_2), .val (.int z5_3), .val (.ref b5), .unset, .unset, .unset, .unset, .unset, .unset, .unset] [(.int (6 : Int32)), (.ref b5)])) _
    refine XS.lloadN X23.here hx rfl (hb hby at_83) rfl ?_
    show Steps p.tables e below (T23.setTop (mkF m 84 #[.val (.long q1), .second, .val (.int p2), .val (.int p3), .val (.int z4_2), .val (.int z5_3), .val (.ref b5), .unset, .unset, .unset, .unset, .unset, .unset, .unset] [(.long q1), (.int (6 : Int32)), (.ref b5)])) _
    refine XS.iloadN X23.here hx rfl (hb hby at_84) rfl ?_
    show Steps p.tables e below (T23.setTop (mkF m 85 #[.val (.long q1), .second, .val (.int p2), .val (.int p3), .val (.int z4_2), .val (.int z5_3), .val (.ref b5), .unset, .unset, .unset, .unset, .unset, .unset, .unset] [(.int p2), (.long q1), (.int (6 : Int32)), (.ref b5)])) _
    refine XS.bipush X23.here hx rfl (hb hby at_85) ?_
    show Steps p.tables e below (T23.setTop (mkF m 87 #[.val (.long q1), .second, .val (.int p2), .val (.int p3), .val (.int z4_2), .val (.int z5_3), .val (.ref b5), .unset, .unset, .unset, .unset, .unset, .unset, .unset] [(.int (6 : Int32)), (.int p2), (.long q1), (.int (6 : Int32)), (.ref b5)])) _
    exact kt
  refine OwnG.st sg24 ?_
  obtain ⟨_, _, ⟨T25, L25, k25, n25⟩, -, X25, ⟨Lc25, hQ25, l25, y25, z25⟩, st25⟩ := Jvm.LawKit.callS X23 hx (y := (⟨"com/example/provenir/provenir/Iso2709RecordNumberPinLaw", "at", "(JII)B"⟩ : MethodName)) hown (mvT hZ (hw _ (List.mem_of_getElem? (i := 1) rfl))) (mvT hZ (hw _ (List.mem_of_getElem? (i := 2) rfl))) (mvT hZ (hw _ (List.mem_of_getElem? (i := 3) rfl))) (mvT hZ (hw _ (List.mem_of_getElem? (i := 4) rfl))) (by decide) (backOf (W := 2) (rm1 l Z a0 hw [] q1 p2 (6 : Int32)  h23 n0 Z23 ) hZ (hw _ (List.mem_of_getElem? (i := 4) rfl)) (hw _ (List.mem_of_getElem? (i := 3) rfl)) (by decide) (by decide)) (g := (mkF m 87 #[.val (.long q1), .second, .val (.int p2), .val (.int p3), .val (.int z4_2), .val (.int z5_3), .val (.ref b5), .unset, .unset, .unset, .unset, .unset, .unset, .unset] [(.int (6 : Int32)), (.int p2), (.long q1), (.int (6 : Int32)), (.ref b5)])) rfl (by rw [hml]; rfl) (argsL := [(.long q1), (.int p2), (.int (6 : Int32))]) (rest := [(.int (6 : Int32)), (.ref b5)]) (lenOf pd_0_0 rfl) rfl (by show 2 * 0 + _ ≤ _; exact Nat.le_of_eq rfl) (hb hby at_87) (fun _ _ => ⟨rfl, e23, (by decide : 1 + 0 ≤ _), (by decide : 8 + 0 ≤ _)⟩)
  dsimp only [Pt.U, Pt.locs, Pt.cells, Pt.slots] at X25 l25 y25 z25 st25 hQ25
  subst l25 y25 z25
  obtain ⟨rfl, N25q, e25⟩ := hQ25
  have N25 := Fr.app N23 N25q
  refine OwnG.st (fun t k => st25 t k) ?_
  show OwnG p e below s _ _ _ T25 (mkF m 90 #[.val (.long q1), .second, .val (.int p2), .val (.int p3), .val (.int z4_2), .val (.int z5_3), .val (.ref b5), .unset, .unset, .unset, .unset, .unset, .unset, .unset] [(.int (F1 q1 p2 (6 : Int32))), (.int (6 : Int32)), (.ref b5)])
  obtain ⟨T26, h26, X26, e26, W26, V26, st26⟩ := own_stB V23' X25 hx hZ e25 (by decide) (by decide) (gf := (mkF m 90 #[.val (.long q1), .second, .val (.int p2), .val (.int p3), .val (.int z4_2), .val (.int z5_3), .val (.ref b5), .unset, .unset, .unset, .unset, .unset, .unset, .unset] [(.int (F1 q1 p2 (6 : Int32))), (.int (6 : Int32)), (.ref b5)])) rfl rfl (hb hby at_90)
  have V26' : OwnA Z h26 b5 .byte 8 (iv' (updv (updv (updv (updv (updv (updv (updv (fun _ => 0) 0 ((F1 q1 p2 (0 : Int32)).toInt8.toInt32)) 1 ((F1 q1 p2 (1 : Int32)).toInt8.toInt32)) 2 ((F1 q1 p2 (2 : Int32)).toInt8.toInt32)) 3 ((F1 q1 p2 (3 : Int32)).toInt8.toInt32)) 4 ((F1 q1 p2 (4 : Int32)).toInt8.toInt32)) 5 ((F1 q1 p2 (5 : Int32)).toInt8.toInt32)) 6 ((F1 q1 p2 (6 : Int32)).toInt8.toInt32))) := V26
  have N26 := Fr.snoc X26 N25 gb_b5
  have Z26 : n0 ≤ h26.size := by rw [W26.size]; exact Z23
  refine OwnG.st st26 ?_
  show OwnG p e below s _ _ _ T26 (mkF m 91 #[.val (.long q1), .second, .val (.int p2), .val (.int p3), .val (.int z4_2), .val (.int z5_3), .val (.ref b5), .unset, .unset, .unset, .unset, .unset, .unset, .unset] [])
  have sg27 : ∀ tgt, Steps p.tables e below (T26.setTop (mkF m 99 #[.val (.long q1), .second, .val (.int p2), .val (.int p3), .val (.int z4_2), .val (.int z5_3), .val (.ref b5), .unset, .unset, .unset, .unset, .unset, .unset, .unset] [(.int (7 : Int32)), (.int p2), (.long q1), (.int (7 : Int32)), (.ref b5)])) tgt → Steps p.tables e below (T26.setTop (mkF m 91 #[.val (.long q1), .second, .val (.int p2), .val (.int p3), .val (.int z4_2), .val (.int z5_3), .val (.ref b5), .unset, .unset, .unset, .unset, .unset, .unset, .unset] [])) tgt := by
    intro tgt kt
    refine XS.aload X26.here hx rfl (hb hby at_91) rfl rfl ?_
    show Steps p.tables e below (T26.setTop (mkF m 93 #[.val (.long q1), .second, .val (.int p2), .val (.int p3), .val (.int z4_2), .val (.int z5_3), .val (.ref b5), .unset, .unset, .unset, .unset, .unset, .unset, .unset] [(.ref b5)])) _
    refine XS.bipush X26.here hx rfl (hb hby at_93) ?_
    show Steps p.tables e below (T26.setTop (mkF m 95 #[.val (.long q1), .second, .val (.int p2), .val (.int p3), .val (.int z4_2), .val (.int z5_3), .val (.ref b5), .unset, .unset, .unset, .unset, .unset, .unset, .unset] [(.int (7 : Int32)), (.ref b5)])) _
    refine XS.lloadN X26.here hx rfl (hb hby at_95) rfl ?_
    show Steps p.tables e below (T26.setTop (mkF m 96 #[.val (.long q1), .second, .val (.int p2), .val (.int p3), .val (.int z4_2), .val (.int z5_3), .val (.ref b5), .unset, .unset, .unset, .unset, .unset, .unset, .unset] [(.long q1), (.int (7 : Int32)), (.ref b5)])) _
    refine XS.iloadN X26.here hx rfl (hb hby at_96) rfl ?_
    show Steps p.tables e below (T26.setTop (mkF m 97 #[.val (.long q1), .second, .val (.int p2), .val (.int p3), .val (.int z4_2), .val (.int z5_3), .val (.ref b5), .unset, .unset, .unset, .unset, .unset, .unset, .unset] [(.int p2), (.long q1), (.int (7 : Int32)), (.ref b5)])) _
    refine XS.bipush X26.here hx rfl (hb hby at_97) ?_
    show Steps p.tables e below (T26.setTop (mkF m 99 #[.val (.long q1), .second, .val (.int p2), .val (.int p3), .val (.int z4_2), .val (.int z5_3), .val (.ref b5), .unset, .unset, .unset, .unset, .unset, .unset, .unset] [(.int (7 : Int32)), (.int p2), (.long q1), (.int (7 : Int32)), (.ref b5)])) _
    exact kt
  refine OwnG.st sg27 ?_
  obtain ⟨_, _, ⟨T28, L28, k28, n28⟩, -, X28, ⟨Lc28, hQ28, l28, y28, z28⟩, st28⟩ := Jvm.LawKit.callS X26 hx (y := (⟨"com/example/provenir/provenir/Iso2709RecordNumberPinLaw", "at", "(JII)B"⟩ : MethodName)) hown (mvT hZ (hw _ (List.mem_of_getElem? (i := 1) rfl))) (mvT hZ (hw _ (List.mem_of_getElem? (i := 2) rfl))) (mvT hZ (hw _ (List.mem_of_getElem? (i := 3) rfl))) (mvT hZ (hw _ (List.mem_of_getElem? (i := 4) rfl))) (by decide) (backOf (W := 2) (rm1 l Z a0 hw [] q1 p2 (7 : Int32)  h26 n0 Z26 ) hZ (hw _ (List.mem_of_getElem? (i := 4) rfl)) (hw _ (List.mem_of_getElem? (i := 3) rfl)) (by decide) (by decide)) (g := (mkF m 99 #[.val (.long q1), .second, .val (.int p2), .val (.int p3), .val (.int z4_2), .val (.int z5_3), .val (.ref b5), .unset, .unset, .unset, .unset, .unset, .unset, .unset] [(.int (7 : Int32)), (.int p2), (.long q1), (.int (7 : Int32)), (.ref b5)])) rfl (by rw [hml]; rfl) (argsL := [(.long q1), (.int p2), (.int (7 : Int32))]) (rest := [(.int (7 : Int32)), (.ref b5)]) (lenOf pd_0_0 rfl) rfl (by show 2 * 0 + _ ≤ _; exact Nat.le_of_eq rfl) (hb hby at_99) (fun _ _ => ⟨rfl, e26, (by decide : 1 + 0 ≤ _), (by decide : 8 + 0 ≤ _)⟩)
  dsimp only [Pt.U, Pt.locs, Pt.cells, Pt.slots] at X28 l28 y28 z28 st28 hQ28
  subst l28 y28 z28
  obtain ⟨rfl, N28q, e28⟩ := hQ28
  have N28 := Fr.app N26 N28q
  refine OwnG.st (fun t k => st28 t k) ?_
  show OwnG p e below s _ _ _ T28 (mkF m 102 #[.val (.long q1), .second, .val (.int p2), .val (.int p3), .val (.int z4_2), .val (.int z5_3), .val (.ref b5), .unset, .unset, .unset, .unset, .unset, .unset, .unset] [(.int (F1 q1 p2 (7 : Int32))), (.int (7 : Int32)), (.ref b5)])
  obtain ⟨T29, h29, X29, e29, W29, V29, st29⟩ := own_stB V26' X28 hx hZ e28 (by decide) (by decide) (gf := (mkF m 102 #[.val (.long q1), .second, .val (.int p2), .val (.int p3), .val (.int z4_2), .val (.int z5_3), .val (.ref b5), .unset, .unset, .unset, .unset, .unset, .unset, .unset] [(.int (F1 q1 p2 (7 : Int32))), (.int (7 : Int32)), (.ref b5)])) rfl rfl (hb hby at_102)
  have V29' : OwnA Z h29 b5 .byte 8 (iv' (updv (updv (updv (updv (updv (updv (updv (updv (fun _ => 0) 0 ((F1 q1 p2 (0 : Int32)).toInt8.toInt32)) 1 ((F1 q1 p2 (1 : Int32)).toInt8.toInt32)) 2 ((F1 q1 p2 (2 : Int32)).toInt8.toInt32)) 3 ((F1 q1 p2 (3 : Int32)).toInt8.toInt32)) 4 ((F1 q1 p2 (4 : Int32)).toInt8.toInt32)) 5 ((F1 q1 p2 (5 : Int32)).toInt8.toInt32)) 6 ((F1 q1 p2 (6 : Int32)).toInt8.toInt32)) 7 ((F1 q1 p2 (7 : Int32)).toInt8.toInt32))) := V29
  have N29 := Fr.snoc X29 N28 gb_b5
  have Z29 : n0 ≤ h29.size := by rw [W29.size]; exact Z26
  refine OwnG.st st29 ?_
  show OwnG p e below s _ _ _ T29 (mkF m 103 #[.val (.long q1), .second, .val (.int p2), .val (.int p3), .val (.int z4_2), .val (.int z5_3), .val (.ref b5), .unset, .unset, .unset, .unset, .unset, .unset, .unset] [])
  obtain ⟨gB, hgB⟩ : ∃ g : Nat → Int32, g = (updv (updv (updv (updv (updv (updv (updv (updv (fun _ => 0) 0 ((F1 q1 p2 (0 : Int32)).toInt8.toInt32)) 1 ((F1 q1 p2 (1 : Int32)).toInt8.toInt32)) 2 ((F1 q1 p2 (2 : Int32)).toInt8.toInt32)) 3 ((F1 q1 p2 (3 : Int32)).toInt8.toInt32)) 4 ((F1 q1 p2 (4 : Int32)).toInt8.toInt32)) 5 ((F1 q1 p2 (5 : Int32)).toInt8.toInt32)) 6 ((F1 q1 p2 (6 : Int32)).toInt8.toInt32)) 7 ((F1 q1 p2 (7 : Int32)).toInt8.toInt32)) := ⟨_, rfl⟩
  have VgB : OwnA Z h29 b5 .byte 8 (iv' gB) := by rw [hgB]; exact V29'
  have sg30 : ∀ tgt, Steps p.tables e below (T29.setTop (mkF m 110 #[.val (.long q1), .second, .val (.int p2), .val (.int p3), .val (.int z4_2), .val (.int z5_3), .val (.ref b5), .unset, .unset, .unset, .unset, .unset, .unset, .unset] [(.int (0 : Int32)), (.int z5_3), (.int z4_2), (.ref b5)])) tgt → Steps p.tables e below (T29.setTop (mkF m 103 #[.val (.long q1), .second, .val (.int p2), .val (.int p3), .val (.int z4_2), .val (.int z5_3), .val (.ref b5), .unset, .unset, .unset, .unset, .unset, .unset, .unset] [])) tgt := by
    intro tgt kt
    refine XS.aload X29.here hx rfl (hb hby at_103) rfl rfl ?_
    show Steps p.tables e below (T29.setTop (mkF m 105 #[.val (.long q1), .second, .val (.int p2), .val (.int p3), .val (.int z4_2), .val (.int z5_3), .val (.ref b5), .unset, .unset, .unset, .unset, .unset, .unset, .unset] [(.ref b5)])) _
    refine XS.iload X29.here hx rfl (hb hby at_105) rfl ?_
    show Steps p.tables e below (T29.setTop (mkF m 107 #[.val (.long q1), .second, .val (.int p2), .val (.int p3), .val (.int z4_2), .val (.int z5_3), .val (.ref b5), .unset, .unset, .unset, .unset, .unset, .unset, .unset] [(.int z4_2), (.ref b5)])) _
    refine XS.iload X29.here hx rfl (hb hby at_107) rfl ?_
    show Steps p.tables e below (T29.setTop (mkF m 109 #[.val (.long q1), .second, .val (.int p2), .val (.int p3), .val (.int z4_2), .val (.int z5_3), .val (.ref b5), .unset, .unset, .unset, .unset, .unset, .unset, .unset] [(.int z5_3), (.int z4_2), (.ref b5)])) _
    refine XS.iconst X29.here hx rfl (hb hby at_109) ?_
    show Steps p.tables e below (T29.setTop (mkF m 110 #[.val (.long q1), .second, .val (.int p2), .val (.int p3), .val (.int z4_2), .val (.int z5_3), .val (.ref b5), .unset, .unset, .unset, .unset, .unset, .unset, .unset] [(.int (0 : Int32)), (.int z5_3), (.int z4_2), (.ref b5)])) _
    exact kt
  refine OwnG.st sg30 ?_
  obtain ⟨_, _, ⟨T31, L31, k31, n31⟩, -, X31, ⟨Lc31, hQ31, l31, y31, z31⟩, st31⟩ := Jvm.LawKit.callS X29 hx (y := (⟨"com/example/provenir/provenir/Iso2709RecordNumberPinLaw", "term", "([BIII)I"⟩ : MethodName)) hown (mvT hZ (hw _ (List.mem_of_getElem? (i := 6) rfl))) (mvT hZ (hw _ (List.mem_of_getElem? (i := 7) rfl))) (mvT hZ (hw _ (List.mem_of_getElem? (i := 3) rfl))) (mvT hZ (hw _ (List.mem_of_getElem? (i := 8) rfl))) (by decide) (backOf (W := 0) (rm2 l Z a0 hw [] b5 z4_2 z5_3 (0 : Int32) 8 gB h29 n0 Z29 VgB hfr hct (by decide) rfl) hZ (hw _ (List.mem_of_getElem? (i := 8) rfl)) (hw _ (List.mem_of_getElem? (i := 3) rfl)) (by decide) (by decide)) (g := (mkF m 110 #[.val (.long q1), .second, .val (.int p2), .val (.int p3), .val (.int z4_2), .val (.int z5_3), .val (.ref b5), .unset, .unset, .unset, .unset, .unset, .unset, .unset] [(.int (0 : Int32)), (.int z5_3), (.int z4_2), (.ref b5)])) rfl (by rw [hml]; rfl) (argsL := [(.ref b5), (.int z4_2), (.int z5_3), (.int (0 : Int32))]) (rest := []) (lenOf pd_0_1 rfl) rfl (by show 2 * 0 + _ ≤ _; exact Nat.le_of_eq rfl) (hb hby at_110) (fun _ _ => ⟨rfl, e29, (by decide : 1 + 1 ≤ _), (by decide : 8 + 5 ≤ _)⟩)
  dsimp only [Pt.U, Pt.locs, Pt.cells, Pt.slots] at X31 l31 y31 z31 st31 hQ31
  subst l31 y31 z31
  obtain ⟨rfl, N31q, Kq31⟩ := hQ31
  have Z31 : n0 ≤ T31.heap.size := Nat.le_trans Z29 Kq31.1
  have fA_b5_32 := (VgB.keep Kq31 nin0)
  have N31 := Fr.app N29 N31q
  refine OwnG.st (fun t k => st31 t k) ?_
  show OwnG p e below s _ _ _ T31 (mkF m 113 #[.val (.long q1), .second, .val (.int p2), .val (.int p3), .val (.int z4_2), .val (.int z5_3), .val (.ref b5), .unset, .unset, .unset, .unset, .unset, .unset, .unset] [(.int (F2 z4_2 z5_3 (0 : Int32) gB))])
  have sg33 : ∀ tgt, Steps p.tables e below (T31.setTop (mkF m 122 #[.val (.long q1), .second, .val (.int p2), .val (.int p3), .val (.int z4_2), .val (.int z5_3), .val (.ref b5), .val (.int (F2 z4_2 z5_3 (0 : Int32) gB)), .unset, .unset, .unset, .unset, .unset, .unset] [(.int (1 : Int32)), (.int z5_3), (.int z4_2), (.ref b5)])) tgt → Steps p.tables e below (T31.setTop (mkF m 113 #[.val (.long q1), .second, .val (.int p2), .val (.int p3), .val (.int z4_2), .val (.int z5_3), .val (.ref b5), .unset, .unset, .unset, .unset, .unset, .unset, .unset] [(.int (F2 z4_2 z5_3 (0 : Int32) gB))])) tgt := by
    intro tgt kt
    refine XS.istore X31.here hx rfl (hb hby at_113) rfl (l' := #[.val (.long q1), .second, .val (.int p2), .val (.int p3), .val (.int z4_2), .val (.int z5_3), .val (.ref b5), .val (.int (F2 z4_2 z5_3 (0 : Int32) gB)), .unset, .unset, .unset, .unset, .unset, .unset]) rfl ?_
    show Steps p.tables e below (T31.setTop (mkF m 115 #[.val (.long q1), .second, .val (.int p2), .val (.int p3), .val (.int z4_2), .val (.int z5_3), .val (.ref b5), .val (.int (F2 z4_2 z5_3 (0 : Int32) gB)), .unset, .unset, .unset, .unset, .unset, .unset] [])) _
    refine XS.aload X31.here hx rfl (hb hby at_115) rfl rfl ?_
    show Steps p.tables e below (T31.setTop (mkF m 117 #[.val (.long q1), .second, .val (.int p2), .val (.int p3), .val (.int z4_2), .val (.int z5_3), .val (.ref b5), .val (.int (F2 z4_2 z5_3 (0 : Int32) gB)), .unset, .unset, .unset, .unset, .unset, .unset] [(.ref b5)])) _
    refine XS.iload X31.here hx rfl (hb hby at_117) rfl ?_
    show Steps p.tables e below (T31.setTop (mkF m 119 #[.val (.long q1), .second, .val (.int p2), .val (.int p3), .val (.int z4_2), .val (.int z5_3), .val (.ref b5), .val (.int (F2 z4_2 z5_3 (0 : Int32) gB)), .unset, .unset, .unset, .unset, .unset, .unset] [(.int z4_2), (.ref b5)])) _
    refine XS.iload X31.here hx rfl (hb hby at_119) rfl ?_
    show Steps p.tables e below (T31.setTop (mkF m 121 #[.val (.long q1), .second, .val (.int p2), .val (.int p3), .val (.int z4_2), .val (.int z5_3), .val (.ref b5), .val (.int (F2 z4_2 z5_3 (0 : Int32) gB)), .unset, .unset, .unset, .unset, .unset, .unset] [(.int z5_3), (.int z4_2), (.ref b5)])) _
    refine XS.iconst X31.here hx rfl (hb hby at_121) ?_
    show Steps p.tables e below (T31.setTop (mkF m 122 #[.val (.long q1), .second, .val (.int p2), .val (.int p3), .val (.int z4_2), .val (.int z5_3), .val (.ref b5), .val (.int (F2 z4_2 z5_3 (0 : Int32) gB)), .unset, .unset, .unset, .unset, .unset, .unset] [(.int (1 : Int32)), (.int z5_3), (.int z4_2), (.ref b5)])) _
    exact kt
  refine OwnG.st sg33 ?_
  obtain ⟨_, _, ⟨T34, L34, k34, n34⟩, -, X34, ⟨Lc34, hQ34, l34, y34, z34⟩, st34⟩ := Jvm.LawKit.callS X31 hx (y := (⟨"com/example/provenir/provenir/Iso2709RecordNumberPinLaw", "term", "([BIII)I"⟩ : MethodName)) hown (mvT hZ (hw _ (List.mem_of_getElem? (i := 6) rfl))) (mvT hZ (hw _ (List.mem_of_getElem? (i := 7) rfl))) (mvT hZ (hw _ (List.mem_of_getElem? (i := 3) rfl))) (mvT hZ (hw _ (List.mem_of_getElem? (i := 8) rfl))) (by decide) (backOf (W := 0) (rm2 l Z a0 hw [] b5 z4_2 z5_3 (1 : Int32) 8 gB T31.heap n0 Z31 fA_b5_32 hfr hct (by decide) rfl) hZ (hw _ (List.mem_of_getElem? (i := 8) rfl)) (hw _ (List.mem_of_getElem? (i := 3) rfl)) (by decide) (by decide)) (g := (mkF m 122 #[.val (.long q1), .second, .val (.int p2), .val (.int p3), .val (.int z4_2), .val (.int z5_3), .val (.ref b5), .val (.int (F2 z4_2 z5_3 (0 : Int32) gB)), .unset, .unset, .unset, .unset, .unset, .unset] [(.int (1 : Int32)), (.int z5_3), (.int z4_2), (.ref b5)])) rfl (by rw [hml]; rfl) (argsL := [(.ref b5), (.int z4_2), (.int z5_3), (.int (1 : Int32))]) (rest := []) (lenOf pd_0_1 rfl) rfl (by show 2 * 0 + _ ≤ _; exact Nat.le_of_eq rfl) (hb hby at_122) (fun _ _ => ⟨rfl, rfl, (by decide : 2 + 1 ≤ _), (by decide : 13 + 5 ≤ _)⟩)
  dsimp only [Pt.U, Pt.locs, Pt.cells, Pt.slots] at X34 l34 y34 z34 st34 hQ34
  subst l34 y34 z34
  obtain ⟨rfl, N34q, Kq34⟩ := hQ34
  have Z34 : n0 ≤ T34.heap.size := Nat.le_trans Z31 Kq34.1
  have fA_b5_35 := (fA_b5_32.keep Kq34 nin0)
  have N34 := Fr.app N31 N34q
  refine OwnG.st (fun t k => st34 t k) ?_
  show OwnG p e below s _ _ _ T34 (mkF m 125 #[.val (.long q1), .second, .val (.int p2), .val (.int p3), .val (.int z4_2), .val (.int z5_3), .val (.ref b5), .val (.int (F2 z4_2 z5_3 (0 : Int32) gB)), .unset, .unset, .unset, .unset, .unset, .unset] [(.int (F2 z4_2 z5_3 (1 : Int32) gB))])
  have sg36 : ∀ tgt, Steps p.tables e below (T34.setTop (mkF m 134 #[.val (.long q1), .second, .val (.int p2), .val (.int p3), .val (.int z4_2), .val (.int z5_3), .val (.ref b5), .val (.int (F2 z4_2 z5_3 (0 : Int32) gB)), .val (.int (F2 z4_2 z5_3 (1 : Int32) gB)), .unset, .unset, .unset, .unset, .unset] [(.int (2 : Int32)), (.int z5_3), (.int z4_2), (.ref b5)])) tgt → Steps p.tables e below (T34.setTop (mkF m 125 #[.val (.long q1), .second, .val (.int p2), .val (.int p3), .val (.int z4_2), .val (.int z5_3), .val (.ref b5), .val (.int (F2 z4_2 z5_3 (0 : Int32) gB)), .unset, .unset, .unset, .unset, .unset, .unset] [(.int (F2 z4_2 z5_3 (1 : Int32) gB))])) tgt := by
    intro tgt kt
    refine XS.istore X34.here hx rfl (hb hby at_125) rfl (l' := #[.val (.long q1), .second, .val (.int p2), .val (.int p3), .val (.int z4_2), .val (.int z5_3), .val (.ref b5), .val (.int (F2 z4_2 z5_3 (0 : Int32) gB)), .val (.int (F2 z4_2 z5_3 (1 : Int32) gB)), .unset, .unset, .unset, .unset, .unset]) rfl ?_
    show Steps p.tables e below (T34.setTop (mkF m 127 #[.val (.long q1), .second, .val (.int p2), .val (.int p3), .val (.int z4_2), .val (.int z5_3), .val (.ref b5), .val (.int (F2 z4_2 z5_3 (0 : Int32) gB)), .val (.int (F2 z4_2 z5_3 (1 : Int32) gB)), .unset, .unset, .unset, .unset, .unset] [])) _
    refine XS.aload X34.here hx rfl (hb hby at_127) rfl rfl ?_
    show Steps p.tables e below (T34.setTop (mkF m 129 #[.val (.long q1), .second, .val (.int p2), .val (.int p3), .val (.int z4_2), .val (.int z5_3), .val (.ref b5), .val (.int (F2 z4_2 z5_3 (0 : Int32) gB)), .val (.int (F2 z4_2 z5_3 (1 : Int32) gB)), .unset, .unset, .unset, .unset, .unset] [(.ref b5)])) _
    refine XS.iload X34.here hx rfl (hb hby at_129) rfl ?_
    show Steps p.tables e below (T34.setTop (mkF m 131 #[.val (.long q1), .second, .val (.int p2), .val (.int p3), .val (.int z4_2), .val (.int z5_3), .val (.ref b5), .val (.int (F2 z4_2 z5_3 (0 : Int32) gB)), .val (.int (F2 z4_2 z5_3 (1 : Int32) gB)), .unset, .unset, .unset, .unset, .unset] [(.int z4_2), (.ref b5)])) _
    refine XS.iload X34.here hx rfl (hb hby at_131) rfl ?_
    show Steps p.tables e below (T34.setTop (mkF m 133 #[.val (.long q1), .second, .val (.int p2), .val (.int p3), .val (.int z4_2), .val (.int z5_3), .val (.ref b5), .val (.int (F2 z4_2 z5_3 (0 : Int32) gB)), .val (.int (F2 z4_2 z5_3 (1 : Int32) gB)), .unset, .unset, .unset, .unset, .unset] [(.int z5_3), (.int z4_2), (.ref b5)])) _
    refine XS.iconst X34.here hx rfl (hb hby at_133) ?_
    show Steps p.tables e below (T34.setTop (mkF m 134 #[.val (.long q1), .second, .val (.int p2), .val (.int p3), .val (.int z4_2), .val (.int z5_3), .val (.ref b5), .val (.int (F2 z4_2 z5_3 (0 : Int32) gB)), .val (.int (F2 z4_2 z5_3 (1 : Int32) gB)), .unset, .unset, .unset, .unset, .unset] [(.int (2 : Int32)), (.int z5_3), (.int z4_2), (.ref b5)])) _
    exact kt
  refine OwnG.st sg36 ?_
  obtain ⟨_, _, ⟨T37, L37, k37, n37⟩, -, X37, ⟨Lc37, hQ37, l37, y37, z37⟩, st37⟩ := Jvm.LawKit.callS X34 hx (y := (⟨"com/example/provenir/provenir/Iso2709RecordNumberPinLaw", "term", "([BIII)I"⟩ : MethodName)) hown (mvT hZ (hw _ (List.mem_of_getElem? (i := 6) rfl))) (mvT hZ (hw _ (List.mem_of_getElem? (i := 7) rfl))) (mvT hZ (hw _ (List.mem_of_getElem? (i := 3) rfl))) (mvT hZ (hw _ (List.mem_of_getElem? (i := 8) rfl))) (by decide) (backOf (W := 0) (rm2 l Z a0 hw [] b5 z4_2 z5_3 (2 : Int32) 8 gB T34.heap n0 Z34 fA_b5_35 hfr hct (by decide) rfl) hZ (hw _ (List.mem_of_getElem? (i := 8) rfl)) (hw _ (List.mem_of_getElem? (i := 3) rfl)) (by decide) (by decide)) (g := (mkF m 134 #[.val (.long q1), .second, .val (.int p2), .val (.int p3), .val (.int z4_2), .val (.int z5_3), .val (.ref b5), .val (.int (F2 z4_2 z5_3 (0 : Int32) gB)), .val (.int (F2 z4_2 z5_3 (1 : Int32) gB)), .unset, .unset, .unset, .unset, .unset] [(.int (2 : Int32)), (.int z5_3), (.int z4_2), (.ref b5)])) rfl (by rw [hml]; rfl) (argsL := [(.ref b5), (.int z4_2), (.int z5_3), (.int (2 : Int32))]) (rest := []) (lenOf pd_0_1 rfl) rfl (by show 2 * 0 + _ ≤ _; exact Nat.le_of_eq rfl) (hb hby at_134) (fun _ _ => ⟨rfl, rfl, (by decide : 3 + 1 ≤ _), (by decide : 18 + 5 ≤ _)⟩)
  dsimp only [Pt.U, Pt.locs, Pt.cells, Pt.slots] at X37 l37 y37 z37 st37 hQ37
  subst l37 y37 z37
  obtain ⟨rfl, N37q, Kq37⟩ := hQ37
  have Z37 : n0 ≤ T37.heap.size := Nat.le_trans Z34 Kq37.1
  have fA_b5_38 := (fA_b5_35.keep Kq37 nin0)
  have N37 := Fr.app N34 N37q
  refine OwnG.st (fun t k => st37 t k) ?_
  show OwnG p e below s _ _ _ T37 (mkF m 137 #[.val (.long q1), .second, .val (.int p2), .val (.int p3), .val (.int z4_2), .val (.int z5_3), .val (.ref b5), .val (.int (F2 z4_2 z5_3 (0 : Int32) gB)), .val (.int (F2 z4_2 z5_3 (1 : Int32) gB)), .unset, .unset, .unset, .unset, .unset] [(.int (F2 z4_2 z5_3 (2 : Int32) gB))])
  have sg39 : ∀ tgt, Steps p.tables e below (T37.setTop (mkF m 146 #[.val (.long q1), .second, .val (.int p2), .val (.int p3), .val (.int z4_2), .val (.int z5_3), .val (.ref b5), .val (.int (F2 z4_2 z5_3 (0 : Int32) gB)), .val (.int (F2 z4_2 z5_3 (1 : Int32) gB)), .val (.int (F2 z4_2 z5_3 (2 : Int32) gB)), .unset, .unset, .unset, .unset] [(.int (3 : Int32)), (.int z5_3), (.int z4_2), (.ref b5)])) tgt → Steps p.tables e below (T37.setTop (mkF m 137 #[.val (.long q1), .second, .val (.int p2), .val (.int p3), .val (.int z4_2), .val (.int z5_3), .val (.ref b5), .val (.int (F2 z4_2 z5_3 (0 : Int32) gB)), .val (.int (F2 z4_2 z5_3 (1 : Int32) gB)), .unset, .unset, .unset, .unset, .unset] [(.int (F2 z4_2 z5_3 (2 : Int32) gB))])) tgt := by
    intro tgt kt
    refine XS.istore X37.here hx rfl (hb hby at_137) rfl (l' := #[.val (.long q1), .second, .val (.int p2), .val (.int p3), .val (.int z4_2), .val (.int z5_3), .val (.ref b5), .val (.int (F2 z4_2 z5_3 (0 : Int32) gB)), .val (.int (F2 z4_2 z5_3 (1 : Int32) gB)), .val (.int (F2 z4_2 z5_3 (2 : Int32) gB)), .unset, .unset, .unset, .unset]) rfl ?_
    show Steps p.tables e below (T37.setTop (mkF m 139 #[.val (.long q1), .second, .val (.int p2), .val (.int p3), .val (.int z4_2), .val (.int z5_3), .val (.ref b5), .val (.int (F2 z4_2 z5_3 (0 : Int32) gB)), .val (.int (F2 z4_2 z5_3 (1 : Int32) gB)), .val (.int (F2 z4_2 z5_3 (2 : Int32) gB)), .unset, .unset, .unset, .unset] [])) _
    refine XS.aload X37.here hx rfl (hb hby at_139) rfl rfl ?_
    show Steps p.tables e below (T37.setTop (mkF m 141 #[.val (.long q1), .second, .val (.int p2), .val (.int p3), .val (.int z4_2), .val (.int z5_3), .val (.ref b5), .val (.int (F2 z4_2 z5_3 (0 : Int32) gB)), .val (.int (F2 z4_2 z5_3 (1 : Int32) gB)), .val (.int (F2 z4_2 z5_3 (2 : Int32) gB)), .unset, .unset, .unset, .unset] [(.ref b5)])) _
    refine XS.iload X37.here hx rfl (hb hby at_141) rfl ?_
    show Steps p.tables e below (T37.setTop (mkF m 143 #[.val (.long q1), .second, .val (.int p2), .val (.int p3), .val (.int z4_2), .val (.int z5_3), .val (.ref b5), .val (.int (F2 z4_2 z5_3 (0 : Int32) gB)), .val (.int (F2 z4_2 z5_3 (1 : Int32) gB)), .val (.int (F2 z4_2 z5_3 (2 : Int32) gB)), .unset, .unset, .unset, .unset] [(.int z4_2), (.ref b5)])) _
    refine XS.iload X37.here hx rfl (hb hby at_143) rfl ?_
    show Steps p.tables e below (T37.setTop (mkF m 145 #[.val (.long q1), .second, .val (.int p2), .val (.int p3), .val (.int z4_2), .val (.int z5_3), .val (.ref b5), .val (.int (F2 z4_2 z5_3 (0 : Int32) gB)), .val (.int (F2 z4_2 z5_3 (1 : Int32) gB)), .val (.int (F2 z4_2 z5_3 (2 : Int32) gB)), .unset, .unset, .unset, .unset] [(.int z5_3), (.int z4_2), (.ref b5)])) _
    refine XS.iconst X37.here hx rfl (hb hby at_145) ?_
    show Steps p.tables e below (T37.setTop (mkF m 146 #[.val (.long q1), .second, .val (.int p2), .val (.int p3), .val (.int z4_2), .val (.int z5_3), .val (.ref b5), .val (.int (F2 z4_2 z5_3 (0 : Int32) gB)), .val (.int (F2 z4_2 z5_3 (1 : Int32) gB)), .val (.int (F2 z4_2 z5_3 (2 : Int32) gB)), .unset, .unset, .unset, .unset] [(.int (3 : Int32)), (.int z5_3), (.int z4_2), (.ref b5)])) _
    exact kt
  refine OwnG.st sg39 ?_
  obtain ⟨_, _, ⟨T40, L40, k40, n40⟩, -, X40, ⟨Lc40, hQ40, l40, y40, z40⟩, st40⟩ := Jvm.LawKit.callS X37 hx (y := (⟨"com/example/provenir/provenir/Iso2709RecordNumberPinLaw", "term", "([BIII)I"⟩ : MethodName)) hown (mvT hZ (hw _ (List.mem_of_getElem? (i := 6) rfl))) (mvT hZ (hw _ (List.mem_of_getElem? (i := 7) rfl))) (mvT hZ (hw _ (List.mem_of_getElem? (i := 3) rfl))) (mvT hZ (hw _ (List.mem_of_getElem? (i := 8) rfl))) (by decide) (backOf (W := 0) (rm2 l Z a0 hw [] b5 z4_2 z5_3 (3 : Int32) 8 gB T37.heap n0 Z37 fA_b5_38 hfr hct (by decide) rfl) hZ (hw _ (List.mem_of_getElem? (i := 8) rfl)) (hw _ (List.mem_of_getElem? (i := 3) rfl)) (by decide) (by decide)) (g := (mkF m 146 #[.val (.long q1), .second, .val (.int p2), .val (.int p3), .val (.int z4_2), .val (.int z5_3), .val (.ref b5), .val (.int (F2 z4_2 z5_3 (0 : Int32) gB)), .val (.int (F2 z4_2 z5_3 (1 : Int32) gB)), .val (.int (F2 z4_2 z5_3 (2 : Int32) gB)), .unset, .unset, .unset, .unset] [(.int (3 : Int32)), (.int z5_3), (.int z4_2), (.ref b5)])) rfl (by rw [hml]; rfl) (argsL := [(.ref b5), (.int z4_2), (.int z5_3), (.int (3 : Int32))]) (rest := []) (lenOf pd_0_1 rfl) rfl (by show 2 * 0 + _ ≤ _; exact Nat.le_of_eq rfl) (hb hby at_146) (fun _ _ => ⟨rfl, rfl, (by decide : 4 + 1 ≤ _), (by decide : 23 + 5 ≤ _)⟩)
  dsimp only [Pt.U, Pt.locs, Pt.cells, Pt.slots] at X40 l40 y40 z40 st40 hQ40
  subst l40 y40 z40
  obtain ⟨rfl, N40q, Kq40⟩ := hQ40
  have Z40 : n0 ≤ T40.heap.size := Nat.le_trans Z37 Kq40.1
  have fA_b5_41 := (fA_b5_38.keep Kq40 nin0)
  have N40 := Fr.app N37 N40q
  refine OwnG.st (fun t k => st40 t k) ?_
  show OwnG p e below s _ _ _ T40 (mkF m 149 #[.val (.long q1), .second, .val (.int p2), .val (.int p3), .val (.int z4_2), .val (.int z5_3), .val (.ref b5), .val (.int (F2 z4_2 z5_3 (0 : Int32) gB)), .val (.int (F2 z4_2 z5_3 (1 : Int32) gB)), .val (.int (F2 z4_2 z5_3 (2 : Int32) gB)), .unset, .unset, .unset, .unset] [(.int (F2 z4_2 z5_3 (3 : Int32) gB))])
  have sg42 : ∀ tgt, Steps p.tables e below (T40.setTop (mkF m 158 #[.val (.long q1), .second, .val (.int p2), .val (.int p3), .val (.int z4_2), .val (.int z5_3), .val (.ref b5), .val (.int (F2 z4_2 z5_3 (0 : Int32) gB)), .val (.int (F2 z4_2 z5_3 (1 : Int32) gB)), .val (.int (F2 z4_2 z5_3 (2 : Int32) gB)), .val (.int (F2 z4_2 z5_3 (3 : Int32) gB)), .unset, .unset, .unset] [(.int (4 : Int32)), (.int z5_3), (.int z4_2), (.ref b5)])) tgt → Steps p.tables e below (T40.setTop (mkF m 149 #[.val (.long q1), .second, .val (.int p2), .val (.int p3), .val (.int z4_2), .val (.int z5_3), .val (.ref b5), .val (.int (F2 z4_2 z5_3 (0 : Int32) gB)), .val (.int (F2 z4_2 z5_3 (1 : Int32) gB)), .val (.int (F2 z4_2 z5_3 (2 : Int32) gB)), .unset, .unset, .unset, .unset] [(.int (F2 z4_2 z5_3 (3 : Int32) gB))])) tgt := by
    intro tgt kt
    refine XS.istore X40.here hx rfl (hb hby at_149) rfl (l' := #[.val (.long q1), .second, .val (.int p2), .val (.int p3), .val (.int z4_2), .val (.int z5_3), .val (.ref b5), .val (.int (F2 z4_2 z5_3 (0 : Int32) gB)), .val (.int (F2 z4_2 z5_3 (1 : Int32) gB)), .val (.int (F2 z4_2 z5_3 (2 : Int32) gB)), .val (.int (F2 z4_2 z5_3 (3 : Int32) gB)), .unset, .unset, .unset]) rfl ?_
    show Steps p.tables e below (T40.setTop (mkF m 151 #[.val (.long q1), .second, .val (.int p2), .val (.int p3), .val (.int z4_2), .val (.int z5_3), .val (.ref b5), .val (.int (F2 z4_2 z5_3 (0 : Int32) gB)), .val (.int (F2 z4_2 z5_3 (1 : Int32) gB)), .val (.int (F2 z4_2 z5_3 (2 : Int32) gB)), .val (.int (F2 z4_2 z5_3 (3 : Int32) gB)), .unset, .unset, .unset] [])) _
    refine XS.aload X40.here hx rfl (hb hby at_151) rfl rfl ?_
    show Steps p.tables e below (T40.setTop (mkF m 153 #[.val (.long q1), .second, .val (.int p2), .val (.int p3), .val (.int z4_2), .val (.int z5_3), .val (.ref b5), .val (.int (F2 z4_2 z5_3 (0 : Int32) gB)), .val (.int (F2 z4_2 z5_3 (1 : Int32) gB)), .val (.int (F2 z4_2 z5_3 (2 : Int32) gB)), .val (.int (F2 z4_2 z5_3 (3 : Int32) gB)), .unset, .unset, .unset] [(.ref b5)])) _
    refine XS.iload X40.here hx rfl (hb hby at_153) rfl ?_
    show Steps p.tables e below (T40.setTop (mkF m 155 #[.val (.long q1), .second, .val (.int p2), .val (.int p3), .val (.int z4_2), .val (.int z5_3), .val (.ref b5), .val (.int (F2 z4_2 z5_3 (0 : Int32) gB)), .val (.int (F2 z4_2 z5_3 (1 : Int32) gB)), .val (.int (F2 z4_2 z5_3 (2 : Int32) gB)), .val (.int (F2 z4_2 z5_3 (3 : Int32) gB)), .unset, .unset, .unset] [(.int z4_2), (.ref b5)])) _
    refine XS.iload X40.here hx rfl (hb hby at_155) rfl ?_
    show Steps p.tables e below (T40.setTop (mkF m 157 #[.val (.long q1), .second, .val (.int p2), .val (.int p3), .val (.int z4_2), .val (.int z5_3), .val (.ref b5), .val (.int (F2 z4_2 z5_3 (0 : Int32) gB)), .val (.int (F2 z4_2 z5_3 (1 : Int32) gB)), .val (.int (F2 z4_2 z5_3 (2 : Int32) gB)), .val (.int (F2 z4_2 z5_3 (3 : Int32) gB)), .unset, .unset, .unset] [(.int z5_3), (.int z4_2), (.ref b5)])) _
    refine XS.iconst X40.here hx rfl (hb hby at_157) ?_
    show Steps p.tables e below (T40.setTop (mkF m 158 #[.val (.long q1), .second, .val (.int p2), .val (.int p3), .val (.int z4_2), .val (.int z5_3), .val (.ref b5), .val (.int (F2 z4_2 z5_3 (0 : Int32) gB)), .val (.int (F2 z4_2 z5_3 (1 : Int32) gB)), .val (.int (F2 z4_2 z5_3 (2 : Int32) gB)), .val (.int (F2 z4_2 z5_3 (3 : Int32) gB)), .unset, .unset, .unset] [(.int (4 : Int32)), (.int z5_3), (.int z4_2), (.ref b5)])) _
    exact kt
  refine OwnG.st sg42 ?_
  obtain ⟨_, _, ⟨T43, L43, k43, n43⟩, -, X43, ⟨Lc43, hQ43, l43, y43, z43⟩, st43⟩ := Jvm.LawKit.callS X40 hx (y := (⟨"com/example/provenir/provenir/Iso2709RecordNumberPinLaw", "term", "([BIII)I"⟩ : MethodName)) hown (mvT hZ (hw _ (List.mem_of_getElem? (i := 6) rfl))) (mvT hZ (hw _ (List.mem_of_getElem? (i := 7) rfl))) (mvT hZ (hw _ (List.mem_of_getElem? (i := 3) rfl))) (mvT hZ (hw _ (List.mem_of_getElem? (i := 8) rfl))) (by decide) (backOf (W := 0) (rm2 l Z a0 hw [] b5 z4_2 z5_3 (4 : Int32) 8 gB T40.heap n0 Z40 fA_b5_41 hfr hct (by decide) rfl) hZ (hw _ (List.mem_of_getElem? (i := 8) rfl)) (hw _ (List.mem_of_getElem? (i := 3) rfl)) (by decide) (by decide)) (g := (mkF m 158 #[.val (.long q1), .second, .val (.int p2), .val (.int p3), .val (.int z4_2), .val (.int z5_3), .val (.ref b5), .val (.int (F2 z4_2 z5_3 (0 : Int32) gB)), .val (.int (F2 z4_2 z5_3 (1 : Int32) gB)), .val (.int (F2 z4_2 z5_3 (2 : Int32) gB)), .val (.int (F2 z4_2 z5_3 (3 : Int32) gB)), .unset, .unset, .unset] [(.int (4 : Int32)), (.int z5_3), (.int z4_2), (.ref b5)])) rfl (by rw [hml]; rfl) (argsL := [(.ref b5), (.int z4_2), (.int z5_3), (.int (4 : Int32))]) (rest := []) (lenOf pd_0_1 rfl) rfl (by show 2 * 0 + _ ≤ _; exact Nat.le_of_eq rfl) (hb hby at_158) (fun _ _ => ⟨rfl, rfl, (by decide : 5 + 1 ≤ _), (by decide : 28 + 5 ≤ _)⟩)
  dsimp only [Pt.U, Pt.locs, Pt.cells, Pt.slots] at X43 l43 y43 z43 st43 hQ43
  subst l43 y43 z43
  obtain ⟨rfl, N43q, Kq43⟩ := hQ43
  have Z43 : n0 ≤ T43.heap.size := Nat.le_trans Z40 Kq43.1
  have fA_b5_44 := (fA_b5_41.keep Kq43 nin0)
  have N43 := Fr.app N40 N43q
  refine OwnG.st (fun t k => st43 t k) ?_
  show OwnG p e below s _ _ _ T43 (mkF m 161 #[.val (.long q1), .second, .val (.int p2), .val (.int p3), .val (.int z4_2), .val (.int z5_3), .val (.ref b5), .val (.int (F2 z4_2 z5_3 (0 : Int32) gB)), .val (.int (F2 z4_2 z5_3 (1 : Int32) gB)), .val (.int (F2 z4_2 z5_3 (2 : Int32) gB)), .val (.int (F2 z4_2 z5_3 (3 : Int32) gB)), .unset, .unset, .unset] [(.int (F2 z4_2 z5_3 (4 : Int32) gB))])
  have sg45 : ∀ tgt, Steps p.tables e below (T43.setTop (mkF m 165 #[.val (.long q1), .second, .val (.int p2), .val (.int p3), .val (.int z4_2), .val (.int z5_3), .val (.ref b5), .val (.int (F2 z4_2 z5_3 (0 : Int32) gB)), .val (.int (F2 z4_2 z5_3 (1 : Int32) gB)), .val (.int (F2 z4_2 z5_3 (2 : Int32) gB)), .val (.int (F2 z4_2 z5_3 (3 : Int32) gB)), .val (.int (F2 z4_2 z5_3 (4 : Int32) gB)), .unset, .unset] [(.int (F2 z4_2 z5_3 (0 : Int32) gB))])) tgt → Steps p.tables e below (T43.setTop (mkF m 161 #[.val (.long q1), .second, .val (.int p2), .val (.int p3), .val (.int z4_2), .val (.int z5_3), .val (.ref b5), .val (.int (F2 z4_2 z5_3 (0 : Int32) gB)), .val (.int (F2 z4_2 z5_3 (1 : Int32) gB)), .val (.int (F2 z4_2 z5_3 (2 : Int32) gB)), .val (.int (F2 z4_2 z5_3 (3 : Int32) gB)), .unset, .unset, .unset] [(.int (F2 z4_2 z5_3 (4 : Int32) gB))])) tgt := by
    intro tgt kt
    refine XS.istore X43.here hx rfl (hb hby at_161) rfl (l' := #[.val (.long q1), .second, .val (.int p2), .val (.int p3), .val (.int z4_2), .val (.int z5_3), .val (.ref b5), .val (.int (F2 z4_2 z5_3 (0 : Int32) gB)), .val (.int (F2 z4_2 z5_3 (1 : Int32) gB)), .val (.int (F2 z4_2 z5_3 (2 : Int32) gB)), .val (.int (F2 z4_2 z5_3 (3 : Int32) gB)), .val (.int (F2 z4_2 z5_3 (4 : Int32) gB)), .unset, .unset]) rfl ?_
    show Steps p.tables e below (T43.setTop (mkF m 163 #[.val (.long q1), .second, .val (.int p2), .val (.int p3), .val (.int z4_2), .val (.int z5_3), .val (.ref b5), .val (.int (F2 z4_2 z5_3 (0 : Int32) gB)), .val (.int (F2 z4_2 z5_3 (1 : Int32) gB)), .val (.int (F2 z4_2 z5_3 (2 : Int32) gB)), .val (.int (F2 z4_2 z5_3 (3 : Int32) gB)), .val (.int (F2 z4_2 z5_3 (4 : Int32) gB)), .unset, .unset] [])) _
    refine XS.iload X43.here hx rfl (hb hby at_163) rfl ?_
    show Steps p.tables e below (T43.setTop (mkF m 165 #[.val (.long q1), .second, .val (.int p2), .val (.int p3), .val (.int z4_2), .val (.int z5_3), .val (.ref b5), .val (.int (F2 z4_2 z5_3 (0 : Int32) gB)), .val (.int (F2 z4_2 z5_3 (1 : Int32) gB)), .val (.int (F2 z4_2 z5_3 (2 : Int32) gB)), .val (.int (F2 z4_2 z5_3 (3 : Int32) gB)), .val (.int (F2 z4_2 z5_3 (4 : Int32) gB)), .unset, .unset] [(.int (F2 z4_2 z5_3 (0 : Int32) gB))])) _
    exact kt
  refine OwnG.st sg45 ?_
  obtain ⟨z210_51, hz210_51⟩ : ∃ w : Int32, w = (if (F2 z4_2 z5_3 (0 : Int32) gB) < (0 : Int32) then (-1 : Int32) else (if (F2 z4_2 z5_3 (1 : Int32) gB) < (0 : Int32) then (-1 : Int32) else (if (F2 z4_2 z5_3 (2 : Int32) gB) < (0 : Int32) then (-1 : Int32) else (if (F2 z4_2 z5_3 (3 : Int32) gB) < (0 : Int32) then (-1 : Int32) else (if (F2 z4_2 z5_3 (4 : Int32) gB) < (0 : Int32) then (-1 : Int32) else (((((F2 z4_2 z5_3 (0 : Int32) gB) + (F2 z4_2 z5_3 (1 : Int32) gB)) + (F2 z4_2 z5_3 (2 : Int32) gB)) + (F2 z4_2 z5_3 (3 : Int32) gB)) + (F2 z4_2 z5_3 (4 : Int32) gB))))))) := ⟨_, rfl⟩
  have dj52 : ∀ tgt, Steps p.tables e below (T43.setTop (mkF m 210 #[.val (.long q1), .second, .val (.int p2), .val (.int p3), .val (.int z4_2), .val (.int z5_3), .val (.ref b5), .val (.int (F2 z4_2 z5_3 (0 : Int32) gB)), .val (.int (F2 z4_2 z5_3 (1 : Int32) gB)), .val (.int (F2 z4_2 z5_3 (2 : Int32) gB)), .val (.int (F2 z4_2 z5_3 (3 : Int32) gB)), .val (.int (F2 z4_2 z5_3 (4 : Int32) gB)), .val (.int z210_51), .unset] [])) tgt → Steps p.tables e below (T43.setTop (mkF m 165 #[.val (.long q1), .second, .val (.int p2), .val (.int p3), .val (.int z4_2), .val (.int z5_3), .val (.ref b5), .val (.int (F2 z4_2 z5_3 (0 : Int32) gB)), .val (.int (F2 z4_2 z5_3 (1 : Int32) gB)), .val (.int (F2 z4_2 z5_3 (2 : Int32) gB)), .val (.int (F2 z4_2 z5_3 (3 : Int32) gB)), .val (.int (F2 z4_2 z5_3 (4 : Int32) gB)), .unset, .unset] [(.int (F2 z4_2 z5_3 (0 : Int32) gB))])) tgt := by
    intro tgt kt
    by_cases hc165_46 : (F2 z4_2 z5_3 (0 : Int32) gB) < (0 : Int32)
    · have qz210_51 : z210_51 = (-1 : Int32) := by rw [hz210_51, if_pos hc165_46]
      rw [qz210_51] at kt
      refine XS.ifYes X43.here hx rfl (pc0 := 165) (pc' := 188) rfl (hb hby at_165) rfl ((if0 _ _).trans (tlt hc165_46).1) (by decide) (by decide) ?_
      show Steps p.tables e below (T43.setTop (mkF m 188 #[.val (.long q1), .second, .val (.int p2), .val (.int p3), .val (.int z4_2), .val (.int z5_3), .val (.ref b5), .val (.int (F2 z4_2 z5_3 (0 : Int32) gB)), .val (.int (F2 z4_2 z5_3 (1 : Int32) gB)), .val (.int (F2 z4_2 z5_3 (2 : Int32) gB)), .val (.int (F2 z4_2 z5_3 (3 : Int32) gB)), .val (.int (F2 z4_2 z5_3 (4 : Int32) gB)), .unset, .unset] [])) _
      refine XS.iconst X43.here hx rfl (hb hby at_188) ?_
      show Steps p.tables e below (T43.setTop (mkF m 189 #[.val (.long q1), .second, .val (.int p2), .val (.int p3), .val (.int z4_2), .val (.int z5_3), .val (.ref b5), .val (.int (F2 z4_2 z5_3 (0 : Int32) gB)), .val (.int (F2 z4_2 z5_3 (1 : Int32) gB)), .val (.int (F2 z4_2 z5_3 (2 : Int32) gB)), .val (.int (F2 z4_2 z5_3 (3 : Int32) gB)), .val (.int (F2 z4_2 z5_3 (4 : Int32) gB)), .unset, .unset] [(.int (-1 : Int32))])) _
      refine XS.istore X43.here hx rfl (hb hby at_189) rfl (l' := #[.val (.long q1), .second, .val (.int p2), .val (.int p3), .val (.int z4_2), .val (.int z5_3), .val (.ref b5), .val (.int (F2 z4_2 z5_3 (0 : Int32) gB)), .val (.int (F2 z4_2 z5_3 (1 : Int32) gB)), .val (.int (F2 z4_2 z5_3 (2 : Int32) gB)), .val (.int (F2 z4_2 z5_3 (3 : Int32) gB)), .val (.int (F2 z4_2 z5_3 (4 : Int32) gB)), .val (.int (-1 : Int32)), .unset]) rfl ?_
      show Steps p.tables e below (T43.setTop (mkF m 191 #[.val (.long q1), .second, .val (.int p2), .val (.int p3), .val (.int z4_2), .val (.int z5_3), .val (.ref b5), .val (.int (F2 z4_2 z5_3 (0 : Int32) gB)), .val (.int (F2 z4_2 z5_3 (1 : Int32) gB)), .val (.int (F2 z4_2 z5_3 (2 : Int32) gB)), .val (.int (F2 z4_2 z5_3 (3 : Int32) gB)), .val (.int (F2 z4_2 z5_3 (4 : Int32) gB)), .val (.int (-1 : Int32)), .unset] [])) _
      refine XS.goto X43.here hx rfl (pc0 := 191) (pc' := 210) rfl (hb hby at_191) (by decide) (by decide) ?_
      show Steps p.tables e below (T43.setTop (mkF m 210 #[.val (.long q1), .second, .val (.int p2), .val (.int p3), .val (.int z4_2), .val (.int z5_3), .val (.ref b5), .val (.int (F2 z4_2 z5_3 (0 : Int32) gB)), .val (.int (F2 z4_2 z5_3 (1 : Int32) gB)), .val (.int (F2 z4_2 z5_3 (2 : Int32) gB)), .val (.int (F2 z4_2 z5_3 (3 : Int32) gB)), .val (.int (F2 z4_2 z5_3 (4 : Int32) gB)), .val (.int (-1 : Int32)), .unset] [])) _
      exact kt
    · refine XS.ifNo X43.here hx rfl (hb hby at_165) rfl ((if0 _ _).trans (flt hc165_46).1) ?_
      show Steps p.tables e below (T43.setTop (mkF m 168 #[.val (.long q1), .second, .val (.int p2), .val (.int p3), .val (.int z4_2), .val (.int z5_3), .val (.ref b5), .val (.int (F2 z4_2 z5_3 (0 : Int32) gB)), .val (.int (F2 z4_2 z5_3 (1 : Int32) gB)), .val (.int (F2 z4_2 z5_3 (2 : Int32) gB)), .val (.int (F2 z4_2 z5_3 (3 : Int32) gB)), .val (.int (F2 z4_2 z5_3 (4 : Int32) gB)), .unset, .unset] [])) _
      refine XS.iload X43.here hx rfl (hb hby at_168) rfl ?_
      show Steps p.tables e below (T43.setTop (mkF m 170 #[.val (.long q1), .second, .val (.int p2), .val (.int p3), .val (.int z4_2), .val (.int z5_3), .val (.ref b5), .val (.int (F2 z4_2 z5_3 (0 : Int32) gB)), .val (.int (F2 z4_2 z5_3 (1 : Int32) gB)), .val (.int (F2 z4_2 z5_3 (2 : Int32) gB)), .val (.int (F2 z4_2 z5_3 (3 : Int32) gB)), .val (.int (F2 z4_2 z5_3 (4 : Int32) gB)), .unset, .unset] [(.int (F2 z4_2 z5_3 (1 : Int32) gB))])) _
      by_cases hc170_47 : (F2 z4_2 z5_3 (1 : Int32) gB) < (0 : Int32)
      · have qz210_51 : z210_51 = (-1 : Int32) := by rw [hz210_51, if_neg hc165_46, if_pos hc170_47]
        rw [qz210_51] at kt
        refine XS.ifYes X43.here hx rfl (pc0 := 170) (pc' := 188) rfl (hb hby at_170) rfl ((if0 _ _).trans (tlt hc170_47).1) (by decide) (by decide) ?_
        show Steps p.tables e below (T43.setTop (mkF m 188 #[.val (.long q1), .second, .val (.int p2), .val (.int p3), .val (.int z4_2), .val (.int z5_3), .val (.ref b5), .val (.int (F2 z4_2 z5_3 (0 : Int32) gB)), .val (.int (F2 z4_2 z5_3 (1 : Int32) gB)), .val (.int (F2 z4_2 z5_3 (2 : Int32) gB)), .val (.int (F2 z4_2 z5_3 (3 : Int32) gB)), .val (.int (F2 z4_2 z5_3 (4 : Int32) gB)), .unset, .unset] [])) _
        refine XS.iconst X43.here hx rfl (hb hby at_188) ?_
        show Steps p.tables e below (T43.setTop (mkF m 189 #[.val (.long q1), .second, .val (.int p2), .val (.int p3), .val (.int z4_2), .val (.int z5_3), .val (.ref b5), .val (.int (F2 z4_2 z5_3 (0 : Int32) gB)), .val (.int (F2 z4_2 z5_3 (1 : Int32) gB)), .val (.int (F2 z4_2 z5_3 (2 : Int32) gB)), .val (.int (F2 z4_2 z5_3 (3 : Int32) gB)), .val (.int (F2 z4_2 z5_3 (4 : Int32) gB)), .unset, .unset] [(.int (-1 : Int32))])) _
        refine XS.istore X43.here hx rfl (hb hby at_189) rfl (l' := #[.val (.long q1), .second, .val (.int p2), .val (.int p3), .val (.int z4_2), .val (.int z5_3), .val (.ref b5), .val (.int (F2 z4_2 z5_3 (0 : Int32) gB)), .val (.int (F2 z4_2 z5_3 (1 : Int32) gB)), .val (.int (F2 z4_2 z5_3 (2 : Int32) gB)), .val (.int (F2 z4_2 z5_3 (3 : Int32) gB)), .val (.int (F2 z4_2 z5_3 (4 : Int32) gB)), .val (.int (-1 : Int32)), .unset]) rfl ?_
        show Steps p.tables e below (T43.setTop (mkF m 191 #[.val (.long q1), .second, .val (.int p2), .val (.int p3), .val (.int z4_2), .val (.int z5_3), .val (.ref b5), .val (.int (F2 z4_2 z5_3 (0 : Int32) gB)), .val (.int (F2 z4_2 z5_3 (1 : Int32) gB)), .val (.int (F2 z4_2 z5_3 (2 : Int32) gB)), .val (.int (F2 z4_2 z5_3 (3 : Int32) gB)), .val (.int (F2 z4_2 z5_3 (4 : Int32) gB)), .val (.int (-1 : Int32)), .unset] [])) _
        refine XS.goto X43.here hx rfl (pc0 := 191) (pc' := 210) rfl (hb hby at_191) (by decide) (by decide) ?_
        show Steps p.tables e below (T43.setTop (mkF m 210 #[.val (.long q1), .second, .val (.int p2), .val (.int p3), .val (.int z4_2), .val (.int z5_3), .val (.ref b5), .val (.int (F2 z4_2 z5_3 (0 : Int32) gB)), .val (.int (F2 z4_2 z5_3 (1 : Int32) gB)), .val (.int (F2 z4_2 z5_3 (2 : Int32) gB)), .val (.int (F2 z4_2 z5_3 (3 : Int32) gB)), .val (.int (F2 z4_2 z5_3 (4 : Int32) gB)), .val (.int (-1 : Int32)), .unset] [])) _
        exact kt
      · refine XS.ifNo X43.here hx rfl (hb hby at_170) rfl ((if0 _ _).trans (flt hc170_47).1) ?_
        show Steps p.tables e below (T43.setTop (mkF m 173 #[.val (.long q1), .second, .val (.int p2), .val (.int p3), .val (.int z4_2), .val (.int z5_3), .val (.ref b5), .val (.int (F2 z4_2 z5_3 (0 : Int32) gB)), .val (.int (F2 z4_2 z5_3 (1 : Int32) gB)), .val (.int (F2 z4_2 z5_3 (2 : Int32) gB)), .val (.int (F2 z4_2 z5_3 (3 : Int32) gB)), .val (.int (F2 z4_2 z5_3 (4 : Int32) gB)), .unset, .unset] [])) _
        refine XS.iload X43.here hx rfl (hb hby at_173) rfl ?_
        show Steps p.tables e below (T43.setTop (mkF m 175 #[.val (.long q1), .second, .val (.int p2), .val (.int p3), .val (.int z4_2), .val (.int z5_3), .val (.ref b5), .val (.int (F2 z4_2 z5_3 (0 : Int32) gB)), .val (.int (F2 z4_2 z5_3 (1 : Int32) gB)), .val (.int (F2 z4_2 z5_3 (2 : Int32) gB)), .val (.int (F2 z4_2 z5_3 (3 : Int32) gB)), .val (.int (F2 z4_2 z5_3 (4 : Int32) gB)), .unset, .unset] [(.int (F2 z4_2 z5_3 (2 : Int32) gB))])) _
        by_cases hc175_48 : (F2 z4_2 z5_3 (2 : Int32) gB) < (0 : Int32)
        · have qz210_51 : z210_51 = (-1 : Int32) := by rw [hz210_51, if_neg hc165_46, if_neg hc170_47, if_pos hc175_48]
          rw [qz210_51] at kt
          refine XS.ifYes X43.here hx rfl (pc0 := 175) (pc' := 188) rfl (hb hby at_175) rfl ((if0 _ _).trans (tlt hc175_48).1) (by decide) (by decide) ?_
          show Steps p.tables e below (T43.setTop (mkF m 188 #[.val (.long q1), .second, .val (.int p2), .val (.int p3), .val (.int z4_2), .val (.int z5_3), .val (.ref b5), .val (.int (F2 z4_2 z5_3 (0 : Int32) gB)), .val (.int (F2 z4_2 z5_3 (1 : Int32) gB)), .val (.int (F2 z4_2 z5_3 (2 : Int32) gB)), .val (.int (F2 z4_2 z5_3 (3 : Int32) gB)), .val (.int (F2 z4_2 z5_3 (4 : Int32) gB)), .unset, .unset] [])) _
          refine XS.iconst X43.here hx rfl (hb hby at_188) ?_
          show Steps p.tables e below (T43.setTop (mkF m 189 #[.val (.long q1), .second, .val (.int p2), .val (.int p3), .val (.int z4_2), .val (.int z5_3), .val (.ref b5), .val (.int (F2 z4_2 z5_3 (0 : Int32) gB)), .val (.int (F2 z4_2 z5_3 (1 : Int32) gB)), .val (.int (F2 z4_2 z5_3 (2 : Int32) gB)), .val (.int (F2 z4_2 z5_3 (3 : Int32) gB)), .val (.int (F2 z4_2 z5_3 (4 : Int32) gB)), .unset, .unset] [(.int (-1 : Int32))])) _
          refine XS.istore X43.here hx rfl (hb hby at_189) rfl (l' := #[.val (.long q1), .second, .val (.int p2), .val (.int p3), .val (.int z4_2), .val (.int z5_3), .val (.ref b5), .val (.int (F2 z4_2 z5_3 (0 : Int32) gB)), .val (.int (F2 z4_2 z5_3 (1 : Int32) gB)), .val (.int (F2 z4_2 z5_3 (2 : Int32) gB)), .val (.int (F2 z4_2 z5_3 (3 : Int32) gB)), .val (.int (F2 z4_2 z5_3 (4 : Int32) gB)), .val (.int (-1 : Int32)), .unset]) rfl ?_
          show Steps p.tables e below (T43.setTop (mkF m 191 #[.val (.long q1), .second, .val (.int p2), .val (.int p3), .val (.int z4_2), .val (.int z5_3), .val (.ref b5), .val (.int (F2 z4_2 z5_3 (0 : Int32) gB)), .val (.int (F2 z4_2 z5_3 (1 : Int32) gB)), .val (.int (F2 z4_2 z5_3 (2 : Int32) gB)), .val (.int (F2 z4_2 z5_3 (3 : Int32) gB)), .val (.int (F2 z4_2 z5_3 (4 : Int32) gB)), .val (.int (-1 : Int32)), .unset] [])) _
          refine XS.goto X43.here hx rfl (pc0 := 191) (pc' := 210) rfl (hb hby at_191) (by decide) (by decide) ?_
          show Steps p.tables e below (T43.setTop (mkF m 210 #[.val (.long q1), .second, .val (.int p2), .val (.int p3), .val (.int z4_2), .val (.int z5_3), .val (.ref b5), .val (.int (F2 z4_2 z5_3 (0 : Int32) gB)), .val (.int (F2 z4_2 z5_3 (1 : Int32) gB)), .val (.int (F2 z4_2 z5_3 (2 : Int32) gB)), .val (.int (F2 z4_2 z5_3 (3 : Int32) gB)), .val (.int (F2 z4_2 z5_3 (4 : Int32) gB)), .val (.int (-1 : Int32)), .unset] [])) _
          exact kt
        · refine XS.ifNo X43.here hx rfl (hb hby at_175) rfl ((if0 _ _).trans (flt hc175_48).1) ?_
          show Steps p.tables e below (T43.setTop (mkF m 178 #[.val (.long q1), .second, .val (.int p2), .val (.int p3), .val (.int z4_2), .val (.int z5_3), .val (.ref b5), .val (.int (F2 z4_2 z5_3 (0 : Int32) gB)), .val (.int (F2 z4_2 z5_3 (1 : Int32) gB)), .val (.int (F2 z4_2 z5_3 (2 : Int32) gB)), .val (.int (F2 z4_2 z5_3 (3 : Int32) gB)), .val (.int (F2 z4_2 z5_3 (4 : Int32) gB)), .unset, .unset] [])) _
          refine XS.iload X43.here hx rfl (hb hby at_178) rfl ?_
          show Steps p.tables e below (T43.setTop (mkF m 180 #[.val (.long q1), .second, .val (.int p2), .val (.int p3), .val (.int z4_2), .val (.int z5_3), .val (.ref b5), .val (.int (F2 z4_2 z5_3 (0 : Int32) gB)), .val (.int (F2 z4_2 z5_3 (1 : Int32) gB)), .val (.int (F2 z4_2 z5_3 (2 : Int32) gB)), .val (.int (F2 z4_2 z5_3 (3 : Int32) gB)), .val (.int (F2 z4_2 z5_3 (4 : Int32) gB)), .unset, .unset] [(.int (F2 z4_2 z5_3 (3 : Int32) gB))])) _
          by_cases hc180_49 : (F2 z4_2 z5_3 (3 : Int32) gB) < (0 : Int32)
          · have qz210_51 : z210_51 = (-1 : Int32) := by rw [hz210_51, if_neg hc165_46, if_neg hc170_47, if_neg hc175_48, if_pos hc180_49]
            rw [qz210_51] at kt
            refine XS.ifYes X43.here hx rfl (pc0 := 180) (pc' := 188) rfl (hb hby at_180) rfl ((if0 _ _).trans (tlt hc180_49).1) (by decide) (by decide) ?_
            show Steps p.tables e below (T43.setTop (mkF m 188 #[.val (.long q1), .second, .val (.int p2), .val (.int p3), .val (.int z4_2), .val (.int z5_3), .val (.ref b5), .val (.int (F2 z4_2 z5_3 (0 : Int32) gB)), .val (.int (F2 z4_2 z5_3 (1 : Int32) gB)), .val (.int (F2 z4_2 z5_3 (2 : Int32) gB)), .val (.int (F2 z4_2 z5_3 (3 : Int32) gB)), .val (.int (F2 z4_2 z5_3 (4 : Int32) gB)), .unset, .unset] [])) _
            refine XS.iconst X43.here hx rfl (hb hby at_188) ?_
            show Steps p.tables e below (T43.setTop (mkF m 189 #[.val (.long q1), .second, .val (.int p2), .val (.int p3), .val (.int z4_2), .val (.int z5_3), .val (.ref b5), .val (.int (F2 z4_2 z5_3 (0 : Int32) gB)), .val (.int (F2 z4_2 z5_3 (1 : Int32) gB)), .val (.int (F2 z4_2 z5_3 (2 : Int32) gB)), .val (.int (F2 z4_2 z5_3 (3 : Int32) gB)), .val (.int (F2 z4_2 z5_3 (4 : Int32) gB)), .unset, .unset] [(.int (-1 : Int32))])) _
            refine XS.istore X43.here hx rfl (hb hby at_189) rfl (l' := #[.val (.long q1), .second, .val (.int p2), .val (.int p3), .val (.int z4_2), .val (.int z5_3), .val (.ref b5), .val (.int (F2 z4_2 z5_3 (0 : Int32) gB)), .val (.int (F2 z4_2 z5_3 (1 : Int32) gB)), .val (.int (F2 z4_2 z5_3 (2 : Int32) gB)), .val (.int (F2 z4_2 z5_3 (3 : Int32) gB)), .val (.int (F2 z4_2 z5_3 (4 : Int32) gB)), .val (.int (-1 : Int32)), .unset]) rfl ?_
            show Steps p.tables e below (T43.setTop (mkF m 191 #[.val (.long q1), .second, .val (.int p2), .val (.int p3), .val (.int z4_2), .val (.int z5_3), .val (.ref b5), .val (.int (F2 z4_2 z5_3 (0 : Int32) gB)), .val (.int (F2 z4_2 z5_3 (1 : Int32) gB)), .val (.int (F2 z4_2 z5_3 (2 : Int32) gB)), .val (.int (F2 z4_2 z5_3 (3 : Int32) gB)), .val (.int (F2 z4_2 z5_3 (4 : Int32) gB)), .val (.int (-1 : Int32)), .unset] [])) _
            refine XS.goto X43.here hx rfl (pc0 := 191) (pc' := 210) rfl (hb hby at_191) (by decide) (by decide) ?_
            show Steps p.tables e below (T43.setTop (mkF m 210 #[.val (.long q1), .second, .val (.int p2), .val (.int p3), .val (.int z4_2), .val (.int z5_3), .val (.ref b5), .val (.int (F2 z4_2 z5_3 (0 : Int32) gB)), .val (.int (F2 z4_2 z5_3 (1 : Int32) gB)), .val (.int (F2 z4_2 z5_3 (2 : Int32) gB)), .val (.int (F2 z4_2 z5_3 (3 : Int32) gB)), .val (.int (F2 z4_2 z5_3 (4 : Int32) gB)), .val (.int (-1 : Int32)), .unset] [])) _
            exact kt
          · refine XS.ifNo X43.here hx rfl (hb hby at_180) rfl ((if0 _ _).trans (flt hc180_49).1) ?_
            show Steps p.tables e below (T43.setTop (mkF m 183 #[.val (.long q1), .second, .val (.int p2), .val (.int p3), .val (.int z4_2), .val (.int z5_3), .val (.ref b5), .val (.int (F2 z4_2 z5_3 (0 : Int32) gB)), .val (.int (F2 z4_2 z5_3 (1 : Int32) gB)), .val (.int (F2 z4_2 z5_3 (2 : Int32) gB)), .val (.int (F2 z4_2 z5_3 (3 : Int32) gB)), .val (.int (F2 z4_2 z5_3 (4 : Int32) gB)), .unset, .unset] [])) _
            refine XS.iload X43.here hx rfl (hb hby at_183) rfl ?_
            show Steps p.tables e below (T43.setTop (mkF m 185 #[.val (.long q1), .second, .val (.int p2), .val (.int p3), .val (.int z4_2), .val (.int z5_3), .val (.ref b5), .val (.int (F2 z4_2 z5_3 (0 : Int32) gB)), .val (.int (F2 z4_2 z5_3 (1 : Int32) gB)), .val (.int (F2 z4_2 z5_3 (2 : Int32) gB)), .val (.int (F2 z4_2 z5_3 (3 : Int32) gB)), .val (.int (F2 z4_2 z5_3 (4 : Int32) gB)), .unset, .unset] [(.int (F2 z4_2 z5_3 (4 : Int32) gB))])) _
            by_cases hc185_50 : (F2 z4_2 z5_3 (4 : Int32) gB) < (0 : Int32)
            · have qz210_51 : z210_51 = (-1 : Int32) := by rw [hz210_51, if_neg hc165_46, if_neg hc170_47, if_neg hc175_48, if_neg hc180_49, if_pos hc185_50]
              rw [qz210_51] at kt
              refine XS.ifNo X43.here hx rfl (hb hby at_185) rfl ((if0 _ _).trans (tlt hc185_50).2.1) ?_
              show Steps p.tables e below (T43.setTop (mkF m 188 #[.val (.long q1), .second, .val (.int p2), .val (.int p3), .val (.int z4_2), .val (.int z5_3), .val (.ref b5), .val (.int (F2 z4_2 z5_3 (0 : Int32) gB)), .val (.int (F2 z4_2 z5_3 (1 : Int32) gB)), .val (.int (F2 z4_2 z5_3 (2 : Int32) gB)), .val (.int (F2 z4_2 z5_3 (3 : Int32) gB)), .val (.int (F2 z4_2 z5_3 (4 : Int32) gB)), .unset, .unset] [])) _
              refine XS.iconst X43.here hx rfl (hb hby at_188) ?_
              show Steps p.tables e below (T43.setTop (mkF m 189 #[.val (.long q1), .second, .val (.int p2), .val (.int p3), .val (.int z4_2), .val (.int z5_3), .val (.ref b5), .val (.int (F2 z4_2 z5_3 (0 : Int32) gB)), .val (.int (F2 z4_2 z5_3 (1 : Int32) gB)), .val (.int (F2 z4_2 z5_3 (2 : Int32) gB)), .val (.int (F2 z4_2 z5_3 (3 : Int32) gB)), .val (.int (F2 z4_2 z5_3 (4 : Int32) gB)), .unset, .unset] [(.int (-1 : Int32))])) _
              refine XS.istore X43.here hx rfl (hb hby at_189) rfl (l' := #[.val (.long q1), .second, .val (.int p2), .val (.int p3), .val (.int z4_2), .val (.int z5_3), .val (.ref b5), .val (.int (F2 z4_2 z5_3 (0 : Int32) gB)), .val (.int (F2 z4_2 z5_3 (1 : Int32) gB)), .val (.int (F2 z4_2 z5_3 (2 : Int32) gB)), .val (.int (F2 z4_2 z5_3 (3 : Int32) gB)), .val (.int (F2 z4_2 z5_3 (4 : Int32) gB)), .val (.int (-1 : Int32)), .unset]) rfl ?_
              show Steps p.tables e below (T43.setTop (mkF m 191 #[.val (.long q1), .second, .val (.int p2), .val (.int p3), .val (.int z4_2), .val (.int z5_3), .val (.ref b5), .val (.int (F2 z4_2 z5_3 (0 : Int32) gB)), .val (.int (F2 z4_2 z5_3 (1 : Int32) gB)), .val (.int (F2 z4_2 z5_3 (2 : Int32) gB)), .val (.int (F2 z4_2 z5_3 (3 : Int32) gB)), .val (.int (F2 z4_2 z5_3 (4 : Int32) gB)), .val (.int (-1 : Int32)), .unset] [])) _
              refine XS.goto X43.here hx rfl (pc0 := 191) (pc' := 210) rfl (hb hby at_191) (by decide) (by decide) ?_
              show Steps p.tables e below (T43.setTop (mkF m 210 #[.val (.long q1), .second, .val (.int p2), .val (.int p3), .val (.int z4_2), .val (.int z5_3), .val (.ref b5), .val (.int (F2 z4_2 z5_3 (0 : Int32) gB)), .val (.int (F2 z4_2 z5_3 (1 : Int32) gB)), .val (.int (F2 z4_2 z5_3 (2 : Int32) gB)), .val (.int (F2 z4_2 z5_3 (3 : Int32) gB)), .val (.int (F2 z4_2 z5_3 (4 : Int32) gB)), .val (.int (-1 : Int32)), .unset] [])) _
              exact kt
            · have qz210_51 : z210_51 = (((((F2 z4_2 z5_3 (0 : Int32) gB) + (F2 z4_2 z5_3 (1 : Int32) gB)) + (F2 z4_2 z5_3 (2 : Int32) gB)) + (F2 z4_2 z5_3 (3 : Int32) gB)) + (F2 z4_2 z5_3 (4 : Int32) gB)) := by rw [hz210_51, if_neg hc165_46, if_neg hc170_47, if_neg hc175_48, if_neg hc180_49, if_neg hc185_50]
              rw [qz210_51] at kt
              refine XS.ifYes X43.here hx rfl (pc0 := 185) (pc' := 194) rfl (hb hby at_185) rfl ((if0 _ _).trans (flt hc185_50).2.1) (by decide) (by decide) ?_
              show Steps p.tables e below (T43.setTop (mkF m 194 #[.val (.long q1), .second, .val (.int p2), .val (.int p3), .val (.int z4_2), .val (.int z5_3), .val (.ref b5), .val (.int (F2 z4_2 z5_3 (0 : Int32) gB)), .val (.int (F2 z4_2 z5_3 (1 : Int32) gB)), .val (.int (F2 z4_2 z5_3 (2 : Int32) gB)), .val (.int (F2 z4_2 z5_3 (3 : Int32) gB)), .val (.int (F2 z4_2 z5_3 (4 : Int32) gB)), .unset, .unset] [])) _
              refine XS.iload X43.here hx rfl (hb hby at_194) rfl ?_
              show Steps p.tables e below (T43.setTop (mkF m 196 #[.val (.long q1), .second, .val (.int p2), .val (.int p3), .val (.int z4_2), .val (.int z5_3), .val (.ref b5), .val (.int (F2 z4_2 z5_3 (0 : Int32) gB)), .val (.int (F2 z4_2 z5_3 (1 : Int32) gB)), .val (.int (F2 z4_2 z5_3 (2 : Int32) gB)), .val (.int (F2 z4_2 z5_3 (3 : Int32) gB)), .val (.int (F2 z4_2 z5_3 (4 : Int32) gB)), .unset, .unset] [(.int (F2 z4_2 z5_3 (0 : Int32) gB))])) _
              refine XS.iload X43.here hx rfl (hb hby at_196) rfl ?_
              show Steps p.tables e below (T43.setTop (mkF m 198 #[.val (.long q1), .second, .val (.int p2), .val (.int p3), .val (.int z4_2), .val (.int z5_3), .val (.ref b5), .val (.int (F2 z4_2 z5_3 (0 : Int32) gB)), .val (.int (F2 z4_2 z5_3 (1 : Int32) gB)), .val (.int (F2 z4_2 z5_3 (2 : Int32) gB)), .val (.int (F2 z4_2 z5_3 (3 : Int32) gB)), .val (.int (F2 z4_2 z5_3 (4 : Int32) gB)), .unset, .unset] [(.int (F2 z4_2 z5_3 (1 : Int32) gB)), (.int (F2 z4_2 z5_3 (0 : Int32) gB))])) _
              refine XS.iadd X43.here hx rfl (hb hby at_198) rfl ?_
              show Steps p.tables e below (T43.setTop (mkF m 199 #[.val (.long q1), .second, .val (.int p2), .val (.int p3), .val (.int z4_2), .val (.int z5_3), .val (.ref b5), .val (.int (F2 z4_2 z5_3 (0 : Int32) gB)), .val (.int (F2 z4_2 z5_3 (1 : Int32) gB)), .val (.int (F2 z4_2 z5_3 (2 : Int32) gB)), .val (.int (F2 z4_2 z5_3 (3 : Int32) gB)), .val (.int (F2 z4_2 z5_3 (4 : Int32) gB)), .unset, .unset] [(.int ((F2 z4_2 z5_3 (0 : Int32) gB) + (F2 z4_2 z5_3 (1 : Int32) gB)))])) _
              refine XS.iload X43.here hx rfl (hb hby at_199) rfl ?_
              show Steps p.tables e below (T43.setTop (mkF m 201 #[.val (.long q1), .second, .val (.int p2), .val (.int p3), .val (.int z4_2), .val (.int z5_3), .val (.ref b5), .val (.int (F2 z4_2 z5_3 (0 : Int32) gB)), .val (.int (F2 z4_2 z5_3 (1 : Int32) gB)), .val (.int (F2 z4_2 z5_3 (2 : Int32) gB)), .val (.int (F2 z4_2 z5_3 (3 : Int32) gB)), .val (.int (F2 z4_2 z5_3 (4 : Int32) gB)), .unset, .unset] [(.int (F2 z4_2 z5_3 (2 : Int32) gB)), (.int ((F2 z4_2 z5_3 (0 : Int32) gB) + (F2 z4_2 z5_3 (1 : Int32) gB)))])) _
              refine XS.iadd X43.here hx rfl (hb hby at_201) rfl ?_
              show Steps p.tables e below (T43.setTop (mkF m 202 #[.val (.long q1), .second, .val (.int p2), .val (.int p3), .val (.int z4_2), .val (.int z5_3), .val (.ref b5), .val (.int (F2 z4_2 z5_3 (0 : Int32) gB)), .val (.int (F2 z4_2 z5_3 (1 : Int32) gB)), .val (.int (F2 z4_2 z5_3 (2 : Int32) gB)), .val (.int (F2 z4_2 z5_3 (3 : Int32) gB)), .val (.int (F2 z4_2 z5_3 (4 : Int32) gB)), .unset, .unset] [(.int (((F2 z4_2 z5_3 (0 : Int32) gB) + (F2 z4_2 z5_3 (1 : Int32) gB)) + (F2 z4_2 z5_3 (2 : Int32) gB)))])) _
              refine XS.iload X43.here hx rfl (hb hby at_202) rfl ?_
              show Steps p.tables e below (T43.setTop (mkF m 204 #[.val (.long q1), .second, .val (.int p2), .val (.int p3), .val (.int z4_2), .val (.int z5_3), .val (.ref b5), .val (.int (F2 z4_2 z5_3 (0 : Int32) gB)), .val (.int (F2 z4_2 z5_3 (1 : Int32) gB)), .val (.int (F2 z4_2 z5_3 (2 : Int32) gB)), .val (.int (F2 z4_2 z5_3 (3 : Int32) gB)), .val (.int (F2 z4_2 z5_3 (4 : Int32) gB)), .unset, .unset] [(.int (F2 z4_2 z5_3 (3 : Int32) gB)), (.int (((F2 z4_2 z5_3 (0 : Int32) gB) + (F2 z4_2 z5_3 (1 : Int32) gB)) + (F2 z4_2 z5_3 (2 : Int32) gB)))])) _
              refine XS.iadd X43.here hx rfl (hb hby at_204) rfl ?_
              show Steps p.tables e below (T43.setTop (mkF m 205 #[.val (.long q1), .second, .val (.int p2), .val (.int p3), .val (.int z4_2), .val (.int z5_3), .val (.ref b5), .val (.int (F2 z4_2 z5_3 (0 : Int32) gB)), .val (.int (F2 z4_2 z5_3 (1 : Int32) gB)), .val (.int (F2 z4_2 z5_3 (2 : Int32) gB)), .val (.int (F2 z4_2 z5_3 (3 : Int32) gB)), .val (.int (F2 z4_2 z5_3 (4 : Int32) gB)), .unset, .unset] [(.int ((((F2 z4_2 z5_3 (0 : Int32) gB) + (F2 z4_2 z5_3 (1 : Int32) gB)) + (F2 z4_2 z5_3 (2 : Int32) gB)) + (F2 z4_2 z5_3 (3 : Int32) gB)))])) _
              refine XS.iload X43.here hx rfl (hb hby at_205) rfl ?_
              show Steps p.tables e below (T43.setTop (mkF m 207 #[.val (.long q1), .second, .val (.int p2), .val (.int p3), .val (.int z4_2), .val (.int z5_3), .val (.ref b5), .val (.int (F2 z4_2 z5_3 (0 : Int32) gB)), .val (.int (F2 z4_2 z5_3 (1 : Int32) gB)), .val (.int (F2 z4_2 z5_3 (2 : Int32) gB)), .val (.int (F2 z4_2 z5_3 (3 : Int32) gB)), .val (.int (F2 z4_2 z5_3 (4 : Int32) gB)), .unset, .unset] [(.int (F2 z4_2 z5_3 (4 : Int32) gB)), (.int ((((F2 z4_2 z5_3 (0 : Int32) gB) + (F2 z4_2 z5_3 (1 : Int32) gB)) + (F2 z4_2 z5_3 (2 : Int32) gB)) + (F2 z4_2 z5_3 (3 : Int32) gB)))])) _
              refine XS.iadd X43.here hx rfl (hb hby at_207) rfl ?_
              show Steps p.tables e below (T43.setTop (mkF m 208 #[.val (.long q1), .second, .val (.int p2), .val (.int p3), .val (.int z4_2), .val (.int z5_3), .val (.ref b5), .val (.int (F2 z4_2 z5_3 (0 : Int32) gB)), .val (.int (F2 z4_2 z5_3 (1 : Int32) gB)), .val (.int (F2 z4_2 z5_3 (2 : Int32) gB)), .val (.int (F2 z4_2 z5_3 (3 : Int32) gB)), .val (.int (F2 z4_2 z5_3 (4 : Int32) gB)), .unset, .unset] [(.int (((((F2 z4_2 z5_3 (0 : Int32) gB) + (F2 z4_2 z5_3 (1 : Int32) gB)) + (F2 z4_2 z5_3 (2 : Int32) gB)) + (F2 z4_2 z5_3 (3 : Int32) gB)) + (F2 z4_2 z5_3 (4 : Int32) gB)))])) _
              refine XS.istore X43.here hx rfl (hb hby at_208) rfl (l' := #[.val (.long q1), .second, .val (.int p2), .val (.int p3), .val (.int z4_2), .val (.int z5_3), .val (.ref b5), .val (.int (F2 z4_2 z5_3 (0 : Int32) gB)), .val (.int (F2 z4_2 z5_3 (1 : Int32) gB)), .val (.int (F2 z4_2 z5_3 (2 : Int32) gB)), .val (.int (F2 z4_2 z5_3 (3 : Int32) gB)), .val (.int (F2 z4_2 z5_3 (4 : Int32) gB)), .val (.int (((((F2 z4_2 z5_3 (0 : Int32) gB) + (F2 z4_2 z5_3 (1 : Int32) gB)) + (F2 z4_2 z5_3 (2 : Int32) gB)) + (F2 z4_2 z5_3 (3 : Int32) gB)) + (F2 z4_2 z5_3 (4 : Int32) gB))), .unset]) rfl ?_
              show Steps p.tables e below (T43.setTop (mkF m 210 #[.val (.long q1), .second, .val (.int p2), .val (.int p3), .val (.int z4_2), .val (.int z5_3), .val (.ref b5), .val (.int (F2 z4_2 z5_3 (0 : Int32) gB)), .val (.int (F2 z4_2 z5_3 (1 : Int32) gB)), .val (.int (F2 z4_2 z5_3 (2 : Int32) gB)), .val (.int (F2 z4_2 z5_3 (3 : Int32) gB)), .val (.int (F2 z4_2 z5_3 (4 : Int32) gB)), .val (.int (((((F2 z4_2 z5_3 (0 : Int32) gB) + (F2 z4_2 z5_3 (1 : Int32) gB)) + (F2 z4_2 z5_3 (2 : Int32) gB)) + (F2 z4_2 z5_3 (3 : Int32) gB)) + (F2 z4_2 z5_3 (4 : Int32) gB))), .unset] [])) _
              exact kt
  refine OwnG.st dj52 ?_
  have sg53 : ∀ tgt, Steps p.tables e below (T43.setTop (mkF m 216 #[.val (.long q1), .second, .val (.int p2), .val (.int p3), .val (.int z4_2), .val (.int z5_3), .val (.ref b5), .val (.int (F2 z4_2 z5_3 (0 : Int32) gB)), .val (.int (F2 z4_2 z5_3 (1 : Int32) gB)), .val (.int (F2 z4_2 z5_3 (2 : Int32) gB)), .val (.int (F2 z4_2 z5_3 (3 : Int32) gB)), .val (.int (F2 z4_2 z5_3 (4 : Int32) gB)), .val (.int z210_51), .unset] [(.int z5_3), (.int z4_2), (.ref b5)])) tgt → Steps p.tables e below (T43.setTop (mkF m 210 #[.val (.long q1), .second, .val (.int p2), .val (.int p3), .val (.int z4_2), .val (.int z5_3), .val (.ref b5), .val (.int (F2 z4_2 z5_3 (0 : Int32) gB)), .val (.int (F2 z4_2 z5_3 (1 : Int32) gB)), .val (.int (F2 z4_2 z5_3 (2 : Int32) gB)), .val (.int (F2 z4_2 z5_3 (3 : Int32) gB)), .val (.int (F2 z4_2 z5_3 (4 : Int32) gB)), .val (.int z210_51), .unset] [])) tgt := by
    intro tgt kt
    refine XS.aload X43.here hx rfl (hb hby at_210) rfl rfl ?_
    show Steps p.tables e below (T43.setTop (mkF m 212 #[.val (.long q1), .second, .val (.int p2), .val (.int p3), .val (.int z4_2), .val (.int z5_3), .val (.ref b5), .val (.int (F2 z4_2 z5_3 (0 : Int32) gB)), .val (.int (F2 z4_2 z5_3 (1 : Int32) gB)), .val (.int (F2 z4_2 z5_3 (2 : Int32) gB)), .val (.int (F2 z4_2 z5_3 (3 : Int32) gB)), .val (.int (F2 z4_2 z5_3 (4 : Int32) gB)), .val (.int z210_51), .unset] [(.ref b5)])) _
    refine XS.iload X43.here hx rfl (hb hby at_212) rfl ?_
    show Steps p.tables e below (T43.setTop (mkF m 214 #[.val (.long q1), .second, .val (.int p2), .val (.int p3), .val (.int z4_2), .val (.int z5_3), .val (.ref b5), .val (.int (F2 z4_2 z5_3 (0 : Int32) gB)), .val (.int (F2 z4_2 z5_3 (1 : Int32) gB)), .val (.int (F2 z4_2 z5_3 (2 : Int32) gB)), .val (.int (F2 z4_2 z5_3 (3 : Int32) gB)), .val (.int (F2 z4_2 z5_3 (4 : Int32) gB)), .val (.int z210_51), .unset] [(.int z4_2), (.ref b5)])) _
    refine XS.iload X43.here hx rfl (hb hby at_214) rfl ?_
    show Steps p.tables e below (T43.setTop (mkF m 216 #[.val (.long q1), .second, .val (.int p2), .val (.int p3), .val (.int z4_2), .val (.int z5_3), .val (.ref b5), .val (.int (F2 z4_2 z5_3 (0 : Int32) gB)), .val (.int (F2 z4_2 z5_3 (1 : Int32) gB)), .val (.int (F2 z4_2 z5_3 (2 : Int32) gB)), .val (.int (F2 z4_2 z5_3 (3 : Int32) gB)), .val (.int (F2 z4_2 z5_3 (4 : Int32) gB)), .val (.int z210_51), .unset] [(.int z5_3), (.int z4_2), (.ref b5)])) _
    exact kt
  refine OwnG.st sg53 ?_
  obtain ⟨_, _, ⟨T54, L54, k54, n54⟩, -, X54, ⟨Lc54, hQ54, l54, y54, z54⟩, st54⟩ := Jvm.LawKit.callS X43 hx (y := (⟨"com/example/provenir/provenir/Iso2709Record", "number", "([BII)I"⟩ : MethodName)) hown (mvT hZ (hw _ (List.mem_of_getElem? (i := 9) rfl))) (mvT hZ (hw _ (List.mem_of_getElem? (i := 10) rfl))) (mvT hZ (hw _ (List.mem_of_getElem? (i := 11) rfl))) (mvT hZ (hw _ (List.mem_of_getElem? (i := 12) rfl))) (by decide) (backOf (W := 0) (rm3 l Z a0 hw [] b5 z4_2 z5_3 8 gB T43.heap n0 Z43 fA_b5_44 hfr hct rfl) hZ (hw _ (List.mem_of_getElem? (i := 12) rfl)) (hw _ (List.mem_of_getElem? (i := 11) rfl)) (by decide) (by decide)) (g := (mkF m 216 #[.val (.long q1), .second, .val (.int p2), .val (.int p3), .val (.int z4_2), .val (.int z5_3), .val (.ref b5), .val (.int (F2 z4_2 z5_3 (0 : Int32) gB)), .val (.int (F2 z4_2 z5_3 (1 : Int32) gB)), .val (.int (F2 z4_2 z5_3 (2 : Int32) gB)), .val (.int (F2 z4_2 z5_3 (3 : Int32) gB)), .val (.int (F2 z4_2 z5_3 (4 : Int32) gB)), .val (.int z210_51), .unset] [(.int z5_3), (.int z4_2), (.ref b5)])) rfl (by rw [hml]; rfl) (argsL := [(.ref b5), (.int z4_2), (.int z5_3)]) (rest := []) (lenOf pd_0_2 rfl) rfl (by show 2 * 0 + _ ≤ _; exact Nat.le_of_eq rfl) (hb hby at_216) (fun _ _ => ⟨rfl, rfl, (by decide : 6 + 0 ≤ _), (by decide : 33 + 0 ≤ _)⟩)
  dsimp only [Pt.U, Pt.locs, Pt.cells, Pt.slots] at X54 l54 y54 z54 st54 hQ54
  subst l54 y54 z54
  obtain ⟨rfl, N54q, e54⟩ := hQ54
  have N54 := Fr.app N43 N54q
  refine OwnG.st (fun t k => st54 t k) ?_
  show OwnG p e below s _ _ _ T54 (mkF m 219 #[.val (.long q1), .second, .val (.int p2), .val (.int p3), .val (.int z4_2), .val (.int z5_3), .val (.ref b5), .val (.int (F2 z4_2 z5_3 (0 : Int32) gB)), .val (.int (F2 z4_2 z5_3 (1 : Int32) gB)), .val (.int (F2 z4_2 z5_3 (2 : Int32) gB)), .val (.int (F2 z4_2 z5_3 (3 : Int32) gB)), .val (.int (F2 z4_2 z5_3 (4 : Int32) gB)), .val (.int z210_51), .unset] [(.int (F3 z4_2 z5_3 gB))])
  have hc225_55 : (F3 z4_2 z5_3 gB) = z210_51 := by rw [hz210_51]; exact own_law _ _ _ hfr hct
  have sg56 : ∀ tgt, Steps p.tables e below (T54.setTop (mkF m 233 #[.val (.long q1), .second, .val (.int p2), .val (.int p3), .val (.int z4_2), .val (.int z5_3), .val (.ref b5), .val (.int (F2 z4_2 z5_3 (0 : Int32) gB)), .val (.int (F2 z4_2 z5_3 (1 : Int32) gB)), .val (.int (F2 z4_2 z5_3 (2 : Int32) gB)), .val (.int (F2 z4_2 z5_3 (3 : Int32) gB)), .val (.int (F2 z4_2 z5_3 (4 : Int32) gB)), .val (.int z210_51), .val (.int (F3 z4_2 z5_3 gB))] [(.int (1 : Int32))])) tgt → Steps p.tables e below (T54.setTop (mkF m 219 #[.val (.long q1), .second, .val (.int p2), .val (.int p3), .val (.int z4_2), .val (.int z5_3), .val (.ref b5), .val (.int (F2 z4_2 z5_3 (0 : Int32) gB)), .val (.int (F2 z4_2 z5_3 (1 : Int32) gB)), .val (.int (F2 z4_2 z5_3 (2 : Int32) gB)), .val (.int (F2 z4_2 z5_3 (3 : Int32) gB)), .val (.int (F2 z4_2 z5_3 (4 : Int32) gB)), .val (.int z210_51), .unset] [(.int (F3 z4_2 z5_3 gB))])) tgt := by
    intro tgt kt
    refine XS.istore X54.here hx rfl (hb hby at_219) rfl (l' := #[.val (.long q1), .second, .val (.int p2), .val (.int p3), .val (.int z4_2), .val (.int z5_3), .val (.ref b5), .val (.int (F2 z4_2 z5_3 (0 : Int32) gB)), .val (.int (F2 z4_2 z5_3 (1 : Int32) gB)), .val (.int (F2 z4_2 z5_3 (2 : Int32) gB)), .val (.int (F2 z4_2 z5_3 (3 : Int32) gB)), .val (.int (F2 z4_2 z5_3 (4 : Int32) gB)), .val (.int z210_51), .val (.int (F3 z4_2 z5_3 gB))]) rfl ?_
    show Steps p.tables e below (T54.setTop (mkF m 221 #[.val (.long q1), .second, .val (.int p2), .val (.int p3), .val (.int z4_2), .val (.int z5_3), .val (.ref b5), .val (.int (F2 z4_2 z5_3 (0 : Int32) gB)), .val (.int (F2 z4_2 z5_3 (1 : Int32) gB)), .val (.int (F2 z4_2 z5_3 (2 : Int32) gB)), .val (.int (F2 z4_2 z5_3 (3 : Int32) gB)), .val (.int (F2 z4_2 z5_3 (4 : Int32) gB)), .val (.int z210_51), .val (.int (F3 z4_2 z5_3 gB))] [])) _
    refine XS.iload X54.here hx rfl (hb hby at_221) rfl ?_
    show Steps p.tables e below (T54.setTop (mkF m 223 #[.val (.long q1), .second, .val (.int p2), .val (.int p3), .val (.int z4_2), .val (.int z5_3), .val (.ref b5), .val (.int (F2 z4_2 z5_3 (0 : Int32) gB)), .val (.int (F2 z4_2 z5_3 (1 : Int32) gB)), .val (.int (F2 z4_2 z5_3 (2 : Int32) gB)), .val (.int (F2 z4_2 z5_3 (3 : Int32) gB)), .val (.int (F2 z4_2 z5_3 (4 : Int32) gB)), .val (.int z210_51), .val (.int (F3 z4_2 z5_3 gB))] [(.int (F3 z4_2 z5_3 gB))])) _
    refine XS.iload X54.here hx rfl (hb hby at_223) rfl ?_
    show Steps p.tables e below (T54.setTop (mkF m 225 #[.val (.long q1), .second, .val (.int p2), .val (.int p3), .val (.int z4_2), .val (.int z5_3), .val (.ref b5), .val (.int (F2 z4_2 z5_3 (0 : Int32) gB)), .val (.int (F2 z4_2 z5_3 (1 : Int32) gB)), .val (.int (F2 z4_2 z5_3 (2 : Int32) gB)), .val (.int (F2 z4_2 z5_3 (3 : Int32) gB)), .val (.int (F2 z4_2 z5_3 (4 : Int32) gB)), .val (.int z210_51), .val (.int (F3 z4_2 z5_3 gB))] [(.int z210_51), (.int (F3 z4_2 z5_3 gB))])) _
    refine XS.icmpNo X54.here hx rfl (hb hby at_225) rfl (teq hc225_55).2 ?_
    show Steps p.tables e below (T54.setTop (mkF m 228 #[.val (.long q1), .second, .val (.int p2), .val (.int p3), .val (.int z4_2), .val (.int z5_3), .val (.ref b5), .val (.int (F2 z4_2 z5_3 (0 : Int32) gB)), .val (.int (F2 z4_2 z5_3 (1 : Int32) gB)), .val (.int (F2 z4_2 z5_3 (2 : Int32) gB)), .val (.int (F2 z4_2 z5_3 (3 : Int32) gB)), .val (.int (F2 z4_2 z5_3 (4 : Int32) gB)), .val (.int z210_51), .val (.int (F3 z4_2 z5_3 gB))] [])) _
    refine XS.iconst X54.here hx rfl (hb hby at_228) ?_
    show Steps p.tables e below (T54.setTop (mkF m 229 #[.val (.long q1), .second, .val (.int p2), .val (.int p3), .val (.int z4_2), .val (.int z5_3), .val (.ref b5), .val (.int (F2 z4_2 z5_3 (0 : Int32) gB)), .val (.int (F2 z4_2 z5_3 (1 : Int32) gB)), .val (.int (F2 z4_2 z5_3 (2 : Int32) gB)), .val (.int (F2 z4_2 z5_3 (3 : Int32) gB)), .val (.int (F2 z4_2 z5_3 (4 : Int32) gB)), .val (.int z210_51), .val (.int (F3 z4_2 z5_3 gB))] [(.int (1 : Int32))])) _
    refine XS.goto X54.here hx rfl (pc0 := 229) (pc' := 233) rfl (hb hby at_229) (by decide) (by decide) ?_
    show Steps p.tables e below (T54.setTop (mkF m 233 #[.val (.long q1), .second, .val (.int p2), .val (.int p3), .val (.int z4_2), .val (.int z5_3), .val (.ref b5), .val (.int (F2 z4_2 z5_3 (0 : Int32) gB)), .val (.int (F2 z4_2 z5_3 (1 : Int32) gB)), .val (.int (F2 z4_2 z5_3 (2 : Int32) gB)), .val (.int (F2 z4_2 z5_3 (3 : Int32) gB)), .val (.int (F2 z4_2 z5_3 (4 : Int32) gB)), .val (.int z210_51), .val (.int (F3 z4_2 z5_3 gB))] [(.int (1 : Int32))])) _
    exact kt
  refine OwnG.st sg56 ?_
  have hv : (1 : Int32) = 1 := rfl
  exact OwnG.retN X54 hx (t := .boolean) (by simp) Bd.returns (BodyLoose.notSynchronized Bd) (hb hby at_233) ⟨congrArg (fun w => some (Value.int (nar .boolean w))) hv, N54⟩ (by decide) (by decide)
set_option maxRecDepth 65536 in
set_option maxHeartbeats 40000000 in
theorem comes_1 {Post : Tables → Env → Array Value → State → Outcome → State → Prop} (hpost : ∀ tb e args s v u, (limb_1_1.after args s (.returned v) u = true ∧ limb_1_2.after args s (.returned v) u = true ∧ True) → FrameEnd s (.returned v) u (Jvm.fieldLocs frame_1_writes args s ++ Jvm.arrayLocs frame_1_arrays args s ++ Jvm.staticLocs frame_1_statics s) 24 192 → Post tb e args s (.returned v) u) :
    ArmFor flags0 classFile x code maxLocals ret World_1 tables_1 room_1 Calls_1 rest_1 Pre_1 Post := by
  intro l hfl _ _ p e ha hc hk s m args below hf hA hF happ hP
  obtain ⟨hcalls, hrest, hpre⟩ := hP
  obtain ⟨-, -, -, hnamed, -, -, -, hat⟩ := (Spec.applies_iff hf).mp happ
  obtain ⟨hg, hn⟩ := and_e (Cond.before_iff.mp (show (Jvm.Cond.and given_1 narrow_1).before args s = true from hpre))
  obtain ⟨g1, g2⟩ := and_e hg
  obtain ⟨g3, g4⟩ := and_e g2
  obtain ⟨g5, g6⟩ := and_e g4
  obtain ⟨w0, w1, w2, rfl⟩ : ∃ w0 w1 w2 : Value, args = #[w0, w1, w2] := by
    have hs : args.size = 3 := by simpa [Cond.value, given_1] using g1
    obtain ⟨L⟩ := args
    match L, hs with
    | [w0, w1, w2], _ => exact ⟨w0, w1, w2, rfl⟩
  have hw := fun d (hd : d ∈ tables_1) => atoms_spec (ws := Jvm.Cond.code x code maxLocals ret :: tables_1) hat d (List.mem_cons_of_mem _ hd)
  obtain ⟨i0, ei0⟩ := isL_v g3
  obtain rfl : w0 = (.long i0) := Option.some.inj ei0
  obtain ⟨i1, ei1⟩ := is_v g5
  obtain rfl : w1 = (.int i1) := Option.some.inj ei1
  obtain ⟨i2, ei2⟩ := is_v g6
  obtain rfl : w2 = (.int i2) := Option.some.inj ei2
  obtain ⟨n, o, h1, h2, h3, _, L, rfl, ⟨rfl, N⟩, hq⟩ := rm0 l s _ hw tables_1 i0 i1 i2  s.heap s.heap.size (Nat.le_refl _)  p e ha hc hk s m _ below hf ((Spec.applies_iff_loose hf).mp happ).1 ⟨rfl, State.Warmed39.refl s, rfl⟩ trivial
  refine ⟨n, _, h1, h2, h3, hpost _ _ _ _ _ _ ⟨Cond.after_iff.mpr rfl, Cond.after_iff.mpr (eq_i res_at (Term.int_eval (1)) rfl), trivial⟩ ⟨hq.1, hq.2.1, (hq.2.2.sift fun y hy => Or.inr (N y hy)).mono (by decide) (by decide)⟩⟩
theorem main_1_1 : Claimed_1_1 := comes_1 fun _ _ _ _ _ _ h hF => ⟨h.1, hF⟩
theorem main_1_2 : Claimed_1_2 := comes_1 fun _ _ _ _ _ _ h hF => ⟨h.2.1, hF⟩
end Jvm.Pilot.@@N@@
namespace Jvm.Pilot.@@N@@
open Jvm Jvm.ClassFile Sem Op Lib Jvm.Free Jvm.Stand Jvm.Pilot.@@N@@.Jvm.D
/-! MADE BY PROGRAM (witnessworld.py) out of the Statement's table words and the real class files: 10 classes; the members and pool entries that the words name. The judged class is class 1, her method 3. -/
namespace start1
open Jvm.ClassFile
def u (s : String) : CpInfo := .utf8 (stringToUtf16 s)
/-- a pool by its gaps: so many unusable entries, then the entry; so many at the end -/
def gap : Nat → List CpInfo → List CpInfo
  | 0, r => r
  | n + 1, r => .unusable :: gap n r
def poolList (es : List (Nat × CpInfo)) (last : Nat) : List CpInfo := es.foldr (fun e r => gap e.1 (e.2 :: r)) (gap last [])
def pool (es : List (Nat × CpInfo)) (last : Nat) : Array CpInfo := ⟨poolList es last⟩
def fileOf (pool : Array CpInfo) (this : Nat) (attrs : Array Attribute := #[]) (ms : Array MethodInfo := #[]) (fl : Nat := 33) (sup : Nat := 0) (ifs : Array Nat := #[]) (fds : Array FieldInfo := #[]) : ClassFile where
  minorVersion := 0
  majorVersion := 65
  constantPool := pool
  accessFlags := fl
  thisClass := this
  superClass := sup
  interfaces := ifs
  fields := fds
  methods := ms
  attributes := attrs
def plain (name : String) (sup : Option ClassId) : Class where
  name := name
  kind := .ordinary
  loader := none
  accessFlags := 33
  super := sup
  interfaces := #[]
  cf := none
  fields := #[]
  methods := #[]
  instanceTypes := #[]
  staticTypes := #[]
  resolved := #[]
  callSites := []
  init := .initialized
  statics := none
  mirror := none

def pool0 : Array CpInfo := pool [(5, u "<init>"), (0, u "()V"), (1, .class_ 10), (1, u "java/lang/Object")] 113

def k0m0 : Method := { name := "<init>", desc := "()V", sig := { parameters := [], returnType := none }, accessFlags := 1, code := none }
/-- java/lang/Object -/
def k0 : Class := { plain "java/lang/Object" none with
  accessFlags := 33
  interfaces := #[]
  cf := some (fileOf pool0 8 #[] #[{ accessFlags := 1, nameIndex := 5, descriptorIndex := 6, attributes := #[] }] 33 0 #[] #[])
  fields := #[]
  methods := #[k0m0]
  instanceTypes := #[]
  staticTypes := #[]
  resolved := Array.replicate 124 none
  statics := none }

def pool1 : Array CpInfo := pool [(2, .class_ 4), (1, u "java/lang/Object"), (0, u "<init>"), (0, u "()V"), (0, .long 255), (1, .methodref 10 11), (0, .class_ 12), (0, .nameAndType 13 14), (0, u "com/example/provenir/provenir/Iso2709RecordNumberPinLaw"), (0, u "at"), (0, u "(JII)B"), (0, .methodref 10 16), (0, .nameAndType 17 18), (0, u "term"), (0, u "([BIII)I"), (0, .methodref 20 21), (0, .class_ 22), (0, .nameAndType 23 24), (0, u "com/example/provenir/provenir/Iso2709Record"), (0, u "number"), (0, u "([BII)I"), (5, u "law"), (0, u "(JII)Z")] 4

def k1m0 : Method := { name := "<init>", desc := "()V", sig := { parameters := [], returnType := none }, accessFlags := 1, code := none }
def k1c1 : Code := { maxStack := 4, maxLocals := 5, code := method_2_code, exceptionTable := #[], attributes := #[] }
def k1m1 : Method := { name := "at", desc := "(JII)B", sig := { parameters := [.long, .int, .int], returnType := some .byte }, accessFlags := 10, code := some k1c1 }
def k1c2 : Code := { maxStack := 4, maxLocals := 6, code := method_3_code, exceptionTable := #[], attributes := #[] }
def k1m2 : Method := { name := "term", desc := "([BIII)I", sig := { parameters := [(.array .byte), .int, .int, .int], returnType := some .int }, accessFlags := 10, code := some k1c2 }
def k1c3 : Code := { maxStack := 6, maxLocals := 14, code := code, exceptionTable := #[], attributes := #[] }
def k1m3 : Method := { name := "law", desc := "(JII)Z", sig := { parameters := [.long, .int, .int], returnType := some .boolean }, accessFlags := 9, code := some k1c3 }
/-- com/example/provenir/provenir/Iso2709RecordNumberPinLaw -/
def k1 : Class := { plain "com/example/provenir/provenir/Iso2709RecordNumberPinLaw" (some 0) with
  accessFlags := 49
  interfaces := #[]
  cf := some (fileOf pool1 10 #[] #[{ accessFlags := 1, nameIndex := 5, descriptorIndex := 6, attributes := #[] }, { accessFlags := 10, nameIndex := 13, descriptorIndex := 14, attributes := #[] }, { accessFlags := 10, nameIndex := 17, descriptorIndex := 18, attributes := #[] }, { accessFlags := 9, nameIndex := 30, descriptorIndex := 31, attributes := #[] }] 49 2 #[] #[])
  fields := #[]
  methods := #[k1m0, k1m1, k1m2, k1m3]
  instanceTypes := #[]
  staticTypes := #[]
  resolved := Array.replicate 36 none
  statics := none }

def pool2 : Array CpInfo := pool [(2, .class_ 4), (1, u "com/example/provenir/provenir/UnimarcRecord"), (7, .class_ 14), (1, u "com/example/provenir/provenir/UnimarcRecord$Fields"), (2, .class_ 18), (0, u "java/lang/Object"), (0, u "LEADER_LENGTH"), (0, u "I"), (18, .class_ 40), (0, u "com/example/provenir/provenir/UnimarcRecord$Fields$1")] 2

/-- com/example/provenir/provenir/UnimarcRecord -/
def k2 : Class := { plain "com/example/provenir/provenir/UnimarcRecord" (some 0) with
  accessFlags := 1536
  interfaces := #[]
  cf := some (fileOf pool2 2 #[.nestMembers #[12, 39]] #[] 1536 17 #[] #[{ accessFlags := 25, nameIndex := 19, descriptorIndex := 20, attributes := #[] }])
  fields := #[{ name := "LEADER_LENGTH", type := .int, accessFlags := 25, slot := 0, constantValue := 0 }]
  methods := #[]
  instanceTypes := #[]
  staticTypes := #[.int]
  resolved := Array.replicate 43 none
  statics := none }

def pool3 : Array CpInfo := pool [(2, .class_ 4), (1, u "java/lang/Object"), (0, u "<init>"), (0, u "()V"), (4, .class_ 13), (1, u "com/example/provenir/provenir/Iso2709Record"), (0, u "controlText"), (0, u "Lcom/example/provenir/provenir/Utf8Text;"), (0, .class_ 17), (0, u "com/example/provenir/provenir/Iso2709Record$InPlaceFields"), (5, u "fields"), (0, u "Lcom/example/provenir/provenir/Iso2709Record$InPlaceFields;"), (2, u "bytes"), (0, u "[B"), (2, u "length"), (0, u "I"), (2, u "starts"), (0, u "[I"), (2, u "ends"), (2, u "count"), (89, .class_ 133), (0, u "com/example/provenir/provenir/Iso2709Record$Edit"), (109, .class_ 244), (0, u "com/example/provenir/provenir/UnimarcRecord"), (38, .class_ 284), (0, u "com/example/provenir/provenir/Iso2709Record$Encoded"), (87, u "number"), (0, u "([BII)I"), (73, u "MINIMUM_LENGTH"), (2, u "LENGTH_DIGITS"), (1, u "MAXIMUM_LENGTH"), (0, u "MAXIMUM_FIELD_LENGTH"), (1, u "BASE_ADDRESS"), (1, u "BASE_ADDRESS_DIGITS"), (0, u "ENTRY_LENGTH"), (0, u "TAG_LENGTH"), (1, u "FIELD_LENGTH_DIGITS"), (1, u "START_DIGITS"), (0, u "SUBFIELD_DELIMITER"), (0, u "B"), (1, u "FIELD_TERMINATOR"), (1, u "RECORD_TERMINATOR"), (41, .class_ 512), (0, u "com/example/provenir/provenir/Iso2709Record$Length")] 79

def k3m0 : Method := { name := "<init>", desc := "()V", sig := { parameters := [], returnType := none }, accessFlags := 0, code := none }
def k3c1 : Code := { maxStack := 3, maxLocals := 5, code := prog_12_method_5_code, exceptionTable := #[], attributes := #[] }
def k3m1 : Method := { name := "number", desc := "([BII)I", sig := { parameters := [(.array .byte), .int, .int], returnType := some .int }, accessFlags := 8, code := some k3c1 }
/-- com/example/provenir/provenir/Iso2709Record -/
def k3 : Class := { plain "com/example/provenir/provenir/Iso2709Record" (some 0) with
  accessFlags := 48
  interfaces := #[2]
  cf := some (fileOf pool3 11 #[.nestMembers #[511, 283, 16, 132]] #[{ accessFlags := 0, nameIndex := 5, descriptorIndex := 6, attributes := #[] }, { accessFlags := 8, nameIndex := 372, descriptorIndex := 373, attributes := #[] }] 48 2 #[243] #[{ accessFlags := 24, nameIndex := 447, descriptorIndex := 32, attributes := #[] }, { accessFlags := 24, nameIndex := 450, descriptorIndex := 32, attributes := #[] }, { accessFlags := 24, nameIndex := 452, descriptorIndex := 32, attributes := #[] }, { accessFlags := 24, nameIndex := 453, descriptorIndex := 32, attributes := #[] }, { accessFlags := 26, nameIndex := 455, descriptorIndex := 32, attributes := #[] }, { accessFlags := 26, nameIndex := 457, descriptorIndex := 32, attributes := #[] }, { accessFlags := 26, nameIndex := 458, descriptorIndex := 32, attributes := #[] }, { accessFlags := 26, nameIndex := 459, descriptorIndex := 32, attributes := #[] }, { accessFlags := 26, nameIndex := 461, descriptorIndex := 32, attributes := #[] }, { accessFlags := 26, nameIndex := 463, descriptorIndex := 32, attributes := #[] }, { accessFlags := 26, nameIndex := 464, descriptorIndex := 465, attributes := #[] }, { accessFlags := 26, nameIndex := 467, descriptorIndex := 465, attributes := #[] }, { accessFlags := 24, nameIndex := 469, descriptorIndex := 465, attributes := #[] }, { accessFlags := 2, nameIndex := 27, descriptorIndex := 28, attributes := #[] }, { accessFlags := 2, nameIndex := 31, descriptorIndex := 32, attributes := #[] }, { accessFlags := 2, nameIndex := 35, descriptorIndex := 36, attributes := #[] }, { accessFlags := 2, nameIndex := 39, descriptorIndex := 36, attributes := #[] }, { accessFlags := 2, nameIndex := 42, descriptorIndex := 32, attributes := #[] }, { accessFlags := 18, nameIndex := 14, descriptorIndex := 15, attributes := #[] }, { accessFlags := 18, nameIndex := 23, descriptorIndex := 24, attributes := #[] }])
  fields := #[{ name := "MINIMUM_LENGTH", type := .int, accessFlags := 24, slot := 0, constantValue := 0 }, { name := "LENGTH_DIGITS", type := .int, accessFlags := 24, slot := 1, constantValue := 0 }, { name := "MAXIMUM_LENGTH", type := .int, accessFlags := 24, slot := 2, constantValue := 0 }, { name := "MAXIMUM_FIELD_LENGTH", type := .int, accessFlags := 24, slot := 3, constantValue := 0 }, { name := "BASE_ADDRESS", type := .int, accessFlags := 26, slot := 4, constantValue := 0 }, { name := "BASE_ADDRESS_DIGITS", type := .int, accessFlags := 26, slot := 5, constantValue := 0 }, { name := "ENTRY_LENGTH", type := .int, accessFlags := 26, slot := 6, constantValue := 0 }, { name := "TAG_LENGTH", type := .int, accessFlags := 26, slot := 7, constantValue := 0 }, { name := "FIELD_LENGTH_DIGITS", type := .int, accessFlags := 26, slot := 8, constantValue := 0 }, { name := "START_DIGITS", type := .int, accessFlags := 26, slot := 9, constantValue := 0 }, { name := "SUBFIELD_DELIMITER", type := .byte, accessFlags := 26, slot := 10, constantValue := 0 }, { name := "FIELD_TERMINATOR", type := .byte, accessFlags := 26, slot := 11, constantValue := 0 }, { name := "RECORD_TERMINATOR", type := .byte, accessFlags := 24, slot := 12, constantValue := 0 }, { name := "bytes", type := (.array .byte), accessFlags := 2, slot := 0, constantValue := 0 }, { name := "length", type := .int, accessFlags := 2, slot := 1, constantValue := 0 }, { name := "starts", type := (.array .int), accessFlags := 2, slot := 2, constantValue := 0 }, { name := "ends", type := (.array .int), accessFlags := 2, slot := 3, constantValue := 0 }, { name := "count", type := .int, accessFlags := 2, slot := 4, constantValue := 0 }, { name := "controlText", type := (.object "com/example/provenir/provenir/Utf8Text"), accessFlags := 18, slot := 5, constantValue := 0 }, { name := "fields", type := (.object "com/example/provenir/provenir/Iso2709Record$InPlaceFields"), accessFlags := 18, slot := 6, constantValue := 0 }]
  methods := #[k3m0, k3m1]
  instanceTypes := #[(.array .byte), .int, (.array .int), (.array .int), .int, (.object "com/example/provenir/provenir/Utf8Text"), (.object "com/example/provenir/provenir/Iso2709Record$InPlaceFields")]
  staticTypes := #[.int, .int, .int, .int, .int, .int, .int, .int, .int, .int, .byte, .byte, .byte]
  resolved := Array.replicate 592 none
  statics := none }

def pool4 : Array CpInfo := pool [(1, u "java/lang/Cloneable"), (0, .class_ 1), (0, u "java/lang/Object"), (0, .class_ 3)] 3

/-- java/lang/Cloneable -/
def k4 : Class := { plain "java/lang/Cloneable" (some 0) with
  accessFlags := 1537
  interfaces := #[]
  cf := some (fileOf pool4 2 #[] #[] 1537 4 #[] #[])
  fields := #[]
  methods := #[]
  instanceTypes := #[]
  staticTypes := #[]
  resolved := Array.replicate 8 none
  statics := none }

def pool5 : Array CpInfo := pool [(1, u "java/io/Serializable"), (0, .class_ 1), (0, u "java/lang/Object"), (0, .class_ 3)] 3

/-- java/io/Serializable -/
def k5 : Class := { plain "java/io/Serializable" (some 0) with
  accessFlags := 1537
  interfaces := #[]
  cf := some (fileOf pool5 2 #[] #[] 1537 4 #[] #[])
  fields := #[]
  methods := #[]
  instanceTypes := #[]
  staticTypes := #[]
  resolved := Array.replicate 8 none
  statics := none }

/-- the primitive byte -/
def k6 : Class := { plain "byte" none with kind := .primitive 'B', accessFlags := 0x411 }
/-- [B -/
def k7 : Class := { plain "[B" (some 0) with kind := .array 6 .byte, interfaces := #[4, 5], accessFlags := 1041 }

/-- the primitive int -/
def k8 : Class := { plain "int" none with kind := .primitive 'I', accessFlags := 0x411 }
/-- [I -/
def k9 : Class := { plain "[I" (some 0) with kind := .array 8 .int, interfaces := #[4, 5], accessFlags := 1041 }

def heap : Heap := #[]
def classes : Array Class := #[k0, k1, k2, k3, k4, k5, k6, k7, k8, k9]
def interned : List (Array UInt16 × Addr) := []
def slotsUsed : Nat := 0
def theMethod : MethodId := ⟨1, 3⟩
def args0 : Array Value := #[.long 5, .int 5, .int 5]
def aboutOver (below : List Frame) : State where
  vm := { classes := classes, interned := interned.toArray }
  heap := heap
  slotsUsed := slotsUsed
  threads := #[{ frames := .invoking theMethod args0 :: below }]
def below0 : List Frame := [.native { method := ⟨0, 0⟩, args := #[] }]
def about1 : State := aboutOver below0
def p0 : Program := .bare "" "" ""
def e0 : Env := launch0.env 0 0 0
theorem w_frames : about1.frames = Frame.invoking theMethod args0 :: below0 := rfl
set_option maxRecDepth 65536 in
theorem w_args : argsFit about1.vm theMethod args0 = true := by decide +kernel
set_option maxRecDepth 65536 in
theorem w_heap : heapFits about1 = true := by decide +kernel
set_option maxRecDepth 65536 in
theorem w_runnable : about1.curStatus? = some .runnable := by decide +kernel
set_option maxRecDepth 65536 in
theorem w_alone : about1.alone = true := by decide +kernel
set_option maxRecDepth 65536 in
theorem w_named : about1.methodNamed? x = some theMethod := by decide +kernel
set_option maxRecDepth 65536 in
theorem w_hears : about1.hears theMethod below0 = true := by decide +kernel
set_option maxRecDepth 65536 in
theorem w_ripe : about1.ripe theMethod args0 below0 = true := by decide +kernel
theorem w_running : about1.status = .running := rfl
set_option maxRecDepth 65536 in
theorem w_room : about1.hasRoom e0.platform room_1 = true :=
  launch0.hasRoom_least _ room_1 (by decide +kernel) (by decide +kernel) (by decide +kernel) (by decide +kernel) (by decide +kernel) (by decide +kernel)
theorem allAtoms_all (ts : List Jvm.Cond) (a : Array Jvm.Value) (st : Jvm.State) : (allAtoms ts).before a st = ts.all (fun c => c.before a st) := by
  induction ts with
  | nil => rfl
  | cons c t ih =>
    show (Jvm.Cond.and c (allAtoms t)).before a st = _
    rw [Jvm.Cond.before_and, ih, List.all_cons]
def words1 : List Jvm.Cond := Jvm.Cond.code x code maxLocals ret :: tables_1
/-- a 'code' word, met by the world's own term for the bytes: nothing is compared byte by byte -/
theorem code_word {y : MethodName} {bytes : ByteArray} {mx : Nat} {rt : Option FieldType} {a : Array Value} {s : State} {m : MethodId} {meth : Method} {c : Code} (h1 : s.methodNamed? y = some m) (h2 : s.vm.method? m = some meth) (h3 : meth.code = some c) (h4 : c.code = bytes)
    (h5 : (c.maxLocals == mx && c.exceptionTable.isEmpty && decide (c.maxStack ≤ mostOperands) && decide (meth.sig.returnType = rt) && !meth.locks && decide (parseMethodDescriptor y.desc = some meth.sig)) = true) : (Jvm.Cond.code y bytes mx rt).before a s = true := by
  simp only [Bool.and_eq_true, beq_iff_eq, Bool.not_eq_true', decide_eq_true_eq] at h5
  obtain ⟨⟨⟨⟨⟨g1, g2⟩, g3⟩, g4⟩, g5⟩, g6⟩ := h5
  simp [Cond.before, Cond.holds, Cond.value, h1, h2, h3, h4, g1, g2, g3, g4, g5, g6]
def isCode : Jvm.Cond → Bool
  | .code _ _ _ _ => true
  | _ => false
theorem all_split {L : List Jvm.Cond} {P : Jvm.Cond → Bool} (h1 : L.all (fun c => isCode c || P c) = true) (h2 : ∀ c ∈ L.filter isCode, P c = true) : L.all P = true := by
  refine List.all_eq_true.mpr fun c hc => ?_
  have h := List.all_eq_true.mp h1 c hc
  rcases Bool.eq_false_or_eq_true (isCode c) with hi | hi
  · exact h2 c (List.mem_filter.mpr ⟨hc, hi⟩)
  · simpa [hi] using h
set_option maxRecDepth 65536 in
theorem w_c0 : (Jvm.Cond.code x code maxLocals ret).before args0 about1 = true := code_word (m := ⟨1, 3⟩) (meth := k1m3) (c := k1c3) (by decide +kernel) rfl rfl rfl (by decide +kernel)
set_option maxRecDepth 65536 in
theorem w_c1 : (Jvm.Cond.code ({ cls := "com/example/provenir/provenir/Iso2709RecordNumberPinLaw", name := "at", desc := "(JII)B" } : Jvm.MethodName) method_2_code (5 : Nat) (Option.some Jvm.ClassFile.FieldType.byte)).before args0 about1 = true := code_word (m := ⟨1, 1⟩) (meth := k1m1) (c := k1c1) (by decide +kernel) rfl rfl rfl (by decide +kernel)
set_option maxRecDepth 65536 in
theorem w_c2 : (Jvm.Cond.code ({ cls := "com/example/provenir/provenir/Iso2709RecordNumberPinLaw", name := "term", desc := "([BIII)I" } : Jvm.MethodName) method_3_code (6 : Nat) (Option.some Jvm.ClassFile.FieldType.int)).before args0 about1 = true := code_word (m := ⟨1, 2⟩) (meth := k1m2) (c := k1c2) (by decide +kernel) rfl rfl rfl (by decide +kernel)
set_option maxRecDepth 65536 in
theorem w_c3 : (Jvm.Cond.code ({ cls := "com/example/provenir/provenir/Iso2709Record", name := "number", desc := "([BII)I" } : Jvm.MethodName) prog_12_method_5_code (5 : Nat) (Option.some Jvm.ClassFile.FieldType.int)).before args0 about1 = true := code_word (m := ⟨3, 1⟩) (meth := k3m1) (c := k3c1) (by decide +kernel) rfl rfl rfl (by decide +kernel)
def codes1 : List Jvm.Cond := [Jvm.Cond.code x code maxLocals ret, Jvm.Cond.code ({ cls := "com/example/provenir/provenir/Iso2709RecordNumberPinLaw", name := "at", desc := "(JII)B" } : Jvm.MethodName) method_2_code (5 : Nat) (Option.some Jvm.ClassFile.FieldType.byte), Jvm.Cond.code ({ cls := "com/example/provenir/provenir/Iso2709RecordNumberPinLaw", name := "term", desc := "([BIII)I" } : Jvm.MethodName) method_3_code (6 : Nat) (Option.some Jvm.ClassFile.FieldType.int), Jvm.Cond.code ({ cls := "com/example/provenir/provenir/Iso2709Record", name := "number", desc := "([BII)I" } : Jvm.MethodName) prog_12_method_5_code (5 : Nat) (Option.some Jvm.ClassFile.FieldType.int)]
set_option maxRecDepth 65536 in
theorem codes_eq : words1.filter isCode = codes1 := rfl
theorem w_codes : ∀ c ∈ words1.filter isCode, c.before args0 about1 = true := by
  rw [codes_eq]
  intro c hc
  simp only [codes1, List.mem_cons, List.not_mem_nil, or_false] at hc
  rcases hc with rfl | rfl | rfl | rfl
  · exact w_c0
  · exact w_c1
  · exact w_c2
  · exact w_c3
set_option maxRecDepth 65536 in
theorem w_t1 : words1.all (fun c => isCode c || c.before args0 about1) = true := by decide +kernel
theorem w_tables : (allAtoms (Jvm.Cond.code x code maxLocals ret :: tables_1)).before args0 about1 = true := by
  rw [allAtoms_all]
  show words1.all (fun c => c.before args0 about1) = true
  refine all_split ?_ w_codes
  rw [w_t1]
set_option maxRecDepth 65536 in
theorem w_case : (Jvm.Cond.and given_1 narrow_1).before args0 about1 = true := by decide +kernel
theorem w_applies : (headSpec (Jvm.Cond.code x code maxLocals ret :: tables_1) room_1).applies x e0.platform about1 = true :=
  (Spec.applies_iff w_frames).mpr ⟨w_running, w_runnable, w_alone, w_named, w_hears, w_ripe, w_room, w_tables⟩
theorem atStart : AtStart classFile x code maxLocals ret World_1 tables_1 room_1 Calls_1 rest_1 Pre_1 launch0 p0 e0 about1 theMethod args0 below0 :=
  ⟨lists_1, trivial, launch0.admits_env _ _ _, launch0.least_env, fairChoices_fair.cas, fairChoices_fair.clock, w_frames, w_args, w_heap, w_applies, trivial, trivial, w_case⟩
end start1
theorem witness_1 : WitnessClaimed_1 := ⟨start1.p0, start1.e0, start1.about1, start1.theMethod, start1.args0, start1.below0, start1.atStart⟩
end Jvm.Pilot.@@N@@
