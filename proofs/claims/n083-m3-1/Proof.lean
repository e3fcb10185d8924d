import JvmDerived
import JvmDerived.Pilot.@@N@@Statement
import JvmDerived.Pilot.@@N@@Code
set_option linter.unusedVariables false
set_option linter.unusedSimpArgs false
set_option maxHeartbeats 4000000
set_option maxRecDepth 8192
namespace Jvm.OwnKit
open Sem ClassFile Op Lib Jvm.Stand Jvm.Free Jvm.LawKit Jvm.RoadKit
section Own
variable {p : Program} {l : Launch} {e : Env} {R : Room} {s : State} {m : MethodId} {args : Array Value} {below : List Frame} {meth : Method} {c : Code} {T T' : State} {locs : List Loc} {cells slots : Nat}
/-- from the state T with the frame F on top the run comes to the method's end, and what Q says holds there -/
def OwnG (p : Program) (e : Env) (below : List Frame) (s : State) (Q : Option Value → Heap → List Loc → Prop) (k n : Nat) (T : State) (F : JFrame) : Prop :=
  ∃ s₂ o, Steps p.tables e below (T.setTop F) s₂ ∧ s₂.status = .running ∧ Ended s₂ below o ∧ ∃ v L, o = .returned v ∧ Q v s₂.heap L ∧ FrameEnd s o s₂ L k n
theorem OwnG.st {Q : Option Value → Heap → List Loc → Prop} {k n : Nat} {F F' : JFrame} (h : ∀ t, Steps p.tables e below (T'.setTop F') t → Steps p.tables e below (T.setTop F) t) (g : OwnG p e below s Q k n T' F') : OwnG p e below s Q k n T F := by
  obtain ⟨s2, o, h1, r⟩ := g
  exact ⟨s2, o, h _ h1, r⟩
theorem OwnG.leave (X : Stand p l e R s m args below meth c T locs cells slots) {Q : Option Value → Heap → List Loc → Prop} {k n : Nat} {F : JFrame} {v : Option Value} (hv : meth.sig.returnType = none → v = none) (hlk : meth.locks = false)
    (hs : ∀ fs, (∀ (f : JFrame) (acts : List Action), f.method = m → f.locked = none → f.entered = [] → (doReturn e (T.setTop f) acts v).1 = T.setFrames fs) → Steps p.tables e below (T.setTop F) (T.setFrames fs)) (hq : Q v T.heap locs) (hk : cells ≤ k) (hn : slots ≤ n) : OwnG p e below s Q k n T F := by
  obtain ⟨fs, hr, hrun, hended, hW, hsame⟩ := X.leave hv hlk
  exact ⟨_, _, hs fs hr, hrun, hended, _, _, rfl, hq, ⟨_, rfl⟩, hW, hsame.mono hk hn⟩
theorem OwnG.retI (X : Stand p l e R s m args below meth c T locs cells slots) (hx : p.tables.exec = Jvm.exec) {Q : Option Value → Heap → List Loc → Prop} {k n pc : Nat} {Ls : Array Slot} {z : Int32} {rest : List Value} (hret : meth.sig.returnType = some .int) (hlk : meth.locks = false) (hd : decode c.code pc = .ok (.ireturn, 1)) (hq : Q (some (.int z)) T.heap locs) (hk : cells ≤ k) (hn : slots ≤ n) : OwnG p e below s Q k n T (mkF m pc Ls (.int z :: rest)) :=
  OwnG.leave X (fun h => by rw [hret] at h; cases h) hlk (fun fs hr => retOut X hx hret rfl (Or.inl ⟨rfl, Or.inl rfl, z, rfl⟩) hd hr) hq hk hn
theorem OwnG.retJ (X : Stand p l e R s m args below meth c T locs cells slots) (hx : p.tables.exec = Jvm.exec) {Q : Option Value → Heap → List Loc → Prop} {k n pc : Nat} {Ls : Array Slot} {z : Int64} {rest : List Value} (hret : meth.sig.returnType = some .long) (hlk : meth.locks = false) (hd : decode c.code pc = .ok (.lreturn, 1)) (hq : Q (some (.long z)) T.heap locs) (hk : cells ≤ k) (hn : slots ≤ n) : OwnG p e below s Q k n T (mkF m pc Ls (.long z :: rest)) :=
  OwnG.leave X (fun h => by rw [hret] at h; cases h) hlk (fun fs hr => retOut X hx hret rfl (Or.inr (Or.inl ⟨rfl, rfl, z, rfl⟩)) hd hr) hq hk hn
theorem OwnG.retR (X : Stand p l e R s m args below meth c T locs cells slots) (hx : p.tables.exec = Jvm.exec) {Q : Option Value → Heap → List Loc → Prop} {k n pc : Nat} {Ls : Array Slot} {a : Addr} {rest : List Value} {t : FieldType} (hret : meth.sig.returnType = some t) (ht : t.isReference = true) (hnn : narrow t (.ref a) = .ref a) (hlk : meth.locks = false) (hd : decode c.code pc = .ok (.areturn, 1)) (hq : Q (some (.ref a)) T.heap locs) (hk : cells ≤ k) (hn : slots ≤ n) : OwnG p e below s Q k n T (mkF m pc Ls (.ref a :: rest)) :=
  OwnG.leave X (fun h => by rw [hret] at h; cases h) hlk (fun fs hr => retOut X hx hret hnn (Or.inr (Or.inr (Or.inr (Or.inr ⟨rfl, ht, rfl⟩)))) hd hr) hq hk hn
theorem OwnG.retN (X : Stand p l e R s m args below meth c T locs cells slots) (hx : p.tables.exec = Jvm.exec) {Q : Option Value → Heap → List Loc → Prop} {k n pc : Nat} {Ls : Array Slot} {z : Int32} {rest : List Value} {t : FieldType} (ht : t = .boolean ∨ t = .byte ∨ t = .char ∨ t = .short) (hret : meth.sig.returnType = some t) (hlk : meth.locks = false) (hd : decode c.code pc = .ok (.ireturn, 1)) (hq : Q (some (.int (nar t z))) T.heap locs) (hk : cells ≤ k) (hn : slots ≤ n) : OwnG p e below s Q k n T (mkF m pc Ls (.int z :: rest)) :=
  OwnG.leave X (fun h => by rw [hret] at h; cases h) hlk (fun fs hr => Jvm.RoadKit.retN X hx hret ht hd hr) hq hk hn
theorem OwnG.retV (X : Stand p l e R s m args below meth c T locs cells slots) (hx : p.tables.exec = Jvm.exec) {Q : Option Value → Heap → List Loc → Prop} {k n pc : Nat} {Ls : Array Slot} (hret : meth.sig.returnType = none) (hlk : meth.locks = false) (hd : decode c.code pc = .ok (.return_, 1)) (hq : Q none T.heap locs) (hk : cells ≤ k) (hn : slots ≤ n) : OwnG p e below s Q k n T (mkF m pc Ls []) :=
  OwnG.leave X (fun _ => rfl) hlk (fun fs hr => X.returnOut hx hret hd hr) hq hk hn
end Own
end Jvm.OwnKit
namespace Jvm.OwnKit
open Sem ClassFile Op Lib Jvm.Stand Jvm.Free Jvm.LawKit Jvm.RoadKit
section Arrays
variable {p : Program} {l : Launch} {e : Env} {R : Room} {s : State} {m : MethodId} {args : Array Value} {below : List Frame} {meth : Method} {c : Code} {T : State} {locs : List Loc} {cells slots : Nat} {Z : State} {a0 : Array Value} {h h' : Heap} {a b : Addr} {ty : FieldType} {n : Nat} {f f' : Nat → Value}
/-- at a lies an array of kind ty and length n whose components are f 0, f 1, .. -/
def OwnA (Z : State) (h : Heap) (a : Addr) (ty : FieldType) (n : Nat) (f : Nat → Value) : Prop := ∃ c : Cell, Arr Z h a c ty ∧ c.slots.size = n ∧ ∀ i, i < n → c.slots[i]? = some (f i)
def updv {α : Type} (g : Nat → α) (j : Nat) (v : α) : Nat → α := fun i => if i = j then v else g i
abbrev iv' (g : Nat → Int32) : Nat → Value := fun i => .int (g i)
abbrev jv' (g : Nat → Int64) : Nat → Value := fun i => .long (g i)
theorem OwnA.lt (A : OwnA Z h a ty n f) : a < h.size := by obtain ⟨c, A, -⟩ := A; exact A.lt
theorem OwnA.ext (A : OwnA Z h a ty n f) (E : Ext h h') : OwnA Z h' a ty n f := by obtain ⟨c, A, r⟩ := A; exact ⟨c, A.ext E, r⟩
theorem OwnA.other {sl : Nat} {v : Value} (A : OwnA Z h b ty n f) (W : Wr h h' a sl v) (q : b ≠ a) : OwnA Z h' b ty n f := by obtain ⟨c, A, r⟩ := A; exact ⟨c, A.other W q, r⟩
theorem OwnA.keep {ws : List Addr} (A : OwnA Z h a ty n f) (K : Keep h h' ws) (q : a ∉ ws) : OwnA Z h' a ty n f := by obtain ⟨c, A, r⟩ := A; exact ⟨c, ⟨K.2.1 a c A.1 q, A.2⟩, r⟩
theorem OwnA.congr (A : OwnA Z h a ty n f) (q : ∀ i, i < n → f i = f' i) : OwnA Z h a ty n f' := by obtain ⟨c, A, s1, s2⟩ := A; exact ⟨c, A, s1, fun i hi => (s2 i hi).trans (congrArg some (q i hi))⟩
theorem own_in {c : Cell} {j : Int32} (S : c.slots.size = n) (h0 : 0 ≤ j.toInt) (h1 : j.toInt < n) : ¬ (j < 0 ∨ c.slots.size ≤ j.toNatClampNeg) := by
  have e0 : (0 : Int32).toInt = 0 := rfl
  have e1 : j.toNatClampNeg = j.toInt.toNat := rfl
  rw [S, Int32.lt_iff_toInt_lt, e0, e1]; omega
theorem own_slots (c : Cell) (i : Nat) (v : Value) : (c.setSlot i v).slots = c.slots.setIfInBounds i v := rfl
theorem own_set {cl : Cell} {sl : Nat} {v : Value} (A : Arr Z h a cl ty) (S : cl.slots.size = n) (G : ∀ i, i < n → cl.slots[i]? = some (f i)) (W : Wr h h' a sl v) (hs : sl < n) : OwnA Z h' a ty n (updv f sl v) := by
  refine ⟨_, A.same W, by rw [sz_set]; exact S, fun i hi => ?_⟩
  rw [own_slots]
  by_cases u : sl = i
  · subst u; rw [Array.getElem?_setIfInBounds_self_of_lt (by omega)]; exact congrArg some (show v = (if sl = sl then v else f sl) by rw [if_pos rfl])
  · rw [Array.getElem?_setIfInBounds_ne u, G i hi]; exact congrArg some (show f i = (if i = sl then v else f i) by rw [if_neg (fun q => u q.symm)])
theorem own_ldB {g : Nat → Int32} (A : OwnA Z h a .byte n (iv' g)) (X : Stand p l e R s m args below meth c T locs cells slots) (hx : p.tables.exec = Jvm.exec) (hZ : Z.Warmed39 s.vm) (eT : T.heap = h) {j : Int32} (h0 : 0 ≤ j.toInt) (h1 : j.toInt < n) {gf : JFrame} (hg : gf.method = m) {rest : List Value} (hs : gf.stack = .int j :: .ref a :: rest) (hd : decode c.code gf.pc = .ok (.baload, 1)) :
    ∀ target, Steps p.tables e below (T.setTop { gf with pc := gf.pc + 1, stack := .int (g j.toInt.toNat) :: rest }) target → Steps p.tables e below (T.setTop gf) target := by
  obtain ⟨cl, A, S, G⟩ := A
  exact fun t k => X.baloadBytes hx (by rw [eT]; exact A.1) (State.isArrayOf_alike hZ.alike A.2.1) A.2.2 (own_in S h0 h1) (G j.toInt.toNat (by omega)) hg hs hd t k
theorem own_ldI {g : Nat → Int32} (A : OwnA Z h a .int n (iv' g)) (X : Stand p l e R s m args below meth c T locs cells slots) (hx : p.tables.exec = Jvm.exec) (hZ : Z.Warmed39 s.vm) (eT : T.heap = h) {j : Int32} (h0 : 0 ≤ j.toInt) (h1 : j.toInt < n) {gf : JFrame} (hg : gf.method = m) {rest : List Value} (hs : gf.stack = .int j :: .ref a :: rest) (hd : decode c.code gf.pc = .ok (.iaload, 1)) :
    ∀ target, Steps p.tables e below (T.setTop { gf with pc := gf.pc + 1, stack := .int (g j.toInt.toNat) :: rest }) target → Steps p.tables e below (T.setTop gf) target := by
  obtain ⟨cl, A, S, G⟩ := A
  exact fun t k => X.iaload hx (by rw [eT]; exact A.1) (State.isArrayOf_alike hZ.alike A.2.1) A.2.2 (own_in S h0 h1) (G j.toInt.toNat (by omega)) hg hs hd t k
theorem own_ldJ {g : Nat → Int64} (A : OwnA Z h a .long n (jv' g)) (X : Stand p l e R s m args below meth c T locs cells slots) (hx : p.tables.exec = Jvm.exec) (hZ : Z.Warmed39 s.vm) (eT : T.heap = h) {j : Int32} (h0 : 0 ≤ j.toInt) (h1 : j.toInt < n) {gf : JFrame} (hg : gf.method = m) {rest : List Value} (hs : gf.stack = .int j :: .ref a :: rest) (hd : decode c.code gf.pc = .ok (.laload, 1)) :
    ∀ target, Steps p.tables e below (T.setTop { gf with pc := gf.pc + 1, stack := .long (g j.toInt.toNat) :: rest }) target → Steps p.tables e below (T.setTop gf) target := by
  obtain ⟨cl, A, S, G⟩ := A
  exact fun t k => X.laload hx (by rw [eT]; exact A.1) (State.isArrayOf_alike hZ.alike A.2.1) A.2.2 (own_in S h0 h1) (G j.toInt.toNat (by omega)) hg hs hd t k
theorem own_len (A : OwnA Z h a ty n f) (X : Stand p l e R s m args below meth c T locs cells slots) (hx : p.tables.exec = Jvm.exec) (hZ : Z.Warmed39 s.vm) (eT : T.heap = h) {gf : JFrame} (hg : gf.method = m) {rest : List Value} (hs : gf.stack = .ref a :: rest) (hd : decode c.code gf.pc = .ok (.arraylength, 1)) :
    ∀ target, Steps p.tables e below (T.setTop { gf with pc := gf.pc + 1, stack := .int n.toInt32 :: rest }) target → Steps p.tables e below (T.setTop gf) target := by
  obtain ⟨cl, A, S, G⟩ := A
  subst S
  exact fun t k => X.arraylength hx (by rw [eT]; exact A.1) (State.isArrayOf_alike hZ.alike A.2.1) hg hs hd t k
theorem own_stB {g : Nat → Int32} (A : OwnA Z h a .byte n (iv' g)) (X : Stand p l e R s m args below meth c T locs cells slots) (hx : p.tables.exec = Jvm.exec) (hZ : Z.Warmed39 s.vm) (eT : T.heap = h) {j x : Int32} (h0 : 0 ≤ j.toInt) (h1 : j.toInt < n) {gf : JFrame} (hg : gf.method = m) {rest : List Value} (hs : gf.stack = .int x :: .int j :: .ref a :: rest) (hd : decode c.code gf.pc = .ok (.bastore, 1)) :
    ∃ T' h', Stand p l e R s m args below meth c T' (locs ++ [⟨a, j.toNatClampNeg⟩]) cells slots ∧ T'.heap = h' ∧ Wr h h' a j.toNatClampNeg (.int (nar .byte x)) ∧ OwnA Z h' a .byte n (iv' (updv g j.toInt.toNat x.toInt8.toInt32)) ∧ ∀ target, Steps p.tables e below (T'.setTop { gf with pc := gf.pc + 1, stack := rest }) target → Steps p.tables e below (T.setTop gf) target := by
  obtain ⟨cl, A, S, G⟩ := A
  obtain ⟨T', h', X', e', W, st⟩ := stB X hx hZ eT A (own_in S h0 h1) hg hs hd
  refine ⟨T', h', X', e', W, OwnA.congr (own_set A S G W (by show j.toInt.toNat < n; omega)) fun i hi => ?_, st⟩
  show (if i = j.toInt.toNat then Value.int (x.toInt8.toInt32) else .int (g i)) = .int (if i = j.toInt.toNat then x.toInt8.toInt32 else g i)
  by_cases u : i = j.toInt.toNat
  · rw [if_pos u, if_pos u]
  · rw [if_neg u, if_neg u]
theorem own_stI {g : Nat → Int32} (A : OwnA Z h a .int n (iv' g)) (X : Stand p l e R s m args below meth c T locs cells slots) (hx : p.tables.exec = Jvm.exec) (hZ : Z.Warmed39 s.vm) (eT : T.heap = h) {j x : Int32} (h0 : 0 ≤ j.toInt) (h1 : j.toInt < n) {gf : JFrame} (hg : gf.method = m) {rest : List Value} (hs : gf.stack = .int x :: .int j :: .ref a :: rest) (hd : decode c.code gf.pc = .ok (.iastore, 1)) :
    ∃ T' h', Stand p l e R s m args below meth c T' (locs ++ [⟨a, j.toNatClampNeg⟩]) cells slots ∧ T'.heap = h' ∧ Wr h h' a j.toNatClampNeg (.int x) ∧ OwnA Z h' a .int n (iv' (updv g j.toInt.toNat x)) ∧ ∀ target, Steps p.tables e below (T'.setTop { gf with pc := gf.pc + 1, stack := rest }) target → Steps p.tables e below (T.setTop gf) target := by
  obtain ⟨cl, A, S, G⟩ := A
  obtain ⟨T', h', X', e', W, st⟩ := stI X hx hZ eT A (own_in S h0 h1) hg hs hd
  refine ⟨T', h', X', e', W, OwnA.congr (own_set A S G W (by show j.toInt.toNat < n; omega)) fun i hi => ?_, st⟩
  show (if i = j.toInt.toNat then Value.int x else .int (g i)) = .int (if i = j.toInt.toNat then x else g i)
  by_cases u : i = j.toInt.toNat
  · rw [if_pos u, if_pos u]
  · rw [if_neg u, if_neg u]
theorem own_stJ {g : Nat → Int64} (A : OwnA Z h a .long n (jv' g)) (X : Stand p l e R s m args below meth c T locs cells slots) (hx : p.tables.exec = Jvm.exec) (hZ : Z.Warmed39 s.vm) (eT : T.heap = h) {j : Int32} {x : Int64} (h0 : 0 ≤ j.toInt) (h1 : j.toInt < n) {gf : JFrame} (hg : gf.method = m) {rest : List Value} (hs : gf.stack = .long x :: .int j :: .ref a :: rest) (hd : decode c.code gf.pc = .ok (.lastore, 1)) :
    ∃ T' h', Stand p l e R s m args below meth c T' (locs ++ [⟨a, j.toNatClampNeg⟩]) cells slots ∧ T'.heap = h' ∧ Wr h h' a j.toNatClampNeg (.long x) ∧ OwnA Z h' a .long n (jv' (updv g j.toInt.toNat x)) ∧ ∀ target, Steps p.tables e below (T'.setTop { gf with pc := gf.pc + 1, stack := rest }) target → Steps p.tables e below (T.setTop gf) target := by
  obtain ⟨cl, A, S, G⟩ := A
  obtain ⟨T', h', X', e', W, st⟩ := stJ X hx hZ eT A (own_in S h0 h1) hg hs hd
  refine ⟨T', h', X', e', W, OwnA.congr (own_set A S G W (by show j.toInt.toNat < n; omega)) fun i hi => ?_, st⟩
  show (if i = j.toInt.toNat then Value.long x else .long (g i)) = .long (if i = j.toInt.toNat then x else g i)
  by_cases u : i = j.toInt.toNat
  · rw [if_pos u, if_pos u]
  · rw [if_neg u, if_neg u]
theorem own_newA {k : ClassId} {z : Int32} (A : Arr Z h a (newA k ty z) ty) (hn : z.toInt = n) : OwnA Z h a ty n (fun _ => defaultValue ty) := by
  have e1 : z.toNatClampNeg = n := by show z.toInt.toNat = n; omega
  refine ⟨_, A, by rw [sz_new]; exact e1, fun i hi => ?_⟩
  show (Array.replicate z.toNatClampNeg (defaultValue ty))[i]? = _
  rw [e1, Array.getElem?_replicate, if_pos hi]
end Arrays
end Jvm.OwnKit
namespace Jvm.OwnKit
open Jvm.RoadKit
theorem own_split {w : Nat} (x m : BitVec w) : (x &&& ~~~m) + (x &&& m) = x := by
  rw [BitVec.add_eq_or_of_and_eq_zero]
  · ext i hi
    simp only [BitVec.getElem_or, BitVec.getElem_and, BitVec.getElem_not]
    cases x[i] <;> cases m[i] <;> rfl
  · ext i hi
    simp only [BitVec.getElem_and, BitVec.getElem_not, BitVec.getElem_zero]
    cases x[i] <;> cases m[i] <;> rfl
theorem own_hi (x m m' : Int32) (h : m' = ~~~m) : (x &&& m') + (x &&& m) = x := by
  subst h
  exact Int32.toBitVec_inj.mp (own_split x.toBitVec m.toBitVec)
theorem own_irem (x y : Int32) : x - (x / y) * y = x % y := by
  apply Int32.toInt_inj.mp
  have h1 := rng32 (x % y)
  have e := Int.mul_tdiv_add_tmod x.toInt y.toInt
  rw [Int32.toInt_mod] at h1 ⊢
  rw [Int32.toInt_sub, Int32.toInt_mul, Int32.toInt_div, Int.bmod_mul_bmod, Int.sub_bmod_bmod]
  rw [show x.toInt - x.toInt.tdiv y.toInt * y.toInt = x.toInt.tmod y.toInt by rw [Int.mul_comm]; omega]
  exact Int.bmod_eq_of_le_mul_two (by omega) (by omega)
end Jvm.OwnKit
namespace Jvm.OwnKit
open Jvm.RoadKit
theorem own_lushr (x : Int64) (q : Int32) (k : Nat) (hk : q.toBitVec.toNat % 64 = k) : ((x.toUInt64 >>> (q &&& 0x3f).toInt64.toUInt64).toInt64).toBitVec = x.toBitVec >>> k := by
  have h5 := (sm64 q k hk).2
  show x.toBitVec >>> ((q &&& 0x3f).toInt64.toBitVec % 64) = _
  rw [BitVec.ushiftRight_eq', BitVec.toNat_umod, (sm64 q k hk).1, BitVec.toNat_ofNat]
  congr 1
  show k % 2 ^ 64 % 64 = k
  omega
theorem own_lshl (x : Int64) (q : Int32) (k : Nat) (hk : q.toBitVec.toNat % 64 = k) : (x <<< (q &&& 0x3f).toInt64).toBitVec = x.toBitVec <<< k := by
  have h5 := (sm64 q k hk).2
  show x.toBitVec <<< ((q &&& 0x3f).toInt64.toBitVec.smod 64) = _
  rw [BitVec.shiftLeft_eq', (sm64 q k hk).1, smod64 k h5]
end Jvm.OwnKit
namespace Jvm.Pilot.@@N@@
open Jvm Jvm.ClassFile Sem Op Lib Jvm.Free Jvm.Stand Jvm.LawKit Jvm.RoadKit Bundle Jvm.Pilot.@@N@@.Jvm.D Jvm.OwnKit
/-- the t-th bit of the octets g 0, g 1, ..: the first is the highest of the first octet -/
def own_B (g : Nat → Int32) (t : Nat) : Bool := (g (t / 8)).toBitVec.getLsbD (7 - t % 8)
def own_bv (g : Nat → Int32) (t : Nat) : Nat → BitVec 64
  | 0 => 0#64
  | k + 1 => (own_bv g t k <<< 1) ||| (if own_B g (t + k) then 1#64 else 0#64)
def own_bits (g : Nat → Int32) (t k : Nat) : Int64 := Int64.ofBitVec (own_bv g t k)
theorem own_iushr (x q : Int32) (k : Nat) (hk : q.toBitVec.toNat % 32 = k) : ((x.toUInt32 >>> (q &&& 31).toUInt32).toInt32).toBitVec = x.toBitVec >>> k := by
  have h1 : (q &&& 31).toBitVec.toNat = k := by
    show (q.toBitVec &&& (31 : Int32).toBitVec).toNat = _
    rw [BitVec.toNat_and, show (31 : Int32).toBitVec.toNat = 2 ^ 5 - 1 from by decide, Nat.and_two_pow_sub_one_eq_mod]; exact hk
  show x.toBitVec >>> ((q &&& 31).toBitVec % 32) = _
  rw [BitVec.ushiftRight_eq', BitVec.toNat_umod, h1]
  congr 1
  show k % 32 = k
  omega
theorem own_oft (t : Nat) (h : t < 100000) : (Int64.ofNat t).toInt = t := Int64.toInt_ofNat_of_lt (by omega)
theorem own_idx (t : Nat) (h : t < 100000) : ((((Int64.ofNat t).toUInt64 >>> ((3 : Int32) &&& 0x3f).toInt64.toUInt64).toInt64).toInt32).toInt = ((t / 8 : Nat) : Int) := by
  have a := c_lushr (Int64.ofNat t) 3 3 (by decide) (by decide)
  rw [own_oft t h] at a
  have b := c_l2i (((Int64.ofNat t).toUInt64 >>> ((3 : Int32) &&& 0x3f).toInt64.toUInt64).toInt64)
  have r := rng32 ((((Int64.ofNat t).toUInt64 >>> ((3 : Int32) &&& 0x3f).toInt64.toUInt64).toInt64).toInt32)
  omega
theorem own_shf (t : Nat) (h : t < 100000) : (((7 : Int64) - ((Int64.ofNat t) &&& (7 : Int64))).toInt32).toInt = ((7 - t % 8 : Nat) : Int) := by
  have a := c_maskL (Int64.ofNat t) 7 3 (by decide) (by decide)
  rw [own_oft t h] at a
  have b := c_lsub 7 ((Int64.ofNat t) &&& (7 : Int64))
  have e : (7 : Int64).toInt = 7 := rfl
  have r := rng64 ((7 : Int64) - ((Int64.ofNat t) &&& (7 : Int64)))
  have d := c_l2i ((7 : Int64) - ((Int64.ofNat t) &&& (7 : Int64)))
  have r2 := rng32 (((7 : Int64) - ((Int64.ofNat t) &&& (7 : Int64))).toInt32)
  omega
theorem own_nat32 (x : Int32) (k : Nat) (h : x.toInt = k) : x.toBitVec.toNat = k := by
  have q : x.toBitVec.toInt = k := h
  rw [BitVec.toInt_eq_toNat_cond] at q
  have := x.toBitVec.isLt
  split at q <;> omega
theorem own_bt (g : Nat → Int32) (t : Nat) (h : t < 100000) (x : Int32) (hx : x = g (t / 8)) : (((((x &&& (255 : Int32)).toUInt32 >>> ((((7 : Int64) - ((Int64.ofNat t) &&& (7 : Int64))).toInt32) &&& 31).toUInt32).toInt32) &&& (1 : Int32)).toInt64).toBitVec = (if own_B g t then 1#64 else 0#64) := by
  have hs := own_nat32 _ _ (own_shf t h)
  rw [Int32.toBitVec_toInt64, Int32.toBitVec_and, own_iushr _ _ (7 - t % 8) (by rw [hs]; omega)]
  have e : ((x &&& (255 : Int32)).toBitVec >>> (7 - t % 8)) &&& (1 : Int32).toBitVec = if own_B g t then 1#32 else 0#32 := by
    apply BitVec.eq_of_getLsbD_eq
    intro i hi
    rw [BitVec.getLsbD_and, BitVec.getLsbD_ushiftRight, Int32.toBitVec_and, BitVec.getLsbD_and]
    have h1 : ((1 : Int32).toBitVec).getLsbD i = decide (i = 0) := by
      have q : ∀ j : Fin 32, ((1 : Int32).toBitVec).getLsbD j.1 = decide (j.1 = 0) := by decide
      exact q ⟨i, hi⟩
    rw [h1]
    by_cases c : i = 0
    · subst c
      have h2 : ((255 : Int32).toBitVec).getLsbD (7 - t % 8 + 0) = true := by
        have q : ∀ j : Fin 8, ((255 : Int32).toBitVec).getLsbD (j.1 + 0) = true := by decide
        exact q ⟨7 - t % 8, by omega⟩
      rw [h2]
      unfold own_B
      rw [hx]
      cases (g (t / 8)).toBitVec.getLsbD (7 - t % 8) <;> simp
    · have h3 : (if own_B g t = true then 1#32 else 0#32).getLsbD i = false := by
        cases own_B g t
        · simp
        · have q : ∀ j : Fin 32, j.1 ≠ 0 → (1#32).getLsbD j.1 = false := by decide
          exact q ⟨i, hi⟩ c
      rw [h3]; simp [c]
  rw [e]
  cases own_B g t <;> decide
theorem own_turn (g : Nat → Int32) (t k : Nat) (h : t + k < 100000) (x : Int32) (hx : x = g ((t + k) / 8)) : ((own_bits g t k) <<< ((1 : Int32) &&& 0x3f).toInt64) ||| (((((x &&& (255 : Int32)).toUInt32 >>> ((((7 : Int64) - ((Int64.ofNat (t + k)) &&& (7 : Int64))).toInt32) &&& 31).toUInt32).toInt32) &&& (1 : Int32)).toInt64) = own_bits g t (k + 1) := by
  apply Int64.toBitVec_inj.mp
  rw [Int64.toBitVec_or, own_lshl _ 1 1 (by decide), own_bt g (t + k) h x hx]
  rfl
theorem own_gb (g : Nat → Int32) (t : Nat) : ∀ (k i : Nat), k ≤ 64 → (own_bv g t k).getLsbD i = (decide (i < k) && own_B g (t + (k - 1 - i))) := by
  intro k
  induction k with
  | zero => intro i _; simp [own_bv]
  | succ k ih =>
    intro i hk
    show ((own_bv g t k <<< 1) ||| (if own_B g (t + k) then 1#64 else 0#64)).getLsbD i = _
    rw [BitVec.getLsbD_or, BitVec.getLsbD_shiftLeft]
    by_cases c : i = 0
    · subst c
      have e : (if own_B g (t + k) = true then 1#64 else 0#64).getLsbD 0 = own_B g (t + k) := by cases own_B g (t + k) <;> rfl
      rw [e]; simp
    · have e : (if own_B g (t + k) = true then 1#64 else 0#64).getLsbD i = false := by
        cases own_B g (t + k)
        · simp
        · by_cases d : i < 64
          · have q : ∀ j : Fin 64, j.1 ≠ 0 → (1#64).getLsbD j.1 = false := by decide
            exact q ⟨i, d⟩ c
          · exact BitVec.getLsbD_of_ge _ _ (by omega)
      rw [e, ih (i - 1) (by omega)]
      by_cases d : i < k + 1
      · simp [show i < 64 by omega, show ¬ i < 1 by omega, show i - 1 < k by omega, d, show k - 1 - (i - 1) = k + 1 - 1 - i by omega]
      · simp [show ¬ i - 1 < k by omega, d]
theorem d1_0 : decode prog_10_method_1_code 0 = .ok (.aload_n 0, 1) := by decide +kernel
theorem d1_1 : decode prog_10_method_1_code 1 = .ok (.invokespecial 1, 3) := by decide +kernel
theorem d1_4 : decode prog_10_method_1_code 4 = .ok (.aload_n 0, 1) := by decide +kernel
theorem d1_5 : decode prog_10_method_1_code 5 = .ok (.aload_n 1, 1) := by decide +kernel
theorem d1_6 : decode prog_10_method_1_code 6 = .ok (.putfield 7, 3) := by decide +kernel
theorem d1_9 : decode prog_10_method_1_code 9 = .ok (.return_, 1) := by decide +kernel
theorem pn_1 : plainName "com/example/ubicacion/ubicacion/lmf/AlignedPer$Reader" = true := by first | (simp [plainName, overriddenIn]; done) | decide +kernel
theorem ef_1 (m : MethodId) (a1 : Addr) (a2 : Addr) : entryFrame m #[(.ref a1), (.ref a2)] 2 = mkF m 0 #[.val (.ref a1), .val (.ref a2)] [] := by first | (simp [entryFrame, mkF, argsToLocals, Value.category]; done) | rfl
def Q1 (Z : State) (a1 a2 : Addr) (h0 : Heap) (n0 : Nat) (v : Option Value) (h : Heap) (L : List Loc) : Prop := v = none ∧ Fr n0 L ∧ Keep h0 h [a1] ∧ Exa Z h a1 "com/example/ubicacion/ubicacion/lmf/AlignedPer$Reader" ∧ Fld Z h a1 "com/example/ubicacion/ubicacion/lmf/AlignedPer$Reader" "encoding" "[B" (.ref a2) ∧ Fld Z h a1 "com/example/ubicacion/ubicacion/lmf/AlignedPer$Reader" "position" "J" (.long (0 : Int64))
set_option maxRecDepth 65536 in
set_option maxHeartbeats 40000000 in
theorem rm1 (l : Launch) (Z : State) (a0 : Array Value) (hw : ∀ d ∈ tables_1, d.before a0 Z = true) (ws : List Jvm.Cond) (a1 : Addr) (a2 : Addr)  (h0 : Heap) (n0 : Nat) (Z0 : n0 ≤ h0.size) (gb_a1 : n0 ≤ a1) (E_a1 : Exa Z h0 a1 "com/example/ubicacion/ubicacion/lmf/AlignedPer$Reader") (Fe : Fld Z h0 a1 "com/example/ubicacion/ubicacion/lmf/AlignedPer$Reader" "encoding" "[B" .null) (Fp : Fld Z h0 a1 "com/example/ubicacion/ubicacion/lmf/AlignedPer$Reader" "position" "J" (.long (0 : Int64))) :
    MetFree l (⟨"com/example/ubicacion/ubicacion/lmf/AlignedPer$Reader", "<init>", "([B)V"⟩ : MethodName) (head1 (Jvm.Cond.code (⟨"com/example/ubicacion/ubicacion/lmf/AlignedPer$Reader", "<init>", "([B)V"⟩ : MethodName) prog_10_method_1_code 2 none :: ws) ({ frames := 1, cells := 0, slots := 0, locals := 12 } : Room)) (fun a U => a = #[(.ref a1), (.ref a2)] ∧ Z.Warmed39 U.vm ∧ U.heap = h0) (fun _ _ _ _ _ => True) (fun _ U o U' => ∃ v L, o = .returned v ∧ Q1 Z a1 a2 h0 n0 v U'.heap L ∧ FrameEnd U o U' L ({ frames := 1, cells := 0, slots := 0, locals := 12 } : Room).cells ({ frames := 1, cells := 0, slots := 0, locals := 12 } : Room).slots) := by
  refine MetFree.of_bodySF (plainFor_of_name pn_1) hisR ?_
  intro p e s m args below meth c s₁ Bd hml0 hP hK
  obtain ⟨rfl, hZ, hh⟩ := hP
  have hx := Bd.exec
  have hby := Bd.bytes
  have hml : c.maxLocals = 2 := hml0
  have hown : s.vm.findClass "com/example/ubicacion/ubicacion/lmf/AlignedPer$Reader" = some m.cls := findClass_of_methodNamed Bd.named
  have hnm := (name_of_methodNamed Bd.named Bd.method).1
  have X0 : Stand p l e ({ frames := 1, cells := 0, slots := 0, locals := 12 } : Room) s m #[(.ref a1), (.ref a2)] below meth c s₁ [] 0 0 := Stand.of_body Bd
  have e0 : s₁.heap = h0 := by rw [← hh, Bd.state]; rfl
  have N0 := Fr.nil n0
  suffices hG : OwnG p e below s (Q1 Z a1 a2 h0 n0) ({ frames := 1, cells := 0, slots := 0, locals := 12 } : Room).cells ({ frames := 1, cells := 0, slots := 0, locals := 12 } : Room).slots s₁ (mkF m 0 #[.val (.ref a1), .val (.ref a2)] []) by
    obtain ⟨s2, o2, g1, g2⟩ := hG
    exact ⟨s2, o2, castTop (ef_1 m a1 a2) g1, g2⟩
  have sg1 : ∀ tgt, Steps p.tables e below (s₁.setTop (mkF m 1 #[.val (.ref a1), .val (.ref a2)] [(.ref a1)])) tgt → Steps p.tables e below (s₁.setTop (mkF m 0 #[.val (.ref a1), .val (.ref a2)] [])) tgt := by
    intro tgt kt
    refine XS.aloadN X0.here hx rfl (hb hby d1_0) rfl rfl ?_
    show Steps p.tables e below (s₁.setTop (mkF m 1 #[.val (.ref a1), .val (.ref a2)] [(.ref a1)])) _
    exact kt
  refine OwnG.st sg1 ?_
  obtain ⟨T2, X2, e2, st2⟩ := initO X0 hx hZ hown (hw _ (List.mem_of_getElem? (i := 7) rfl)) (hw _ (List.mem_of_getElem? (i := 8) rfl)) (hw _ (List.mem_of_getElem? (i := 9) rfl)) e0 (g := (mkF m 1 #[.val (.ref a1), .val (.ref a2)] [(.ref a1)])) rfl (by rw [hml]; rfl) rfl (hb hby d1_1) (by decide) (W := 0) (by show 2 * 0 + _ ≤ _; exact Nat.le_of_eq rfl) (by decide)
  refine OwnG.st st2 ?_
  show OwnG p e below s _ _ _ T2 (mkF m 4 #[.val (.ref a1), .val (.ref a2)] [])
  have sg3 : ∀ tgt, Steps p.tables e below (T2.setTop (mkF m 6 #[.val (.ref a1), .val (.ref a2)] [(.ref a2), (.ref a1)])) tgt → Steps p.tables e below (T2.setTop (mkF m 4 #[.val (.ref a1), .val (.ref a2)] [])) tgt := by
    intro tgt kt
    refine XS.aloadN X2.here hx rfl (hb hby d1_4) rfl rfl ?_
    show Steps p.tables e below (T2.setTop (mkF m 5 #[.val (.ref a1), .val (.ref a2)] [(.ref a1)])) _
    refine XS.aloadN X2.here hx rfl (hb hby d1_5) rfl rfl ?_
    show Steps p.tables e below (T2.setTop (mkF m 6 #[.val (.ref a1), .val (.ref a2)] [(.ref a2), (.ref a1)])) _
    exact kt
  refine OwnG.st sg3 ?_
  obtain ⟨T4, h4, X4, e4, W4, st4⟩ := putF X2 hx hZ hown (host := "") (Or.inl (hw _ (List.mem_of_getElem? (i := 10) rfl))) Via.refl e2 Fe E_a1 (Or.inr ⟨(hw _ (List.mem_of_getElem? (i := 11) rfl)), rfl, hnm⟩) (hw _ (List.mem_of_getElem? (i := 2) rfl)) (ty := (.array .byte)) (by decide) rfl rfl (g := (mkF m 6 #[.val (.ref a1), .val (.ref a2)] [(.ref a2), (.ref a1)])) rfl rfl (hb hby d1_6)
  have fE_a1_5 := (Exa.wr W4 E_a1)
  have fF_a1_position_6 := (Fld.other W4 Fp (Or.inr (slot_ne (Or.inl (hw _ (List.mem_of_getElem? (i := 18) rfl))) (Or.inr (hw _ (List.mem_of_getElem? (i := 11) rfl))) (by decide) (t := .long) (t' := (.array .byte)) (by decide) (by decide))))
  have Fw4 : Fld Z h4 a1 "com/example/ubicacion/ubicacion/lmf/AlignedPer$Reader" "encoding" "[B" (.ref a2) := Fld.same W4 Fe
  have N4 := Fr.snoc X4 N0 gb_a1
  have Z4 : n0 ≤ h4.size := by rw [W4.size]; exact Z0
  have K4 : Keep h0 h4 [a1] := (Keep.refl h0 [a1]).wr W4 (Or.inl (by simp))
  refine OwnG.st st4 ?_
  show OwnG p e below s _ _ _ T4 (mkF m 9 #[.val (.ref a1), .val (.ref a2)] [])
  exact OwnG.retV X4 hx Bd.returns (BodyLoose.notSynchronized Bd) (hb hby d1_9) (by rw [e4]; exact ⟨rfl, N4, K4, fE_a1_5, Fw4, fF_a1_position_6⟩) (by decide) (by decide)
theorem own_i1 (i : Int32) (h0 : 0 ≤ i.toInt) (h1 : i.toInt < 100000) : (i + 1).toInt = i.toInt + 1 ∧ (i + 1).toInt.toNat = i.toInt.toNat + 1 := by
  have h := c_iadd i 1
  have r := rng32 (i + 1)
  have e : (1 : Int32).toInt = 1 := rfl
  omega
theorem own_o1 (t i : Nat) : Int64.ofNat (t + (i + 1)) = Int64.ofNat (t + i) + 1 := by
  rw [← Nat.add_assoc, Int64.ofNat_add]; rfl
theorem own_ix3 (t : Nat) (h : t < 100000) : ((((Int64.ofNat t).toUInt64 >>> ((3 : Int32) &&& 0x3f).toInt64.toUInt64).toInt64).toInt32).toInt.toNat = t / 8 := by
  have a := own_idx t h
  omega
theorem own_fit (t n : Nat) (k : Int32) (h0 : 0 ≤ k.toInt) (h1 : t + k.toInt.toNat ≤ 8 * n) (h2 : n ≤ 1000) : ¬ (((8 : Int64) * (n.toInt32.toInt64)) < ((Int64.ofNat t) + (k.toInt64))) := by
  have a1 : n.toInt32.toInt = n := Int32.toInt_ofNat_of_lt (by omega)
  have a2 := c_i2l n.toInt32
  have a3 := c_lmul 8 n.toInt32.toInt64
  have e : (8 : Int64).toInt = 8 := rfl
  rw [e] at a3
  have r3 := rng64 ((8 : Int64) * (n.toInt32.toInt64))
  have a4 := own_oft t (by omega)
  have a5 := c_i2l k
  have a6 := c_ladd (Int64.ofNat t) k.toInt64
  have r6 := rng64 ((Int64.ofNat t) + (k.toInt64))
  rw [Int64.lt_iff_toInt_lt]
  omega
theorem d3_0 : decode prog_10_method_3_code 0 = .ok (.aload_n 0, 1) := by decide +kernel
theorem d3_1 : decode prog_10_method_3_code 1 = .ok (.getfield 17, 3) := by decide +kernel
theorem d3_4 : decode prog_10_method_3_code 4 = .ok (.iload_n 1, 1) := by decide +kernel
theorem d3_5 : decode prog_10_method_3_code 5 = .ok (.i2l, 1) := by decide +kernel
theorem d3_6 : decode prog_10_method_3_code 6 = .ok (.ladd, 1) := by decide +kernel
theorem d3_7 : decode prog_10_method_3_code 7 = .ok (.ldc2_w 21, 3) := by decide +kernel
theorem d3_10 : decode prog_10_method_3_code 10 = .ok (.aload_n 0, 1) := by decide +kernel
theorem d3_11 : decode prog_10_method_3_code 11 = .ok (.getfield 7, 3) := by decide +kernel
theorem d3_14 : decode prog_10_method_3_code 14 = .ok (.arraylength, 1) := by decide +kernel
theorem d3_15 : decode prog_10_method_3_code 15 = .ok (.i2l, 1) := by decide +kernel
theorem d3_16 : decode prog_10_method_3_code 16 = .ok (.lmul, 1) := by decide +kernel
theorem d3_17 : decode prog_10_method_3_code 17 = .ok (.lcmp, 1) := by decide +kernel
theorem d3_18 : decode prog_10_method_3_code 18 = .ok (.ifCond .le 38, 3) := by decide +kernel
theorem d3_56 : decode prog_10_method_3_code 56 = .ok (.lconst 0, 1) := by decide +kernel
theorem d3_57 : decode prog_10_method_3_code 57 = .ok (.lstore_n 2, 1) := by decide +kernel
theorem d3_58 : decode prog_10_method_3_code 58 = .ok (.iconst 0, 1) := by decide +kernel
theorem d3_59 : decode prog_10_method_3_code 59 = .ok (.istore 4, 2) := by decide +kernel
theorem d3_61 : decode prog_10_method_3_code 61 = .ok (.iload 4, 2) := by decide +kernel
theorem d3_63 : decode prog_10_method_3_code 63 = .ok (.iload_n 1, 1) := by decide +kernel
theorem d3_64 : decode prog_10_method_3_code 64 = .ok (.if_icmp .ge 61, 3) := by decide +kernel
theorem d3_67 : decode prog_10_method_3_code 67 = .ok (.aload_n 0, 1) := by decide +kernel
theorem d3_68 : decode prog_10_method_3_code 68 = .ok (.getfield 7, 3) := by decide +kernel
theorem d3_71 : decode prog_10_method_3_code 71 = .ok (.aload_n 0, 1) := by decide +kernel
theorem d3_72 : decode prog_10_method_3_code 72 = .ok (.getfield 17, 3) := by decide +kernel
theorem d3_75 : decode prog_10_method_3_code 75 = .ok (.iconst 3, 1) := by decide +kernel
theorem d3_76 : decode prog_10_method_3_code 76 = .ok (.lushr, 1) := by decide +kernel
theorem d3_77 : decode prog_10_method_3_code 77 = .ok (.l2i, 1) := by decide +kernel
theorem d3_78 : decode prog_10_method_3_code 78 = .ok (.baload, 1) := by decide +kernel
theorem d3_79 : decode prog_10_method_3_code 79 = .ok (.sipush 255, 3) := by decide +kernel
theorem d3_82 : decode prog_10_method_3_code 82 = .ok (.iand, 1) := by decide +kernel
theorem d3_83 : decode prog_10_method_3_code 83 = .ok (.istore 5, 2) := by decide +kernel
theorem d3_85 : decode prog_10_method_3_code 85 = .ok (.lload_n 2, 1) := by decide +kernel
theorem d3_86 : decode prog_10_method_3_code 86 = .ok (.iconst 1, 1) := by decide +kernel
theorem d3_87 : decode prog_10_method_3_code 87 = .ok (.lshl, 1) := by decide +kernel
theorem d3_88 : decode prog_10_method_3_code 88 = .ok (.iload 5, 2) := by decide +kernel
theorem d3_90 : decode prog_10_method_3_code 90 = .ok (.ldc2_w 32, 3) := by decide +kernel
theorem d3_93 : decode prog_10_method_3_code 93 = .ok (.aload_n 0, 1) := by decide +kernel
theorem d3_94 : decode prog_10_method_3_code 94 = .ok (.getfield 17, 3) := by decide +kernel
theorem d3_97 : decode prog_10_method_3_code 97 = .ok (.ldc2_w 32, 3) := by decide +kernel
theorem d3_100 : decode prog_10_method_3_code 100 = .ok (.land, 1) := by decide +kernel
theorem d3_101 : decode prog_10_method_3_code 101 = .ok (.lsub, 1) := by decide +kernel
theorem d3_102 : decode prog_10_method_3_code 102 = .ok (.l2i, 1) := by decide +kernel
theorem d3_103 : decode prog_10_method_3_code 103 = .ok (.iushr, 1) := by decide +kernel
theorem d3_104 : decode prog_10_method_3_code 104 = .ok (.iconst 1, 1) := by decide +kernel
theorem d3_105 : decode prog_10_method_3_code 105 = .ok (.iand, 1) := by decide +kernel
theorem d3_106 : decode prog_10_method_3_code 106 = .ok (.i2l, 1) := by decide +kernel
theorem d3_107 : decode prog_10_method_3_code 107 = .ok (.lor, 1) := by decide +kernel
theorem d3_108 : decode prog_10_method_3_code 108 = .ok (.lstore_n 2, 1) := by decide +kernel
theorem d3_109 : decode prog_10_method_3_code 109 = .ok (.aload_n 0, 1) := by decide +kernel
theorem d3_110 : decode prog_10_method_3_code 110 = .ok (.dup, 1) := by decide +kernel
theorem d3_111 : decode prog_10_method_3_code 111 = .ok (.getfield 17, 3) := by decide +kernel
theorem d3_114 : decode prog_10_method_3_code 114 = .ok (.lconst 1, 1) := by decide +kernel
theorem d3_115 : decode prog_10_method_3_code 115 = .ok (.ladd, 1) := by decide +kernel
theorem d3_116 : decode prog_10_method_3_code 116 = .ok (.putfield 17, 3) := by decide +kernel
theorem d3_119 : decode prog_10_method_3_code 119 = .ok (.iinc 4 1, 3) := by decide +kernel
theorem d3_122 : decode prog_10_method_3_code 122 = .ok (.goto (-61), 3) := by decide +kernel
theorem d3_125 : decode prog_10_method_3_code 125 = .ok (.lload_n 2, 1) := by decide +kernel
theorem d3_126 : decode prog_10_method_3_code 126 = .ok (.lreturn, 1) := by decide +kernel
theorem pn_3 : plainName "com/example/ubicacion/ubicacion/lmf/AlignedPer$Reader" = true := by first | (simp [plainName, overriddenIn]; done) | decide +kernel
theorem ef_3 (m : MethodId) (a1 : Addr) (p2 : Int32) : entryFrame m #[(.ref a1), (.int p2)] 6 = mkF m 0 #[.val (.ref a1), .val (.int p2), .unset, .unset, .unset, .unset] [] := by first | (simp [entryFrame, mkF, argsToLocals, Value.category]; done) | rfl
def Q3 (Z : State) (a1 : Addr) (p2 : Int32) (b : Addr) (t n : Nat) (g : Nat → Int32) (h0 : Heap) (n0 : Nat) (v : Option Value) (h : Heap) (L : List Loc) : Prop := v = some (.long (own_bits g t p2.toInt.toNat)) ∧ Fr n0 L ∧ Keep h0 h [a1] ∧ Exa Z h a1 "com/example/ubicacion/ubicacion/lmf/AlignedPer$Reader" ∧ Fld Z h a1 "com/example/ubicacion/ubicacion/lmf/AlignedPer$Reader" "encoding" "[B" (.ref b) ∧ Fld Z h a1 "com/example/ubicacion/ubicacion/lmf/AlignedPer$Reader" "position" "J" (.long (Int64.ofNat (t + p2.toInt.toNat)))
set_option maxRecDepth 65536 in
set_option maxHeartbeats 40000000 in
theorem rm3 (l : Launch) (Z : State) (a0 : Array Value) (hw : ∀ d ∈ tables_1, d.before a0 Z = true) (ws : List Jvm.Cond) (a1 : Addr) (p2 : Int32) (b : Addr) (t n : Nat) (g : Nat → Int32) (h0 : Heap) (n0 : Nat) (Z0 : n0 ≤ h0.size) (gb_a1 : n0 ≤ a1) (E_a1 : Exa Z h0 a1 "com/example/ubicacion/ubicacion/lmf/AlignedPer$Reader") (Fe : Fld Z h0 a1 "com/example/ubicacion/ubicacion/lmf/AlignedPer$Reader" "encoding" "[B" (.ref b)) (Fp : Fld Z h0 a1 "com/example/ubicacion/ubicacion/lmf/AlignedPer$Reader" "position" "J" (.long (Int64.ofNat t))) (A_b : OwnA Z h0 b .byte n (iv' g)) (ne_b : b ≠ a1) (hs0 : 0 ≤ p2.toInt) (hs1 : t + p2.toInt.toNat ≤ 8 * n) (hs2 : n ≤ 1000) :
    MetFree l (⟨"com/example/ubicacion/ubicacion/lmf/AlignedPer$Reader", "bits", "(I)J"⟩ : MethodName) (head1 (Jvm.Cond.code (⟨"com/example/ubicacion/ubicacion/lmf/AlignedPer$Reader", "bits", "(I)J"⟩ : MethodName) prog_10_method_3_code 6 (some .long) :: ws) ({ frames := 0, cells := 0, slots := 0, locals := 0 } : Room)) (fun a U => a = #[(.ref a1), (.int p2)] ∧ Z.Warmed39 U.vm ∧ U.heap = h0) (fun _ _ _ _ _ => True) (fun _ U o U' => ∃ v L, o = .returned v ∧ Q3 Z a1 p2 b t n g h0 n0 v U'.heap L ∧ FrameEnd U o U' L ({ frames := 0, cells := 0, slots := 0, locals := 0 } : Room).cells ({ frames := 0, cells := 0, slots := 0, locals := 0 } : Room).slots) := by
  refine MetFree.of_bodySF (plainFor_of_name pn_3) hisR ?_
  intro p e s m args below meth c s₁ Bd hml0 hP hK
  obtain ⟨rfl, hZ, hh⟩ := hP
  have hx := Bd.exec
  have hby := Bd.bytes
  have hml : c.maxLocals = 6 := hml0
  have hown : s.vm.findClass "com/example/ubicacion/ubicacion/lmf/AlignedPer$Reader" = some m.cls := findClass_of_methodNamed Bd.named
  have hnm := (name_of_methodNamed Bd.named Bd.method).1
  have X0 : Stand p l e ({ frames := 0, cells := 0, slots := 0, locals := 0 } : Room) s m #[(.ref a1), (.int p2)] below meth c s₁ [] 0 0 := Stand.of_body Bd
  have e0 : s₁.heap = h0 := by rw [← hh, Bd.state]; rfl
  have N0 := Fr.nil n0
  suffices hG : OwnG p e below s (Q3 Z a1 p2 b t n g h0 n0) ({ frames := 0, cells := 0, slots := 0, locals := 0 } : Room).cells ({ frames := 0, cells := 0, slots := 0, locals := 0 } : Room).slots s₁ (mkF m 0 #[.val (.ref a1), .val (.int p2), .unset, .unset, .unset, .unset] []) by
    obtain ⟨s2, o2, g1, g2⟩ := hG
    exact ⟨s2, o2, castTop (ef_3 m a1 p2) g1, g2⟩
  have sg1 : ∀ tgt, Steps p.tables e below (s₁.setTop (mkF m 1 #[.val (.ref a1), .val (.int p2), .unset, .unset, .unset, .unset] [(.ref a1)])) tgt → Steps p.tables e below (s₁.setTop (mkF m 0 #[.val (.ref a1), .val (.int p2), .unset, .unset, .unset, .unset] [])) tgt := by
    intro tgt kt
    refine XS.aloadN X0.here hx rfl (hb hby d3_0) rfl rfl ?_
    show Steps p.tables e below (s₁.setTop (mkF m 1 #[.val (.ref a1), .val (.int p2), .unset, .unset, .unset, .unset] [(.ref a1)])) _
    exact kt
  refine OwnG.st sg1 ?_
  obtain ⟨T2, X2, e2, st2⟩ := getF X0 hx hZ hown (host := "") (Or.inl (hw _ (List.mem_of_getElem? (i := 17) rfl))) Via.refl e0 Fp (g := (mkF m 1 #[.val (.ref a1), .val (.int p2), .unset, .unset, .unset, .unset] [(.ref a1)])) rfl rfl (hb hby d3_1)
  refine OwnG.st st2 ?_
  show OwnG p e below s _ _ _ T2 (mkF m 4 #[.val (.ref a1), .val (.int p2), .unset, .unset, .unset, .unset] [(.long (Int64.ofNat t))])
  have sg3 : ∀ tgt, Steps p.tables e below (T2.setTop (mkF m 11 #[.val (.ref a1), .val (.int p2), .unset, .unset, .unset, .unset] [(.ref a1), (.long (8 : Int64)), (.long ((Int64.ofNat t) + (p2.toInt64)))])) tgt → Steps p.tables e below (T2.setTop (mkF m 4 #[.val (.ref a1), .val (.int p2), .unset, .unset, .unset, .unset] [(.long (Int64.ofNat t))])) tgt := by
    intro tgt kt
    refine XS.iloadN X2.here hx rfl (hb hby d3_4) rfl ?_
    show Steps p.tables e below (T2.setTop (mkF m 5 #[.val (.ref a1), .val (.int p2), .unset, .unset, .unset, .unset] [(.int p2), (.long (Int64.ofNat t))])) _
    refine XS.i2l X2.here hx rfl (hb hby d3_5) rfl ?_
    show Steps p.tables e below (T2.setTop (mkF m 6 #[.val (.ref a1), .val (.int p2), .unset, .unset, .unset, .unset] [(.long (p2.toInt64)), (.long (Int64.ofNat t))])) _
    refine XS.ladd X2.here hx rfl (hb hby d3_6) rfl ?_
    show Steps p.tables e below (T2.setTop (mkF m 7 #[.val (.ref a1), .val (.int p2), .unset, .unset, .unset, .unset] [(.long ((Int64.ofNat t) + (p2.toInt64)))])) _
    refine X2.ldc2Long hx hown (mvT hZ (hw _ (List.mem_of_getElem? (i := 19) rfl))) (g := (mkF m 7 #[.val (.ref a1), .val (.int p2), .unset, .unset, .unset, .unset] [(.long ((Int64.ofNat t) + (p2.toInt64)))])) rfl (hb hby d3_7) _ ?_
    show Steps p.tables e below (T2.setTop (mkF m 10 #[.val (.ref a1), .val (.int p2), .unset, .unset, .unset, .unset] [(.long (8 : Int64)), (.long ((Int64.ofNat t) + (p2.toInt64)))])) _
    refine XS.aloadN X2.here hx rfl (hb hby d3_10) rfl rfl ?_
    show Steps p.tables e below (T2.setTop (mkF m 11 #[.val (.ref a1), .val (.int p2), .unset, .unset, .unset, .unset] [(.ref a1), (.long (8 : Int64)), (.long ((Int64.ofNat t) + (p2.toInt64)))])) _
    exact kt
  refine OwnG.st sg3 ?_
  obtain ⟨T4, X4, e4, st4⟩ := getF X2 hx hZ hown (host := "") (Or.inl (hw _ (List.mem_of_getElem? (i := 10) rfl))) Via.refl e2 Fe (g := (mkF m 11 #[.val (.ref a1), .val (.int p2), .unset, .unset, .unset, .unset] [(.ref a1), (.long (8 : Int64)), (.long ((Int64.ofNat t) + (p2.toInt64)))])) rfl rfl (hb hby d3_11)
  refine OwnG.st st4 ?_
  show OwnG p e below s _ _ _ T4 (mkF m 14 #[.val (.ref a1), .val (.int p2), .unset, .unset, .unset, .unset] [(.ref b), (.long (8 : Int64)), (.long ((Int64.ofNat t) + (p2.toInt64)))])
  have hc18_5 : ¬ (((8 : Int64) * ((n.toInt32).toInt64)) < ((Int64.ofNat t) + (p2.toInt64))) := own_fit t n p2 hs0 hs1 hs2
  have sg6 : ∀ tgt, Steps p.tables e below (T4.setTop (mkF m 61 #[.val (.ref a1), .val (.int p2), .val (.long (0 : Int64)), .second, .val (.int (0 : Int32)), .unset] [])) tgt → Steps p.tables e below (T4.setTop (mkF m 14 #[.val (.ref a1), .val (.int p2), .unset, .unset, .unset, .unset] [(.ref b), (.long (8 : Int64)), (.long ((Int64.ofNat t) + (p2.toInt64)))])) tgt := by
    intro tgt kt
    refine own_len A_b X4 hx hZ e4 (gf := (mkF m 14 #[.val (.ref a1), .val (.int p2), .unset, .unset, .unset, .unset] [(.ref b), (.long (8 : Int64)), (.long ((Int64.ofNat t) + (p2.toInt64)))])) rfl rfl (hb hby d3_14) _ ?_
    show Steps p.tables e below (T4.setTop (mkF m 15 #[.val (.ref a1), .val (.int p2), .unset, .unset, .unset, .unset] [(.int (n.toInt32)), (.long (8 : Int64)), (.long ((Int64.ofNat t) + (p2.toInt64)))])) _
    refine XS.i2l X4.here hx rfl (hb hby d3_15) rfl ?_
    show Steps p.tables e below (T4.setTop (mkF m 16 #[.val (.ref a1), .val (.int p2), .unset, .unset, .unset, .unset] [(.long ((n.toInt32).toInt64)), (.long (8 : Int64)), (.long ((Int64.ofNat t) + (p2.toInt64)))])) _
    refine XS.lmul X4.here hx rfl (hb hby d3_16) rfl ?_
    show Steps p.tables e below (T4.setTop (mkF m 17 #[.val (.ref a1), .val (.int p2), .unset, .unset, .unset, .unset] [(.long ((8 : Int64) * ((n.toInt32).toInt64))), (.long ((Int64.ofNat t) + (p2.toInt64)))])) _
    refine XS.lcmp X4.here hx rfl (hb hby d3_17) rfl ?_
    show Steps p.tables e below (T4.setTop (mkF m 18 #[.val (.ref a1), .val (.int p2), .unset, .unset, .unset, .unset] [(.int (lcmpW ((Int64.ofNat t) + (p2.toInt64)) ((8 : Int64) * ((n.toInt32).toInt64))))])) _
    refine XS.ifYes X4.here hx rfl (pc0 := 18) (pc' := 56) rfl (hb hby d3_18) rfl ((if0 _ _).trans (flt (mt (lw_gt ((Int64.ofNat t) + (p2.toInt64)) ((8 : Int64) * ((n.toInt32).toInt64))).mp hc18_5)).2.2.2) (by decide) (by decide) ?_
    show Steps p.tables e below (T4.setTop (mkF m 56 #[.val (.ref a1), .val (.int p2), .unset, .unset, .unset, .unset] [])) _
    refine XS.lconst X4.here hx rfl (hb hby d3_56) ?_
    show Steps p.tables e below (T4.setTop (mkF m 57 #[.val (.ref a1), .val (.int p2), .unset, .unset, .unset, .unset] [(.long (0 : Int64))])) _
    refine XS.lstoreN X4.here hx rfl (hb hby d3_57) rfl (l' := #[.val (.ref a1), .val (.int p2), .val (.long (0 : Int64)), .second, .unset, .unset]) rfl ?_
    show Steps p.tables e below (T4.setTop (mkF m 58 #[.val (.ref a1), .val (.int p2), .val (.long (0 : Int64)), .second, .unset, .unset] [])) _
    refine XS.iconst X4.here hx rfl (hb hby d3_58) ?_
    show Steps p.tables e below (T4.setTop (mkF m 59 #[.val (.ref a1), .val (.int p2), .val (.long (0 : Int64)), .second, .unset, .unset] [(.int (0 : Int32))])) _
    refine XS.istore X4.here hx rfl (hb hby d3_59) rfl (l' := #[.val (.ref a1), .val (.int p2), .val (.long (0 : Int64)), .second, .val (.int (0 : Int32)), .unset]) rfl ?_
    show Steps p.tables e below (T4.setTop (mkF m 61 #[.val (.ref a1), .val (.int p2), .val (.long (0 : Int64)), .second, .val (.int (0 : Int32)), .unset] [])) _
    exact kt
  refine OwnG.st sg6 ?_
  have lp7 : ∀ (k : Nat) (T : State) (lc : List Loc) (hh : Heap) (v2 : Int64) (i4 : Int32) (s5 : Slot) (X : Stand p l e ({ frames := 0, cells := 0, slots := 0, locals := 0 } : Room) s m #[(.ref a1), (.int p2)] below meth c T lc 0 0) (eT : T.heap = hh) (N : Fr n0 lc) (Hx : Exa Z hh a1 "com/example/ubicacion/ubicacion/lmf/AlignedPer$Reader") (Hf : Fld Z hh a1 "com/example/ubicacion/ubicacion/lmf/AlignedPer$Reader" "encoding" "[B" (.ref b)) (Hp : Fld Z hh a1 "com/example/ubicacion/ubicacion/lmf/AlignedPer$Reader" "position" "J" (.long (Int64.ofNat (t + i4.toInt.toNat)))) (Ha : OwnA Z hh b .byte n (iv' g)) (Hk : Keep h0 hh [a1]) (Hz : n0 ≤ hh.size) (hI : v2 = own_bits g t i4.toInt.toNat) (hi0 : 0 ≤ i4.toInt) (hi1 : i4.toInt ≤ p2.toInt) (hs5 : One s5), (p2.toInt - i4.toInt).toNat = k → OwnG p e below s (Q3 Z a1 p2 b t n g h0 n0) ({ frames := 0, cells := 0, slots := 0, locals := 0 } : Room).cells ({ frames := 0, cells := 0, slots := 0, locals := 0 } : Room).slots T (mkF m 61 #[.val (.ref a1), .val (.int p2), .val (.long v2), .second, .val (.int i4), s5] []) := by
    intro k
    induction k using Nat.strongRecOn with
    | _ k ih =>
      intro T lc hh v2 i4 s5 X eT N Hx Hf Hp Ha Hk Hz hI hi0 hi1 hs5 hk
      have sg8 : ∀ tgt, Steps p.tables e below (T.setTop (mkF m 64 #[.val (.ref a1), .val (.int p2), .val (.long v2), .second, .val (.int i4), s5] [(.int p2), (.int i4)])) tgt → Steps p.tables e below (T.setTop (mkF m 61 #[.val (.ref a1), .val (.int p2), .val (.long v2), .second, .val (.int i4), s5] [])) tgt := by
        intro tgt kt
        refine XS.iload X.here hx rfl (hb hby d3_61) rfl ?_
        show Steps p.tables e below (T.setTop (mkF m 63 #[.val (.ref a1), .val (.int p2), .val (.long v2), .second, .val (.int i4), s5] [(.int i4)])) _
        refine XS.iloadN X.here hx rfl (hb hby d3_63) rfl ?_
        show Steps p.tables e below (T.setTop (mkF m 64 #[.val (.ref a1), .val (.int p2), .val (.long v2), .second, .val (.int i4), s5] [(.int p2), (.int i4)])) _
        exact kt
      refine OwnG.st sg8 ?_
      by_cases hc64_9 : i4 < p2
      · have sg10 : ∀ tgt, Steps p.tables e below (T.setTop (mkF m 68 #[.val (.ref a1), .val (.int p2), .val (.long v2), .second, .val (.int i4), s5] [(.ref a1)])) tgt → Steps p.tables e below (T.setTop (mkF m 64 #[.val (.ref a1), .val (.int p2), .val (.long v2), .second, .val (.int i4), s5] [(.int p2), (.int i4)])) tgt := by
          intro tgt kt
          refine XS.icmpNo X.here hx rfl (hb hby d3_64) rfl (tlt hc64_9).2.1 ?_
          show Steps p.tables e below (T.setTop (mkF m 67 #[.val (.ref a1), .val (.int p2), .val (.long v2), .second, .val (.int i4), s5] [])) _
          refine XS.aloadN X.here hx rfl (hb hby d3_67) rfl rfl ?_
          show Steps p.tables e below (T.setTop (mkF m 68 #[.val (.ref a1), .val (.int p2), .val (.long v2), .second, .val (.int i4), s5] [(.ref a1)])) _
          exact kt
        refine OwnG.st sg10 ?_
        obtain ⟨T11, X11, e11, st11⟩ := getF X hx hZ hown (host := "") (Or.inl (hw _ (List.mem_of_getElem? (i := 10) rfl))) Via.refl eT Hf (g := (mkF m 68 #[.val (.ref a1), .val (.int p2), .val (.long v2), .second, .val (.int i4), s5] [(.ref a1)])) rfl rfl (hb hby d3_68)
        refine OwnG.st st11 ?_
        show OwnG p e below s _ _ _ T11 (mkF m 71 #[.val (.ref a1), .val (.int p2), .val (.long v2), .second, .val (.int i4), s5] [(.ref b)])
        have sg12 : ∀ tgt, Steps p.tables e below (T11.setTop (mkF m 72 #[.val (.ref a1), .val (.int p2), .val (.long v2), .second, .val (.int i4), s5] [(.ref a1), (.ref b)])) tgt → Steps p.tables e below (T11.setTop (mkF m 71 #[.val (.ref a1), .val (.int p2), .val (.long v2), .second, .val (.int i4), s5] [(.ref b)])) tgt := by
          intro tgt kt
          refine XS.aloadN X11.here hx rfl (hb hby d3_71) rfl rfl ?_
          show Steps p.tables e below (T11.setTop (mkF m 72 #[.val (.ref a1), .val (.int p2), .val (.long v2), .second, .val (.int i4), s5] [(.ref a1), (.ref b)])) _
          exact kt
        refine OwnG.st sg12 ?_
        obtain ⟨T13, X13, e13, st13⟩ := getF X11 hx hZ hown (host := "") (Or.inl (hw _ (List.mem_of_getElem? (i := 17) rfl))) Via.refl e11 Hp (g := (mkF m 72 #[.val (.ref a1), .val (.int p2), .val (.long v2), .second, .val (.int i4), s5] [(.ref a1), (.ref b)])) rfl rfl (hb hby d3_72)
        refine OwnG.st st13 ?_
        show OwnG p e below s _ _ _ T13 (mkF m 75 #[.val (.ref a1), .val (.int p2), .val (.long v2), .second, .val (.int i4), s5] [(.long (Int64.ofNat (t + i4.toInt.toNat))), (.ref b)])
        have sg14 : ∀ tgt, Steps p.tables e below (T13.setTop (mkF m 94 #[.val (.ref a1), .val (.int p2), .val (.long v2), .second, .val (.int i4), .val (.int ((g ((((Int64.ofNat (t + i4.toInt.toNat)).toUInt64 >>> ((3 : Int32) &&& 0x3f).toInt64.toUInt64).toInt64).toInt32).toInt.toNat) &&& (255 : Int32)))] [(.ref a1), (.long (7 : Int64)), (.int ((g ((((Int64.ofNat (t + i4.toInt.toNat)).toUInt64 >>> ((3 : Int32) &&& 0x3f).toInt64.toUInt64).toInt64).toInt32).toInt.toNat) &&& (255 : Int32))), (.long (v2 <<< ((1 : Int32) &&& 0x3f).toInt64))])) tgt → Steps p.tables e below (T13.setTop (mkF m 75 #[.val (.ref a1), .val (.int p2), .val (.long v2), .second, .val (.int i4), s5] [(.long (Int64.ofNat (t + i4.toInt.toNat))), (.ref b)])) tgt := by
          intro tgt kt
          refine XS.iconst X13.here hx rfl (hb hby d3_75) ?_
          show Steps p.tables e below (T13.setTop (mkF m 76 #[.val (.ref a1), .val (.int p2), .val (.long v2), .second, .val (.int i4), s5] [(.int (3 : Int32)), (.long (Int64.ofNat (t + i4.toInt.toNat))), (.ref b)])) _
          refine XS.lushr X13.here hx rfl (hb hby d3_76) rfl ?_
          show Steps p.tables e below (T13.setTop (mkF m 77 #[.val (.ref a1), .val (.int p2), .val (.long v2), .second, .val (.int i4), s5] [(.long (((Int64.ofNat (t + i4.toInt.toNat)).toUInt64 >>> ((3 : Int32) &&& 0x3f).toInt64.toUInt64).toInt64)), (.ref b)])) _
          refine XS.l2i X13.here hx rfl (hb hby d3_77) rfl ?_
          show Steps p.tables e below (T13.setTop (mkF m 78 #[.val (.ref a1), .val (.int p2), .val (.long v2), .second, .val (.int i4), s5] [(.int ((((Int64.ofNat (t + i4.toInt.toNat)).toUInt64 >>> ((3 : Int32) &&& 0x3f).toInt64.toUInt64).toInt64).toInt32)), (.ref b)])) _
          refine own_ldB Ha X13 hx hZ e13 (by rw [own_idx _ (by omega)]; omega) (by have q := Int32.lt_iff_toInt_lt.mp hc64_9; rw [own_idx _ (by omega)]; omega) (gf := (mkF m 78 #[.val (.ref a1), .val (.int p2), .val (.long v2), .second, .val (.int i4), s5] [(.int ((((Int64.ofNat (t + i4.toInt.toNat)).toUInt64 >>> ((3 : Int32) &&& 0x3f).toInt64.toUInt64).toInt64).toInt32)), (.ref b)])) rfl rfl (hb hby d3_78) _ ?_
          show Steps p.tables e below (T13.setTop (mkF m 79 #[.val (.ref a1), .val (.int p2), .val (.long v2), .second, .val (.int i4), s5] [(.int (g ((((Int64.ofNat (t + i4.toInt.toNat)).toUInt64 >>> ((3 : Int32) &&& 0x3f).toInt64.toUInt64).toInt64).toInt32).toInt.toNat))])) _
          refine XS.sipush X13.here hx rfl (hb hby d3_79) ?_
          show Steps p.tables e below (T13.setTop (mkF m 82 #[.val (.ref a1), .val (.int p2), .val (.long v2), .second, .val (.int i4), s5] [(.int (255 : Int32)), (.int (g ((((Int64.ofNat (t + i4.toInt.toNat)).toUInt64 >>> ((3 : Int32) &&& 0x3f).toInt64.toUInt64).toInt64).toInt32).toInt.toNat))])) _
          refine XS.iand X13.here hx rfl (hb hby d3_82) rfl ?_
          show Steps p.tables e below (T13.setTop (mkF m 83 #[.val (.ref a1), .val (.int p2), .val (.long v2), .second, .val (.int i4), s5] [(.int ((g ((((Int64.ofNat (t + i4.toInt.toNat)).toUInt64 >>> ((3 : Int32) &&& 0x3f).toInt64.toUInt64).toInt64).toInt32).toInt.toNat) &&& (255 : Int32)))])) _
          refine XS.istoreS X13.here hx rfl (hb hby d3_83) rfl rfl hs5 ?_
          show Steps p.tables e below (T13.setTop (mkF m 85 #[.val (.ref a1), .val (.int p2), .val (.long v2), .second, .val (.int i4), .val (.int ((g ((((Int64.ofNat (t + i4.toInt.toNat)).toUInt64 >>> ((3 : Int32) &&& 0x3f).toInt64.toUInt64).toInt64).toInt32).toInt.toNat) &&& (255 : Int32)))] [])) _
          refine XS.lloadN X13.here hx rfl (hb hby d3_85) rfl ?_
          show Steps p.tables e below (T13.setTop (mkF m 86 #[.val (.ref a1), .val (.int p2), .val (.long v2), .second, .val (.int i4), .val (.int ((g ((((Int64.ofNat (t + i4.toInt.toNat)).toUInt64 >>> ((3 : Int32) &&& 0x3f).toInt64.toUInt64).toInt64).toInt32).toInt.toNat) &&& (255 : Int32)))] [(.long v2)])) _
          refine XS.iconst X13.here hx rfl (hb hby d3_86) ?_
          show Steps p.tables e below (T13.setTop (mkF m 87 #[.val (.ref a1), .val (.int p2), .val (.long v2), .second, .val (.int i4), .val (.int ((g ((((Int64.ofNat (t + i4.toInt.toNat)).toUInt64 >>> ((3 : Int32) &&& 0x3f).toInt64.toUInt64).toInt64).toInt32).toInt.toNat) &&& (255 : Int32)))] [(.int (1 : Int32)), (.long v2)])) _
          refine XS.lshl X13.here hx rfl (hb hby d3_87) rfl ?_
          show Steps p.tables e below (T13.setTop (mkF m 88 #[.val (.ref a1), .val (.int p2), .val (.long v2), .second, .val (.int i4), .val (.int ((g ((((Int64.ofNat (t + i4.toInt.toNat)).toUInt64 >>> ((3 : Int32) &&& 0x3f).toInt64.toUInt64).toInt64).toInt32).toInt.toNat) &&& (255 : Int32)))] [(.long (v2 <<< ((1 : Int32) &&& 0x3f).toInt64))])) _
          refine XS.iload X13.here hx rfl (hb hby d3_88) rfl ?_
          show Steps p.tables e below (T13.setTop (mkF m 90 #[.val (.ref a1), .val (.int p2), .val (.long v2), .second, .val (.int i4), .val (.int ((g ((((Int64.ofNat (t + i4.toInt.toNat)).toUInt64 >>> ((3 : Int32) &&& 0x3f).toInt64.toUInt64).toInt64).toInt32).toInt.toNat) &&& (255 : Int32)))] [(.int ((g ((((Int64.ofNat (t + i4.toInt.toNat)).toUInt64 >>> ((3 : Int32) &&& 0x3f).toInt64.toUInt64).toInt64).toInt32).toInt.toNat) &&& (255 : Int32))), (.long (v2 <<< ((1 : Int32) &&& 0x3f).toInt64))])) _
          refine X13.ldc2Long hx hown (mvT hZ (hw _ (List.mem_of_getElem? (i := 20) rfl))) (g := (mkF m 90 #[.val (.ref a1), .val (.int p2), .val (.long v2), .second, .val (.int i4), .val (.int ((g ((((Int64.ofNat (t + i4.toInt.toNat)).toUInt64 >>> ((3 : Int32) &&& 0x3f).toInt64.toUInt64).toInt64).toInt32).toInt.toNat) &&& (255 : Int32)))] [(.int ((g ((((Int64.ofNat (t + i4.toInt.toNat)).toUInt64 >>> ((3 : Int32) &&& 0x3f).toInt64.toUInt64).toInt64).toInt32).toInt.toNat) &&& (255 : Int32))), (.long (v2 <<< ((1 : Int32) &&& 0x3f).toInt64))])) rfl (hb hby d3_90) _ ?_
          show Steps p.tables e below (T13.setTop (mkF m 93 #[.val (.ref a1), .val (.int p2), .val (.long v2), .second, .val (.int i4), .val (.int ((g ((((Int64.ofNat (t + i4.toInt.toNat)).toUInt64 >>> ((3 : Int32) &&& 0x3f).toInt64.toUInt64).toInt64).toInt32).toInt.toNat) &&& (255 : Int32)))] [(.long (7 : Int64)), (.int ((g ((((Int64.ofNat (t + i4.toInt.toNat)).toUInt64 >>> ((3 : Int32) &&& 0x3f).toInt64.toUInt64).toInt64).toInt32).toInt.toNat) &&& (255 : Int32))), (.long (v2 <<< ((1 : Int32) &&& 0x3f).toInt64))])) _
          refine XS.aloadN X13.here hx rfl (hb hby d3_93) rfl rfl ?_
          show Steps p.tables e below (T13.setTop (mkF m 94 #[.val (.ref a1), .val (.int p2), .val (.long v2), .second, .val (.int i4), .val (.int ((g ((((Int64.ofNat (t + i4.toInt.toNat)).toUInt64 >>> ((3 : Int32) &&& 0x3f).toInt64.toUInt64).toInt64).toInt32).toInt.toNat) &&& (255 : Int32)))] [(.ref a1), (.long (7 : Int64)), (.int ((g ((((Int64.ofNat (t + i4.toInt.toNat)).toUInt64 >>> ((3 : Int32) &&& 0x3f).toInt64.toUInt64).toInt64).toInt32).toInt.toNat) &&& (255 : Int32))), (.long (v2 <<< ((1 : Int32) &&& 0x3f).toInt64))])) _
          exact kt
        refine OwnG.st sg14 ?_
        obtain ⟨T15, X15, e15, st15⟩ := getF X13 hx hZ hown (host := "") (Or.inl (hw _ (List.mem_of_getElem? (i := 17) rfl))) Via.refl e13 Hp (g := (mkF m 94 #[.val (.ref a1), .val (.int p2), .val (.long v2), .second, .val (.int i4), .val (.int ((g ((((Int64.ofNat (t + i4.toInt.toNat)).toUInt64 >>> ((3 : Int32) &&& 0x3f).toInt64.toUInt64).toInt64).toInt32).toInt.toNat) &&& (255 : Int32)))] [(.ref a1), (.long (7 : Int64)), (.int ((g ((((Int64.ofNat (t + i4.toInt.toNat)).toUInt64 >>> ((3 : Int32) &&& 0x3f).toInt64.toUInt64).toInt64).toInt32).toInt.toNat) &&& (255 : Int32))), (.long (v2 <<< ((1 : Int32) &&& 0x3f).toInt64))])) rfl rfl (hb hby d3_94)
        refine OwnG.st st15 ?_
        show OwnG p e below s _ _ _ T15 (mkF m 97 #[.val (.ref a1), .val (.int p2), .val (.long v2), .second, .val (.int i4), .val (.int ((g ((((Int64.ofNat (t + i4.toInt.toNat)).toUInt64 >>> ((3 : Int32) &&& 0x3f).toInt64.toUInt64).toInt64).toInt32).toInt.toNat) &&& (255 : Int32)))] [(.long (Int64.ofNat (t + i4.toInt.toNat))), (.long (7 : Int64)), (.int ((g ((((Int64.ofNat (t + i4.toInt.toNat)).toUInt64 >>> ((3 : Int32) &&& 0x3f).toInt64.toUInt64).toInt64).toInt32).toInt.toNat) &&& (255 : Int32))), (.long (v2 <<< ((1 : Int32) &&& 0x3f).toInt64))])
        have sg16 : ∀ tgt, Steps p.tables e below (T15.setTop (mkF m 111 #[.val (.ref a1), .val (.int p2), .val (.long ((v2 <<< ((1 : Int32) &&& 0x3f).toInt64) ||| ((((((g ((((Int64.ofNat (t + i4.toInt.toNat)).toUInt64 >>> ((3 : Int32) &&& 0x3f).toInt64.toUInt64).toInt64).toInt32).toInt.toNat) &&& (255 : Int32)).toUInt32 >>> ((((7 : Int64) - ((Int64.ofNat (t + i4.toInt.toNat)) &&& (7 : Int64))).toInt32) &&& 31).toUInt32).toInt32) &&& (1 : Int32)).toInt64))), .second, .val (.int i4), .val (.int ((g ((((Int64.ofNat (t + i4.toInt.toNat)).toUInt64 >>> ((3 : Int32) &&& 0x3f).toInt64.toUInt64).toInt64).toInt32).toInt.toNat) &&& (255 : Int32)))] [(.ref a1), (.ref a1)])) tgt → Steps p.tables e below (T15.setTop (mkF m 97 #[.val (.ref a1), .val (.int p2), .val (.long v2), .second, .val (.int i4), .val (.int ((g ((((Int64.ofNat (t + i4.toInt.toNat)).toUInt64 >>> ((3 : Int32) &&& 0x3f).toInt64.toUInt64).toInt64).toInt32).toInt.toNat) &&& (255 : Int32)))] [(.long (Int64.ofNat (t + i4.toInt.toNat))), (.long (7 : Int64)), (.int ((g ((((Int64.ofNat (t + i4.toInt.toNat)).toUInt64 >>> ((3 : Int32) &&& 0x3f).toInt64.toUInt64).toInt64).toInt32).toInt.toNat) &&& (255 : Int32))), (.long (v2 <<< ((1 : Int32) &&& 0x3f).toInt64))])) tgt := by
          intro tgt kt
          refine X15.ldc2Long hx hown (mvT hZ (hw _ (List.mem_of_getElem? (i := 20) rfl))) (g := (mkF m 97 #[.val (.ref a1), .val (.int p2), .val (.long v2), .second, .val (.int i4), .val (.int ((g ((((Int64.ofNat (t + i4.toInt.toNat)).toUInt64 >>> ((3 : Int32) &&& 0x3f).toInt64.toUInt64).toInt64).toInt32).toInt.toNat) &&& (255 : Int32)))] [(.long (Int64.ofNat (t + i4.toInt.toNat))), (.long (7 : Int64)), (.int ((g ((((Int64.ofNat (t + i4.toInt.toNat)).toUInt64 >>> ((3 : Int32) &&& 0x3f).toInt64.toUInt64).toInt64).toInt32).toInt.toNat) &&& (255 : Int32))), (.long (v2 <<< ((1 : Int32) &&& 0x3f).toInt64))])) rfl (hb hby d3_97) _ ?_
          show Steps p.tables e below (T15.setTop (mkF m 100 #[.val (.ref a1), .val (.int p2), .val (.long v2), .second, .val (.int i4), .val (.int ((g ((((Int64.ofNat (t + i4.toInt.toNat)).toUInt64 >>> ((3 : Int32) &&& 0x3f).toInt64.toUInt64).toInt64).toInt32).toInt.toNat) &&& (255 : Int32)))] [(.long (7 : Int64)), (.long (Int64.ofNat (t + i4.toInt.toNat))), (.long (7 : Int64)), (.int ((g ((((Int64.ofNat (t + i4.toInt.toNat)).toUInt64 >>> ((3 : Int32) &&& 0x3f).toInt64.toUInt64).toInt64).toInt32).toInt.toNat) &&& (255 : Int32))), (.long (v2 <<< ((1 : Int32) &&& 0x3f).toInt64))])) _
          refine XS.land X15.here hx rfl (hb hby d3_100) rfl ?_
          show Steps p.tables e below (T15.setTop (mkF m 101 #[.val (.ref a1), .val (.int p2), .val (.long v2), .second, .val (.int i4), .val (.int ((g ((((Int64.ofNat (t + i4.toInt.toNat)).toUInt64 >>> ((3 : Int32) &&& 0x3f).toInt64.toUInt64).toInt64).toInt32).toInt.toNat) &&& (255 : Int32)))] [(.long ((Int64.ofNat (t + i4.toInt.toNat)) &&& (7 : Int64))), (.long (7 : Int64)), (.int ((g ((((Int64.ofNat (t + i4.toInt.toNat)).toUInt64 >>> ((3 : Int32) &&& 0x3f).toInt64.toUInt64).toInt64).toInt32).toInt.toNat) &&& (255 : Int32))), (.long (v2 <<< ((1 : Int32) &&& 0x3f).toInt64))])) _
          refine XS.lsub X15.here hx rfl (hb hby d3_101) rfl ?_
          show Steps p.tables e below (T15.setTop (mkF m 102 #[.val (.ref a1), .val (.int p2), .val (.long v2), .second, .val (.int i4), .val (.int ((g ((((Int64.ofNat (t + i4.toInt.toNat)).toUInt64 >>> ((3 : Int32) &&& 0x3f).toInt64.toUInt64).toInt64).toInt32).toInt.toNat) &&& (255 : Int32)))] [(.long ((7 : Int64) - ((Int64.ofNat (t + i4.toInt.toNat)) &&& (7 : Int64)))), (.int ((g ((((Int64.ofNat (t + i4.toInt.toNat)).toUInt64 >>> ((3 : Int32) &&& 0x3f).toInt64.toUInt64).toInt64).toInt32).toInt.toNat) &&& (255 : Int32))), (.long (v2 <<< ((1 : Int32) &&& 0x3f).toInt64))])) _
          refine XS.l2i X15.here hx rfl (hb hby d3_102) rfl ?_
          show Steps p.tables e below (T15.setTop (mkF m 103 #[.val (.ref a1), .val (.int p2), .val (.long v2), .second, .val (.int i4), .val (.int ((g ((((Int64.ofNat (t + i4.toInt.toNat)).toUInt64 >>> ((3 : Int32) &&& 0x3f).toInt64.toUInt64).toInt64).toInt32).toInt.toNat) &&& (255 : Int32)))] [(.int (((7 : Int64) - ((Int64.ofNat (t + i4.toInt.toNat)) &&& (7 : Int64))).toInt32)), (.int ((g ((((Int64.ofNat (t + i4.toInt.toNat)).toUInt64 >>> ((3 : Int32) &&& 0x3f).toInt64.toUInt64).toInt64).toInt32).toInt.toNat) &&& (255 : Int32))), (.long (v2 <<< ((1 : Int32) &&& 0x3f).toInt64))])) _
          refine XS.iushr X15.here hx rfl (hb hby d3_103) rfl ?_
          show Steps p.tables e below (T15.setTop (mkF m 104 #[.val (.ref a1), .val (.int p2), .val (.long v2), .second, .val (.int i4), .val (.int ((g ((((Int64.ofNat (t + i4.toInt.toNat)).toUInt64 >>> ((3 : Int32) &&& 0x3f).toInt64.toUInt64).toInt64).toInt32).toInt.toNat) &&& (255 : Int32)))] [(.int ((((g ((((Int64.ofNat (t + i4.toInt.toNat)).toUInt64 >>> ((3 : Int32) &&& 0x3f).toInt64.toUInt64).toInt64).toInt32).toInt.toNat) &&& (255 : Int32)).toUInt32 >>> ((((7 : Int64) - ((Int64.ofNat (t + i4.toInt.toNat)) &&& (7 : Int64))).toInt32) &&& 31).toUInt32).toInt32)), (.long (v2 <<< ((1 : Int32) &&& 0x3f).toInt64))])) _
          refine XS.iconst X15.here hx rfl (hb hby d3_104) ?_
          show Steps p.tables e below (T15.setTop (mkF m 105 #[.val (.ref a1), .val (.int p2), .val (.long v2), .second, .val (.int i4), .val (.int ((g ((((Int64.ofNat (t + i4.toInt.toNat)).toUInt64 >>> ((3 : Int32) &&& 0x3f).toInt64.toUInt64).toInt64).toInt32).toInt.toNat) &&& (255 : Int32)))] [(.int (1 : Int32)), (.int ((((g ((((Int64.ofNat (t + i4.toInt.toNat)).toUInt64 >>> ((3 : Int32) &&& 0x3f).toInt64.toUInt64).toInt64).toInt32).toInt.toNat) &&& (255 : Int32)).toUInt32 >>> ((((7 : Int64) - ((Int64.ofNat (t + i4.toInt.toNat)) &&& (7 : Int64))).toInt32) &&& 31).toUInt32).toInt32)), (.long (v2 <<< ((1 : Int32) &&& 0x3f).toInt64))])) _
          refine XS.iand X15.here hx rfl (hb hby d3_105) rfl ?_
          show Steps p.tables e below (T15.setTop (mkF m 106 #[.val (.ref a1), .val (.int p2), .val (.long v2), .second, .val (.int i4), .val (.int ((g ((((Int64.ofNat (t + i4.toInt.toNat)).toUInt64 >>> ((3 : Int32) &&& 0x3f).toInt64.toUInt64).toInt64).toInt32).toInt.toNat) &&& (255 : Int32)))] [(.int (((((g ((((Int64.ofNat (t + i4.toInt.toNat)).toUInt64 >>> ((3 : Int32) &&& 0x3f).toInt64.toUInt64).toInt64).toInt32).toInt.toNat) &&& (255 : Int32)).toUInt32 >>> ((((7 : Int64) - ((Int64.ofNat (t + i4.toInt.toNat)) &&& (7 : Int64))).toInt32) &&& 31).toUInt32).toInt32) &&& (1 : Int32))), (.long (v2 <<< ((1 : Int32) &&& 0x3f).toInt64))])) _
          refine XS.i2l X15.here hx rfl (hb hby d3_106) rfl ?_
          show Steps p.tables e below (T15.setTop (mkF m 107 #[.val (.ref a1), .val (.int p2), .val (.long v2), .second, .val (.int i4), .val (.int ((g ((((Int64.ofNat (t + i4.toInt.toNat)).toUInt64 >>> ((3 : Int32) &&& 0x3f).toInt64.toUInt64).toInt64).toInt32).toInt.toNat) &&& (255 : Int32)))] [(.long ((((((g ((((Int64.ofNat (t + i4.toInt.toNat)).toUInt64 >>> ((3 : Int32) &&& 0x3f).toInt64.toUInt64).toInt64).toInt32).toInt.toNat) &&& (255 : Int32)).toUInt32 >>> ((((7 : Int64) - ((Int64.ofNat (t + i4.toInt.toNat)) &&& (7 : Int64))).toInt32) &&& 31).toUInt32).toInt32) &&& (1 : Int32)).toInt64)), (.long (v2 <<< ((1 : Int32) &&& 0x3f).toInt64))])) _
          refine XS.lor X15.here hx rfl (hb hby d3_107) rfl ?_
          show Steps p.tables e below (T15.setTop (mkF m 108 #[.val (.ref a1), .val (.int p2), .val (.long v2), .second, .val (.int i4), .val (.int ((g ((((Int64.ofNat (t + i4.toInt.toNat)).toUInt64 >>> ((3 : Int32) &&& 0x3f).toInt64.toUInt64).toInt64).toInt32).toInt.toNat) &&& (255 : Int32)))] [(.long ((v2 <<< ((1 : Int32) &&& 0x3f).toInt64) ||| ((((((g ((((Int64.ofNat (t + i4.toInt.toNat)).toUInt64 >>> ((3 : Int32) &&& 0x3f).toInt64.toUInt64).toInt64).toInt32).toInt.toNat) &&& (255 : Int32)).toUInt32 >>> ((((7 : Int64) - ((Int64.ofNat (t + i4.toInt.toNat)) &&& (7 : Int64))).toInt32) &&& 31).toUInt32).toInt32) &&& (1 : Int32)).toInt64)))])) _
          refine XS.lstoreN X15.here hx rfl (hb hby d3_108) rfl (l' := #[.val (.ref a1), .val (.int p2), .val (.long ((v2 <<< ((1 : Int32) &&& 0x3f).toInt64) ||| ((((((g ((((Int64.ofNat (t + i4.toInt.toNat)).toUInt64 >>> ((3 : Int32) &&& 0x3f).toInt64.toUInt64).toInt64).toInt32).toInt.toNat) &&& (255 : Int32)).toUInt32 >>> ((((7 : Int64) - ((Int64.ofNat (t + i4.toInt.toNat)) &&& (7 : Int64))).toInt32) &&& 31).toUInt32).toInt32) &&& (1 : Int32)).toInt64))), .second, .val (.int i4), .val (.int ((g ((((Int64.ofNat (t + i4.toInt.toNat)).toUInt64 >>> ((3 : Int32) &&& 0x3f).toInt64.toUInt64).toInt64).toInt32).toInt.toNat) &&& (255 : Int32)))]) rfl ?_
          show Steps p.tables e below (T15.setTop (mkF m 109 #[.val (.ref a1), .val (.int p2), .val (.long ((v2 <<< ((1 : Int32) &&& 0x3f).toInt64) ||| ((((((g ((((Int64.ofNat (t + i4.toInt.toNat)).toUInt64 >>> ((3 : Int32) &&& 0x3f).toInt64.toUInt64).toInt64).toInt32).toInt.toNat) &&& (255 : Int32)).toUInt32 >>> ((((7 : Int64) - ((Int64.ofNat (t + i4.toInt.toNat)) &&& (7 : Int64))).toInt32) &&& 31).toUInt32).toInt32) &&& (1 : Int32)).toInt64))), .second, .val (.int i4), .val (.int ((g ((((Int64.ofNat (t + i4.toInt.toNat)).toUInt64 >>> ((3 : Int32) &&& 0x3f).toInt64.toUInt64).toInt64).toInt32).toInt.toNat) &&& (255 : Int32)))] [])) _
          refine XS.aloadN X15.here hx rfl (hb hby d3_109) rfl rfl ?_
          show Steps p.tables e below (T15.setTop (mkF m 110 #[.val (.ref a1), .val (.int p2), .val (.long ((v2 <<< ((1 : Int32) &&& 0x3f).toInt64) ||| ((((((g ((((Int64.ofNat (t + i4.toInt.toNat)).toUInt64 >>> ((3 : Int32) &&& 0x3f).toInt64.toUInt64).toInt64).toInt32).toInt.toNat) &&& (255 : Int32)).toUInt32 >>> ((((7 : Int64) - ((Int64.ofNat (t + i4.toInt.toNat)) &&& (7 : Int64))).toInt32) &&& 31).toUInt32).toInt32) &&& (1 : Int32)).toInt64))), .second, .val (.int i4), .val (.int ((g ((((Int64.ofNat (t + i4.toInt.toNat)).toUInt64 >>> ((3 : Int32) &&& 0x3f).toInt64.toUInt64).toInt64).toInt32).toInt.toNat) &&& (255 : Int32)))] [(.ref a1)])) _
          refine XS.dup X15.here hx rfl (hb hby d3_110) rfl rfl ?_
          show Steps p.tables e below (T15.setTop (mkF m 111 #[.val (.ref a1), .val (.int p2), .val (.long ((v2 <<< ((1 : Int32) &&& 0x3f).toInt64) ||| ((((((g ((((Int64.ofNat (t + i4.toInt.toNat)).toUInt64 >>> ((3 : Int32) &&& 0x3f).toInt64.toUInt64).toInt64).toInt32).toInt.toNat) &&& (255 : Int32)).toUInt32 >>> ((((7 : Int64) - ((Int64.ofNat (t + i4.toInt.toNat)) &&& (7 : Int64))).toInt32) &&& 31).toUInt32).toInt32) &&& (1 : Int32)).toInt64))), .second, .val (.int i4), .val (.int ((g ((((Int64.ofNat (t + i4.toInt.toNat)).toUInt64 >>> ((3 : Int32) &&& 0x3f).toInt64.toUInt64).toInt64).toInt32).toInt.toNat) &&& (255 : Int32)))] [(.ref a1), (.ref a1)])) _
          exact kt
        refine OwnG.st sg16 ?_
        obtain ⟨T17, X17, e17, st17⟩ := getF X15 hx hZ hown (host := "") (Or.inl (hw _ (List.mem_of_getElem? (i := 17) rfl))) Via.refl e15 Hp (g := (mkF m 111 #[.val (.ref a1), .val (.int p2), .val (.long ((v2 <<< ((1 : Int32) &&& 0x3f).toInt64) ||| ((((((g ((((Int64.ofNat (t + i4.toInt.toNat)).toUInt64 >>> ((3 : Int32) &&& 0x3f).toInt64.toUInt64).toInt64).toInt32).toInt.toNat) &&& (255 : Int32)).toUInt32 >>> ((((7 : Int64) - ((Int64.ofNat (t + i4.toInt.toNat)) &&& (7 : Int64))).toInt32) &&& 31).toUInt32).toInt32) &&& (1 : Int32)).toInt64))), .second, .val (.int i4), .val (.int ((g ((((Int64.ofNat (t + i4.toInt.toNat)).toUInt64 >>> ((3 : Int32) &&& 0x3f).toInt64.toUInt64).toInt64).toInt32).toInt.toNat) &&& (255 : Int32)))] [(.ref a1), (.ref a1)])) rfl rfl (hb hby d3_111)
        refine OwnG.st st17 ?_
        show OwnG p e below s _ _ _ T17 (mkF m 114 #[.val (.ref a1), .val (.int p2), .val (.long ((v2 <<< ((1 : Int32) &&& 0x3f).toInt64) ||| ((((((g ((((Int64.ofNat (t + i4.toInt.toNat)).toUInt64 >>> ((3 : Int32) &&& 0x3f).toInt64.toUInt64).toInt64).toInt32).toInt.toNat) &&& (255 : Int32)).toUInt32 >>> ((((7 : Int64) - ((Int64.ofNat (t + i4.toInt.toNat)) &&& (7 : Int64))).toInt32) &&& 31).toUInt32).toInt32) &&& (1 : Int32)).toInt64))), .second, .val (.int i4), .val (.int ((g ((((Int64.ofNat (t + i4.toInt.toNat)).toUInt64 >>> ((3 : Int32) &&& 0x3f).toInt64.toUInt64).toInt64).toInt32).toInt.toNat) &&& (255 : Int32)))] [(.long (Int64.ofNat (t + i4.toInt.toNat))), (.ref a1)])
        have sg18 : ∀ tgt, Steps p.tables e below (T17.setTop (mkF m 116 #[.val (.ref a1), .val (.int p2), .val (.long ((v2 <<< ((1 : Int32) &&& 0x3f).toInt64) ||| ((((((g ((((Int64.ofNat (t + i4.toInt.toNat)).toUInt64 >>> ((3 : Int32) &&& 0x3f).toInt64.toUInt64).toInt64).toInt32).toInt.toNat) &&& (255 : Int32)).toUInt32 >>> ((((7 : Int64) - ((Int64.ofNat (t + i4.toInt.toNat)) &&& (7 : Int64))).toInt32) &&& 31).toUInt32).toInt32) &&& (1 : Int32)).toInt64))), .second, .val (.int i4), .val (.int ((g ((((Int64.ofNat (t + i4.toInt.toNat)).toUInt64 >>> ((3 : Int32) &&& 0x3f).toInt64.toUInt64).toInt64).toInt32).toInt.toNat) &&& (255 : Int32)))] [(.long ((Int64.ofNat (t + i4.toInt.toNat)) + (1 : Int64))), (.ref a1)])) tgt → Steps p.tables e below (T17.setTop (mkF m 114 #[.val (.ref a1), .val (.int p2), .val (.long ((v2 <<< ((1 : Int32) &&& 0x3f).toInt64) ||| ((((((g ((((Int64.ofNat (t + i4.toInt.toNat)).toUInt64 >>> ((3 : Int32) &&& 0x3f).toInt64.toUInt64).toInt64).toInt32).toInt.toNat) &&& (255 : Int32)).toUInt32 >>> ((((7 : Int64) - ((Int64.ofNat (t + i4.toInt.toNat)) &&& (7 : Int64))).toInt32) &&& 31).toUInt32).toInt32) &&& (1 : Int32)).toInt64))), .second, .val (.int i4), .val (.int ((g ((((Int64.ofNat (t + i4.toInt.toNat)).toUInt64 >>> ((3 : Int32) &&& 0x3f).toInt64.toUInt64).toInt64).toInt32).toInt.toNat) &&& (255 : Int32)))] [(.long (Int64.ofNat (t + i4.toInt.toNat))), (.ref a1)])) tgt := by
          intro tgt kt
          refine XS.lconst X17.here hx rfl (hb hby d3_114) ?_
          show Steps p.tables e below (T17.setTop (mkF m 115 #[.val (.ref a1), .val (.int p2), .val (.long ((v2 <<< ((1 : Int32) &&& 0x3f).toInt64) ||| ((((((g ((((Int64.ofNat (t + i4.toInt.toNat)).toUInt64 >>> ((3 : Int32) &&& 0x3f).toInt64.toUInt64).toInt64).toInt32).toInt.toNat) &&& (255 : Int32)).toUInt32 >>> ((((7 : Int64) - ((Int64.ofNat (t + i4.toInt.toNat)) &&& (7 : Int64))).toInt32) &&& 31).toUInt32).toInt32) &&& (1 : Int32)).toInt64))), .second, .val (.int i4), .val (.int ((g ((((Int64.ofNat (t + i4.toInt.toNat)).toUInt64 >>> ((3 : Int32) &&& 0x3f).toInt64.toUInt64).toInt64).toInt32).toInt.toNat) &&& (255 : Int32)))] [(.long (1 : Int64)), (.long (Int64.ofNat (t + i4.toInt.toNat))), (.ref a1)])) _
          refine XS.ladd X17.here hx rfl (hb hby d3_115) rfl ?_
          show Steps p.tables e below (T17.setTop (mkF m 116 #[.val (.ref a1), .val (.int p2), .val (.long ((v2 <<< ((1 : Int32) &&& 0x3f).toInt64) ||| ((((((g ((((Int64.ofNat (t + i4.toInt.toNat)).toUInt64 >>> ((3 : Int32) &&& 0x3f).toInt64.toUInt64).toInt64).toInt32).toInt.toNat) &&& (255 : Int32)).toUInt32 >>> ((((7 : Int64) - ((Int64.ofNat (t + i4.toInt.toNat)) &&& (7 : Int64))).toInt32) &&& 31).toUInt32).toInt32) &&& (1 : Int32)).toInt64))), .second, .val (.int i4), .val (.int ((g ((((Int64.ofNat (t + i4.toInt.toNat)).toUInt64 >>> ((3 : Int32) &&& 0x3f).toInt64.toUInt64).toInt64).toInt32).toInt.toNat) &&& (255 : Int32)))] [(.long ((Int64.ofNat (t + i4.toInt.toNat)) + (1 : Int64))), (.ref a1)])) _
          exact kt
        refine OwnG.st sg18 ?_
        obtain ⟨T19, h19, X19, e19, W19, st19⟩ := putF X17 hx hZ hown (host := "") (Or.inl (hw _ (List.mem_of_getElem? (i := 17) rfl))) Via.refl e17 Hp Hx (Or.inl (hw _ (List.mem_of_getElem? (i := 18) rfl))) (hw _ (List.mem_of_getElem? (i := 2) rfl)) (ty := .long) (by decide) rfl rfl (g := (mkF m 116 #[.val (.ref a1), .val (.int p2), .val (.long ((v2 <<< ((1 : Int32) &&& 0x3f).toInt64) ||| ((((((g ((((Int64.ofNat (t + i4.toInt.toNat)).toUInt64 >>> ((3 : Int32) &&& 0x3f).toInt64.toUInt64).toInt64).toInt32).toInt.toNat) &&& (255 : Int32)).toUInt32 >>> ((((7 : Int64) - ((Int64.ofNat (t + i4.toInt.toNat)) &&& (7 : Int64))).toInt32) &&& 31).toUInt32).toInt32) &&& (1 : Int32)).toInt64))), .second, .val (.int i4), .val (.int ((g ((((Int64.ofNat (t + i4.toInt.toNat)).toUInt64 >>> ((3 : Int32) &&& 0x3f).toInt64.toUInt64).toInt64).toInt32).toInt.toNat) &&& (255 : Int32)))] [(.long ((Int64.ofNat (t + i4.toInt.toNat)) + (1 : Int64))), (.ref a1)])) rfl rfl (hb hby d3_116)
        have fE_a1_20 := (Exa.wr W19 Hx)
        have fF_a1_encoding_21 := (Fld.other W19 Hf (Or.inr (slot_ne (Or.inr (hw _ (List.mem_of_getElem? (i := 11) rfl))) (Or.inl (hw _ (List.mem_of_getElem? (i := 18) rfl))) (by decide) (t := (.array .byte)) (t' := .long) (by decide) (by decide))))
        have fA_b_22 := (Ha.other W19 ne_b)
        have Fw19 : Fld Z h19 a1 "com/example/ubicacion/ubicacion/lmf/AlignedPer$Reader" "position" "J" (.long ((Int64.ofNat (t + i4.toInt.toNat)) + (1 : Int64))) := Fld.same W19 Hp
        have N19 := Fr.snoc X19 N gb_a1
        have Z19 : n0 ≤ h19.size := by rw [W19.size]; exact Hz
        have K19 : Keep h0 h19 [a1] := Hk.wr W19 (Or.inl (by simp))
        refine OwnG.st st19 ?_
        show OwnG p e below s _ _ _ T19 (mkF m 119 #[.val (.ref a1), .val (.int p2), .val (.long ((v2 <<< ((1 : Int32) &&& 0x3f).toInt64) ||| ((((((g ((((Int64.ofNat (t + i4.toInt.toNat)).toUInt64 >>> ((3 : Int32) &&& 0x3f).toInt64.toUInt64).toInt64).toInt32).toInt.toNat) &&& (255 : Int32)).toUInt32 >>> ((((7 : Int64) - ((Int64.ofNat (t + i4.toInt.toNat)) &&& (7 : Int64))).toInt32) &&& 31).toUInt32).toInt32) &&& (1 : Int32)).toInt64))), .second, .val (.int i4), .val (.int ((g ((((Int64.ofNat (t + i4.toInt.toNat)).toUInt64 >>> ((3 : Int32) &&& 0x3f).toInt64.toUInt64).toInt64).toInt32).toInt.toNat) &&& (255 : Int32)))] [])
        have sg23 : ∀ tgt, Steps p.tables e below (T19.setTop (mkF m 61 #[.val (.ref a1), .val (.int p2), .val (.long ((v2 <<< ((1 : Int32) &&& 0x3f).toInt64) ||| ((((((g ((((Int64.ofNat (t + i4.toInt.toNat)).toUInt64 >>> ((3 : Int32) &&& 0x3f).toInt64.toUInt64).toInt64).toInt32).toInt.toNat) &&& (255 : Int32)).toUInt32 >>> ((((7 : Int64) - ((Int64.ofNat (t + i4.toInt.toNat)) &&& (7 : Int64))).toInt32) &&& 31).toUInt32).toInt32) &&& (1 : Int32)).toInt64))), .second, .val (.int (i4 + (1 : Int32))), .val (.int ((g ((((Int64.ofNat (t + i4.toInt.toNat)).toUInt64 >>> ((3 : Int32) &&& 0x3f).toInt64.toUInt64).toInt64).toInt32).toInt.toNat) &&& (255 : Int32)))] [])) tgt → Steps p.tables e below (T19.setTop (mkF m 119 #[.val (.ref a1), .val (.int p2), .val (.long ((v2 <<< ((1 : Int32) &&& 0x3f).toInt64) ||| ((((((g ((((Int64.ofNat (t + i4.toInt.toNat)).toUInt64 >>> ((3 : Int32) &&& 0x3f).toInt64.toUInt64).toInt64).toInt32).toInt.toNat) &&& (255 : Int32)).toUInt32 >>> ((((7 : Int64) - ((Int64.ofNat (t + i4.toInt.toNat)) &&& (7 : Int64))).toInt32) &&& 31).toUInt32).toInt32) &&& (1 : Int32)).toInt64))), .second, .val (.int i4), .val (.int ((g ((((Int64.ofNat (t + i4.toInt.toNat)).toUInt64 >>> ((3 : Int32) &&& 0x3f).toInt64.toUInt64).toInt64).toInt32).toInt.toNat) &&& (255 : Int32)))] [])) tgt := by
          intro tgt kt
          refine XS.iinc X19.here hx rfl (hb hby d3_119) rfl (l' := #[.val (.ref a1), .val (.int p2), .val (.long ((v2 <<< ((1 : Int32) &&& 0x3f).toInt64) ||| ((((((g ((((Int64.ofNat (t + i4.toInt.toNat)).toUInt64 >>> ((3 : Int32) &&& 0x3f).toInt64.toUInt64).toInt64).toInt32).toInt.toNat) &&& (255 : Int32)).toUInt32 >>> ((((7 : Int64) - ((Int64.ofNat (t + i4.toInt.toNat)) &&& (7 : Int64))).toInt32) &&& 31).toUInt32).toInt32) &&& (1 : Int32)).toInt64))), .second, .val (.int (i4 + (1 : Int32))), .val (.int ((g ((((Int64.ofNat (t + i4.toInt.toNat)).toUInt64 >>> ((3 : Int32) &&& 0x3f).toInt64.toUInt64).toInt64).toInt32).toInt.toNat) &&& (255 : Int32)))]) rfl ?_
          show Steps p.tables e below (T19.setTop (mkF m 122 #[.val (.ref a1), .val (.int p2), .val (.long ((v2 <<< ((1 : Int32) &&& 0x3f).toInt64) ||| ((((((g ((((Int64.ofNat (t + i4.toInt.toNat)).toUInt64 >>> ((3 : Int32) &&& 0x3f).toInt64.toUInt64).toInt64).toInt32).toInt.toNat) &&& (255 : Int32)).toUInt32 >>> ((((7 : Int64) - ((Int64.ofNat (t + i4.toInt.toNat)) &&& (7 : Int64))).toInt32) &&& 31).toUInt32).toInt32) &&& (1 : Int32)).toInt64))), .second, .val (.int (i4 + (1 : Int32))), .val (.int ((g ((((Int64.ofNat (t + i4.toInt.toNat)).toUInt64 >>> ((3 : Int32) &&& 0x3f).toInt64.toUInt64).toInt64).toInt32).toInt.toNat) &&& (255 : Int32)))] [])) _
          refine XS.goto X19.here hx rfl (pc0 := 122) (pc' := 61) rfl (hb hby d3_122) (by decide) (by decide) ?_
          show Steps p.tables e below (T19.setTop (mkF m 61 #[.val (.ref a1), .val (.int p2), .val (.long ((v2 <<< ((1 : Int32) &&& 0x3f).toInt64) ||| ((((((g ((((Int64.ofNat (t + i4.toInt.toNat)).toUInt64 >>> ((3 : Int32) &&& 0x3f).toInt64.toUInt64).toInt64).toInt32).toInt.toNat) &&& (255 : Int32)).toUInt32 >>> ((((7 : Int64) - ((Int64.ofNat (t + i4.toInt.toNat)) &&& (7 : Int64))).toInt32) &&& 31).toUInt32).toInt32) &&& (1 : Int32)).toInt64))), .second, .val (.int (i4 + (1 : Int32))), .val (.int ((g ((((Int64.ofNat (t + i4.toInt.toNat)).toUInt64 >>> ((3 : Int32) &&& 0x3f).toInt64.toUInt64).toInt64).toInt32).toInt.toNat) &&& (255 : Int32)))] [])) _
          exact kt
        refine OwnG.st sg23 ?_
        have hlt := Int32.lt_iff_toInt_lt.mp hc64_9
        have a1' := own_i1 i4 (by omega) (by omega)
        have hp' : Fld Z h19 a1 "com/example/ubicacion/ubicacion/lmf/AlignedPer$Reader" "position" "J" (.long (Int64.ofNat (t + (i4 + (1 : Int32)).toInt.toNat))) := by rw [a1'.2, own_o1]; exact Fw19
        refine ih _ (by rw [← hk, a1'.1]; omega) T19 _ h19 _ _ (.val (.int _)) X19 e19 N19 fE_a1_20 fF_a1_encoding_21 hp' fA_b_22 K19 Z19 ?_ (by rw [a1'.1]; omega) (by rw [a1'.1]; omega) (One.val rfl) rfl
        rw [a1'.2, ← own_turn g t i4.toInt.toNat (by omega) _ rfl, ← hI, own_ix3]
        first | done | omega
      · have sg24 : ∀ tgt, Steps p.tables e below (T.setTop (mkF m 126 #[.val (.ref a1), .val (.int p2), .val (.long v2), .second, .val (.int i4), s5] [(.long v2)])) tgt → Steps p.tables e below (T.setTop (mkF m 64 #[.val (.ref a1), .val (.int p2), .val (.long v2), .second, .val (.int i4), s5] [(.int p2), (.int i4)])) tgt := by
          intro tgt kt
          refine XS.icmpYes X.here hx rfl (pc0 := 64) (pc' := 125) rfl (hb hby d3_64) rfl (flt hc64_9).2.1 (by decide) (by decide) ?_
          show Steps p.tables e below (T.setTop (mkF m 125 #[.val (.ref a1), .val (.int p2), .val (.long v2), .second, .val (.int i4), s5] [])) _
          refine XS.lloadN X.here hx rfl (hb hby d3_125) rfl ?_
          show Steps p.tables e below (T.setTop (mkF m 126 #[.val (.ref a1), .val (.int p2), .val (.long v2), .second, .val (.int i4), s5] [(.long v2)])) _
          exact kt
        refine OwnG.st sg24 ?_
        have hle := hc64_9
        rw [Int32.lt_iff_toInt_lt] at hle
        have hi : i4.toInt.toNat = p2.toInt.toNat := by omega
        rw [hi] at hI Hp
        exact OwnG.retJ X hx Bd.returns (BodyLoose.notSynchronized Bd) (hb hby d3_126) (by rw [eT]; exact ⟨by rw [hI], N, Hk, Hx, Hf, Hp⟩) (by decide) (by decide)
  exact lp7 _ T4 _  h0 _ _ _ X4 e4 N0 E_a1 Fe Fp A_b (Keep.refl h0 [a1]) Z0 rfl (by decide) (by show (0 : Int) ≤ _; omega) One.u  rfl
theorem d4_0 : decode prog_10_method_2_code 0 = .ok (.aload_n 0, 1) := by decide +kernel
theorem d4_1 : decode prog_10_method_2_code 1 = .ok (.iconst 1, 1) := by decide +kernel
theorem d4_2 : decode prog_10_method_2_code 2 = .ok (.invokevirtual 13, 3) := by decide +kernel
theorem d4_5 : decode prog_10_method_2_code 5 = .ok (.lconst 1, 1) := by decide +kernel
theorem d4_6 : decode prog_10_method_2_code 6 = .ok (.lcmp, 1) := by decide +kernel
theorem d4_7 : decode prog_10_method_2_code 7 = .ok (.ifCond .ne 7, 3) := by decide +kernel
theorem d4_10 : decode prog_10_method_2_code 10 = .ok (.iconst 1, 1) := by decide +kernel
theorem d4_11 : decode prog_10_method_2_code 11 = .ok (.goto 4, 3) := by decide +kernel
theorem d4_14 : decode prog_10_method_2_code 14 = .ok (.iconst 0, 1) := by decide +kernel
theorem d4_15 : decode prog_10_method_2_code 15 = .ok (.ireturn, 1) := by decide +kernel
theorem pn_4 : plainName "com/example/ubicacion/ubicacion/lmf/AlignedPer$Reader" = true := by first | (simp [plainName, overriddenIn]; done) | decide +kernel
theorem pd_4_0 : parseMethodDescriptor "(I)J" = some ⟨[.int], some .long⟩ := by decide +kernel
theorem ef_4 (m : MethodId) (a1 : Addr) : entryFrame m #[(.ref a1)] 1 = mkF m 0 #[.val (.ref a1)] [] := by first | (simp [entryFrame, mkF, argsToLocals, Value.category]; done) | rfl
def Q4 (Z : State) (a1 : Addr)  (b : Addr) (t n : Nat) (g : Nat → Int32) (h0 : Heap) (n0 : Nat) (v : Option Value) (h : Heap) (L : List Loc) : Prop := v = some (.int (if own_bits g t 1 = (1 : Int64) then (1 : Int32) else (0 : Int32))) ∧ Fr n0 L ∧ Keep h0 h [a1] ∧ Exa Z h a1 "com/example/ubicacion/ubicacion/lmf/AlignedPer$Reader" ∧ Fld Z h a1 "com/example/ubicacion/ubicacion/lmf/AlignedPer$Reader" "encoding" "[B" (.ref b) ∧ Fld Z h a1 "com/example/ubicacion/ubicacion/lmf/AlignedPer$Reader" "position" "J" (.long (Int64.ofNat (t + 1)))
set_option maxRecDepth 65536 in
set_option maxHeartbeats 40000000 in
theorem rm4 (l : Launch) (Z : State) (a0 : Array Value) (hw : ∀ d ∈ tables_1, d.before a0 Z = true) (ws : List Jvm.Cond) (a1 : Addr) (b : Addr) (t n : Nat) (g : Nat → Int32) (h0 : Heap) (n0 : Nat) (Z0 : n0 ≤ h0.size) (gb_a1 : n0 ≤ a1) (E_a1 : Exa Z h0 a1 "com/example/ubicacion/ubicacion/lmf/AlignedPer$Reader") (Fe : Fld Z h0 a1 "com/example/ubicacion/ubicacion/lmf/AlignedPer$Reader" "encoding" "[B" (.ref b)) (Fp : Fld Z h0 a1 "com/example/ubicacion/ubicacion/lmf/AlignedPer$Reader" "position" "J" (.long (Int64.ofNat t))) (A_b : OwnA Z h0 b .byte n (iv' g)) (ne_b : b ≠ a1) (hs1 : t + 1 ≤ 8 * n) (hs2 : n ≤ 1000) :
    MetFree l (⟨"com/example/ubicacion/ubicacion/lmf/AlignedPer$Reader", "bit", "()Z"⟩ : MethodName) (head1 (Jvm.Cond.code (⟨"com/example/ubicacion/ubicacion/lmf/AlignedPer$Reader", "bit", "()Z"⟩ : MethodName) prog_10_method_2_code 1 (some .boolean) :: ws) ({ frames := 1, cells := 0, slots := 0, locals := 17 } : Room)) (fun a U => a = #[(.ref a1)] ∧ Z.Warmed39 U.vm ∧ U.heap = h0) (fun _ _ _ _ _ => True) (fun _ U o U' => ∃ v L, o = .returned v ∧ Q4 Z a1 b t n g h0 n0 v U'.heap L ∧ FrameEnd U o U' L ({ frames := 1, cells := 0, slots := 0, locals := 17 } : Room).cells ({ frames := 1, cells := 0, slots := 0, locals := 17 } : Room).slots) := by
  refine MetFree.of_bodySF (plainFor_of_name pn_4) hisR ?_
  intro p e s m args below meth c s₁ Bd hml0 hP hK
  obtain ⟨rfl, hZ, hh⟩ := hP
  have hx := Bd.exec
  have hby := Bd.bytes
  have hml : c.maxLocals = 1 := hml0
  have hown : s.vm.findClass "com/example/ubicacion/ubicacion/lmf/AlignedPer$Reader" = some m.cls := findClass_of_methodNamed Bd.named
  have hnm := (name_of_methodNamed Bd.named Bd.method).1
  have X0 : Stand p l e ({ frames := 1, cells := 0, slots := 0, locals := 17 } : Room) s m #[(.ref a1)] below meth c s₁ [] 0 0 := Stand.of_body Bd
  have e0 : s₁.heap = h0 := by rw [← hh, Bd.state]; rfl
  have N0 := Fr.nil n0
  suffices hG : OwnG p e below s (Q4 Z a1 b t n g h0 n0) ({ frames := 1, cells := 0, slots := 0, locals := 17 } : Room).cells ({ frames := 1, cells := 0, slots := 0, locals := 17 } : Room).slots s₁ (mkF m 0 #[.val (.ref a1)] []) by
    obtain ⟨s2, o2, g1, g2⟩ := hG
    exact ⟨s2, o2, castTop (ef_4 m a1) g1, g2⟩
  have sg1 : ∀ tgt, Steps p.tables e below (s₁.setTop (mkF m 2 #[.val (.ref a1)] [(.int (1 : Int32)), (.ref a1)])) tgt → Steps p.tables e below (s₁.setTop (mkF m 0 #[.val (.ref a1)] [])) tgt := by
    intro tgt kt
    refine XS.aloadN X0.here hx rfl (hb hby d4_0) rfl rfl ?_
    show Steps p.tables e below (s₁.setTop (mkF m 1 #[.val (.ref a1)] [(.ref a1)])) _
    refine XS.iconst X0.here hx rfl (hb hby d4_1) ?_
    show Steps p.tables e below (s₁.setTop (mkF m 2 #[.val (.ref a1)] [(.int (1 : Int32)), (.ref a1)])) _
    exact kt
  refine OwnG.st sg1 ?_
  obtain ⟨cq2, kq2, q2a, q2b, q2c⟩ := isOf hZ e0 E_a1
  obtain ⟨_, _, ⟨T2, L2, k2, n2⟩, -, X2, ⟨Lc2, hQ2, l2, y2, z2⟩, st2⟩ := X0.virtualBack hx (y := (⟨"com/example/ubicacion/ubicacion/lmf/AlignedPer$Reader", "bits", "(I)J"⟩ : MethodName)) (z := (⟨"com/example/ubicacion/ubicacion/lmf/AlignedPer$Reader", "bits", "(I)J"⟩ : MethodName)) hown (mvT hZ (hw _ (List.mem_of_getElem? (i := 26) rfl))) (mvT hZ (hw _ (List.mem_of_getElem? (i := 13) rfl))) (notFace_of_selects (args := #[]) (mvT hZ (hw _ (List.mem_of_getElem? (i := 15) rfl)))) (mvT hZ (hw _ (List.mem_of_getElem? (i := 15) rfl))) (mvT hZ (hw _ (List.mem_of_getElem? (i := 14) rfl))) (by decide) (backOf (W := 0) (rm3 l Z a0 hw [] a1 (1 : Int32) b t n g h0 n0 Z0 gb_a1 E_a1 Fe Fp A_b ne_b (by decide) (by show t + 1 ≤ _; omega) hs2) hZ (hw _ (List.mem_of_getElem? (i := 16) rfl)) (hw _ (List.mem_of_getElem? (i := 3) rfl)) (by decide) (by decide)) q2a q2c (g := (mkF m 2 #[.val (.ref a1)] [(.int (1 : Int32)), (.ref a1)])) rfl (by rw [hml]; rfl) (Steps.refl _) (argsL := [(.int (1 : Int32))]) (rest := []) (lenOf pd_4_0 rfl) rfl (by show 2 * 0 + _ ≤ _; exact Nat.le_of_eq rfl) (hb hby d4_2) (fun _ _ => ⟨rfl, e0, (by decide : 0 + 0 ≤ _), (by decide : 0 + 0 ≤ _)⟩)
  dsimp only [Pt.U, Pt.locs, Pt.cells, Pt.slots] at X2 l2 y2 z2 st2 hQ2
  subst l2 y2 z2
  obtain ⟨rfl, N2q, Kq2, Eq2, Fe2, Fp2⟩ := hQ2
  have Z2 : n0 ≤ T2.heap.size := Nat.le_trans Z0 Kq2.1
  have fE_a1_3 := (Exa.keep E_a1 Kq2)
  have fA_b_4 := (A_b.keep Kq2 (ninS ne_b nin0))
  have K2 : Keep h0 T2.heap [a1] := (Keep.refl h0 [a1]).trans Kq2 (fun x hx => Or.inl hx)
  have N2 := Fr.app N0 N2q
  refine OwnG.st (fun t k => st2.trans k) ?_
  show OwnG p e below s _ _ _ T2 (mkF m 5 #[.val (.ref a1)] [(.long (own_bits g t 1))])
  have sg5 : ∀ tgt, Steps p.tables e below (T2.setTop (mkF m 7 #[.val (.ref a1)] [(.int (lcmpW (own_bits g t 1) (1 : Int64)))])) tgt → Steps p.tables e below (T2.setTop (mkF m 5 #[.val (.ref a1)] [(.long (own_bits g t 1))])) tgt := by
    intro tgt kt
    refine XS.lconst X2.here hx rfl (hb hby d4_5) ?_
    show Steps p.tables e below (T2.setTop (mkF m 6 #[.val (.ref a1)] [(.long (1 : Int64)), (.long (own_bits g t 1))])) _
    refine XS.lcmp X2.here hx rfl (hb hby d4_6) rfl ?_
    show Steps p.tables e below (T2.setTop (mkF m 7 #[.val (.ref a1)] [(.int (lcmpW (own_bits g t 1) (1 : Int64)))])) _
    exact kt
  refine OwnG.st sg5 ?_
  by_cases hc7_6 : (own_bits g t 1) = (1 : Int64)
  · have sg7 : ∀ tgt, Steps p.tables e below (T2.setTop (mkF m 15 #[.val (.ref a1)] [(.int (1 : Int32))])) tgt → Steps p.tables e below (T2.setTop (mkF m 7 #[.val (.ref a1)] [(.int (lcmpW (own_bits g t 1) (1 : Int64)))])) tgt := by
      intro tgt kt
      refine XS.ifNo X2.here hx rfl (hb hby d4_7) rfl ((if0 _ _).trans (teq ((lw_eq (own_bits g t 1) (1 : Int64)).mpr hc7_6)).2) ?_
      show Steps p.tables e below (T2.setTop (mkF m 10 #[.val (.ref a1)] [])) _
      refine XS.iconst X2.here hx rfl (hb hby d4_10) ?_
      show Steps p.tables e below (T2.setTop (mkF m 11 #[.val (.ref a1)] [(.int (1 : Int32))])) _
      refine XS.goto X2.here hx rfl (pc0 := 11) (pc' := 15) rfl (hb hby d4_11) (by decide) (by decide) ?_
      show Steps p.tables e below (T2.setTop (mkF m 15 #[.val (.ref a1)] [(.int (1 : Int32))])) _
      exact kt
    refine OwnG.st sg7 ?_
    have hv : nar .boolean (1 : Int32) = (if own_bits g t 1 = (1 : Int64) then (1 : Int32) else (0 : Int32)) := by rw [if_pos hc7_6]; rfl
    exact OwnG.retN X2 hx (t := .boolean) (by simp) Bd.returns (BodyLoose.notSynchronized Bd) (hb hby d4_15) ⟨congrArg (fun w => some (Value.int w)) hv, N2, K2, Eq2, Fe2, Fp2⟩ (by decide) (by decide)
  · have sg8 : ∀ tgt, Steps p.tables e below (T2.setTop (mkF m 15 #[.val (.ref a1)] [(.int (0 : Int32))])) tgt → Steps p.tables e below (T2.setTop (mkF m 7 #[.val (.ref a1)] [(.int (lcmpW (own_bits g t 1) (1 : Int64)))])) tgt := by
      intro tgt kt
      refine XS.ifYes X2.here hx rfl (pc0 := 7) (pc' := 14) rfl (hb hby d4_7) rfl ((if0 _ _).trans (feq (mt (lw_eq (own_bits g t 1) (1 : Int64)).mp hc7_6)).2) (by decide) (by decide) ?_
      show Steps p.tables e below (T2.setTop (mkF m 14 #[.val (.ref a1)] [])) _
      refine XS.iconst X2.here hx rfl (hb hby d4_14) ?_
      show Steps p.tables e below (T2.setTop (mkF m 15 #[.val (.ref a1)] [(.int (0 : Int32))])) _
      exact kt
    refine OwnG.st sg8 ?_
    have hv : nar .boolean (0 : Int32) = (if own_bits g t 1 = (1 : Int64) then (1 : Int32) else (0 : Int32)) := by rw [if_neg hc7_6]; rfl
    exact OwnG.retN X2 hx (t := .boolean) (by simp) Bd.returns (BodyLoose.notSynchronized Bd) (hb hby d4_15) ⟨congrArg (fun w => some (Value.int w)) hv, N2, K2, Eq2, Fe2, Fp2⟩ (by decide) (by decide)
def F5 (p1 : Int32) (p2 : Int32) (p3 : Int32) : Int32 := (if (((if p3 < (8 : Int32) then (p1 &&& (255 : Int32)) else (p2 &&& (255 : Int32))) >>> (((7 : Int32) - (p3 &&& (7 : Int32))) &&& 31)) &&& (1 : Int32)) = (1 : Int32) then (1 : Int32) else (0 : Int32))
theorem d5_0 : decode method_3_code 0 = .ok (.iload_n 2, 1) := by decide +kernel
theorem d5_1 : decode method_3_code 1 = .ok (.bipush 8, 2) := by decide +kernel
theorem d5_3 : decode method_3_code 3 = .ok (.if_icmp .ge 11, 3) := by decide +kernel
theorem d5_6 : decode method_3_code 6 = .ok (.iload_n 0, 1) := by decide +kernel
theorem d5_7 : decode method_3_code 7 = .ok (.sipush 255, 3) := by decide +kernel
theorem d5_10 : decode method_3_code 10 = .ok (.iand, 1) := by decide +kernel
theorem d5_11 : decode method_3_code 11 = .ok (.goto 8, 3) := by decide +kernel
theorem d5_14 : decode method_3_code 14 = .ok (.iload_n 1, 1) := by decide +kernel
theorem d5_15 : decode method_3_code 15 = .ok (.sipush 255, 3) := by decide +kernel
theorem d5_18 : decode method_3_code 18 = .ok (.iand, 1) := by decide +kernel
theorem d5_19 : decode method_3_code 19 = .ok (.istore_n 3, 1) := by decide +kernel
theorem d5_20 : decode method_3_code 20 = .ok (.iload_n 3, 1) := by decide +kernel
theorem d5_21 : decode method_3_code 21 = .ok (.bipush 7, 2) := by decide +kernel
theorem d5_23 : decode method_3_code 23 = .ok (.iload_n 2, 1) := by decide +kernel
theorem d5_24 : decode method_3_code 24 = .ok (.bipush 7, 2) := by decide +kernel
theorem d5_26 : decode method_3_code 26 = .ok (.iand, 1) := by decide +kernel
theorem d5_27 : decode method_3_code 27 = .ok (.isub, 1) := by decide +kernel
theorem d5_28 : decode method_3_code 28 = .ok (.ishr, 1) := by decide +kernel
theorem d5_29 : decode method_3_code 29 = .ok (.iconst 1, 1) := by decide +kernel
theorem d5_30 : decode method_3_code 30 = .ok (.iand, 1) := by decide +kernel
theorem d5_31 : decode method_3_code 31 = .ok (.iconst 1, 1) := by decide +kernel
theorem d5_32 : decode method_3_code 32 = .ok (.if_icmp .ne 7, 3) := by decide +kernel
theorem d5_35 : decode method_3_code 35 = .ok (.iconst 1, 1) := by decide +kernel
theorem d5_36 : decode method_3_code 36 = .ok (.goto 4, 3) := by decide +kernel
theorem d5_39 : decode method_3_code 39 = .ok (.iconst 0, 1) := by decide +kernel
theorem d5_40 : decode method_3_code 40 = .ok (.ireturn, 1) := by decide +kernel
theorem pn_5 : plainName "com/example/ubicacion/ubicacion/lmf/ReaderBitPinLaw" = true := by first | (simp [plainName, overriddenIn]; done) | decide +kernel
theorem ef_5 (m : MethodId) (p1 : Int32) (p2 : Int32) (p3 : Int32) : entryFrame m #[(.int p1), (.int p2), (.int p3)] 4 = mkF m 0 #[.val (.int p1), .val (.int p2), .val (.int p3), .unset] [] := by first | (simp [entryFrame, mkF, argsToLocals, Value.category]; done) | rfl
def Q5 (Z : State) (p1 : Int32) (p2 : Int32) (p3 : Int32) (h0 : Heap) (n0 : Nat) (v : Option Value) (h : Heap) (L : List Loc) : Prop := v = some (.int (F5 p1 p2 p3)) ∧ Fr n0 L ∧ h = h0
set_option maxRecDepth 65536 in
set_option maxHeartbeats 40000000 in
theorem rm5 (l : Launch) (Z : State) (a0 : Array Value) (hw : ∀ d ∈ tables_1, d.before a0 Z = true) (ws : List Jvm.Cond) (p1 : Int32) (p2 : Int32) (p3 : Int32)  (h0 : Heap) (n0 : Nat) (Z0 : n0 ≤ h0.size)  :
    MetFree l (⟨"com/example/ubicacion/ubicacion/lmf/ReaderBitPinLaw", "expected", "(III)Z"⟩ : MethodName) (head1 (Jvm.Cond.code (⟨"com/example/ubicacion/ubicacion/lmf/ReaderBitPinLaw", "expected", "(III)Z"⟩ : MethodName) method_3_code 4 (some .boolean) :: ws) ({ frames := 0, cells := 0, slots := 0, locals := 0 } : Room)) (fun a U => a = #[(.int p1), (.int p2), (.int p3)] ∧ Z.Warmed39 U.vm ∧ U.heap = h0) (fun _ _ _ _ _ => True) (fun _ U o U' => ∃ v L, o = .returned v ∧ Q5 Z p1 p2 p3 h0 n0 v U'.heap L ∧ FrameEnd U o U' L ({ frames := 0, cells := 0, slots := 0, locals := 0 } : Room).cells ({ frames := 0, cells := 0, slots := 0, locals := 0 } : Room).slots) := by
  refine MetFree.of_bodySF (plainFor_of_name pn_5) hisR ?_
  intro p e s m args below meth c s₁ Bd hml0 hP hK
  obtain ⟨rfl, hZ, hh⟩ := hP
  have hx := Bd.exec
  have hby := Bd.bytes
  have hml : c.maxLocals = 4 := hml0
  have hown : s.vm.findClass "com/example/ubicacion/ubicacion/lmf/ReaderBitPinLaw" = some m.cls := findClass_of_methodNamed Bd.named
  have hnm := (name_of_methodNamed Bd.named Bd.method).1
  have X0 : Stand p l e ({ frames := 0, cells := 0, slots := 0, locals := 0 } : Room) s m #[(.int p1), (.int p2), (.int p3)] below meth c s₁ [] 0 0 := Stand.of_body Bd
  have e0 : s₁.heap = h0 := by rw [← hh, Bd.state]; rfl
  have N0 := Fr.nil n0
  suffices hG : OwnG p e below s (Q5 Z p1 p2 p3 h0 n0) ({ frames := 0, cells := 0, slots := 0, locals := 0 } : Room).cells ({ frames := 0, cells := 0, slots := 0, locals := 0 } : Room).slots s₁ (mkF m 0 #[.val (.int p1), .val (.int p2), .val (.int p3), .unset] []) by
    obtain ⟨s2, o2, g1, g2⟩ := hG
    exact ⟨s2, o2, castTop (ef_5 m p1 p2 p3) g1, g2⟩
  have sg1 : ∀ tgt, Steps p.tables e below (s₁.setTop (mkF m 3 #[.val (.int p1), .val (.int p2), .val (.int p3), .unset] [(.int (8 : Int32)), (.int p3)])) tgt → Steps p.tables e below (s₁.setTop (mkF m 0 #[.val (.int p1), .val (.int p2), .val (.int p3), .unset] [])) tgt := by
    intro tgt kt
    refine XS.iloadN X0.here hx rfl (hb hby d5_0) rfl ?_
    show Steps p.tables e below (s₁.setTop (mkF m 1 #[.val (.int p1), .val (.int p2), .val (.int p3), .unset] [(.int p3)])) _
    refine XS.bipush X0.here hx rfl (hb hby d5_1) ?_
    show Steps p.tables e below (s₁.setTop (mkF m 3 #[.val (.int p1), .val (.int p2), .val (.int p3), .unset] [(.int (8 : Int32)), (.int p3)])) _
    exact kt
  refine OwnG.st sg1 ?_
  obtain ⟨z19_3, hz19_3⟩ : ∃ w : Int32, w = (if p3 < (8 : Int32) then (p1 &&& (255 : Int32)) else (p2 &&& (255 : Int32))) := ⟨_, rfl⟩
  have dj4 : ∀ tgt, Steps p.tables e below (s₁.setTop (mkF m 19 #[.val (.int p1), .val (.int p2), .val (.int p3), .unset] [(.int z19_3)])) tgt → Steps p.tables e below (s₁.setTop (mkF m 3 #[.val (.int p1), .val (.int p2), .val (.int p3), .unset] [(.int (8 : Int32)), (.int p3)])) tgt := by
    intro tgt kt
    by_cases hc3_2 : p3 < (8 : Int32)
    · have qz19_3 : z19_3 = (p1 &&& (255 : Int32)) := by rw [hz19_3, if_pos hc3_2]
      rw [qz19_3] at kt
      refine XS.icmpNo X0.here hx rfl (hb hby d5_3) rfl (tlt hc3_2).2.1 ?_
      show Steps p.tables e below (s₁.setTop (mkF m 6 #[.val (.int p1), .val (.int p2), .val (.int p3), .unset] [])) _
      refine XS.iloadN X0.here hx rfl (hb hby d5_6) rfl ?_
      show Steps p.tables e below (s₁.setTop (mkF m 7 #[.val (.int p1), .val (.int p2), .val (.int p3), .unset] [(.int p1)])) _
      refine XS.sipush X0.here hx rfl (hb hby d5_7) ?_
      show Steps p.tables e below (s₁.setTop (mkF m 10 #[.val (.int p1), .val (.int p2), .val (.int p3), .unset] [(.int (255 : Int32)), (.int p1)])) _
      refine XS.iand X0.here hx rfl (hb hby d5_10) rfl ?_
      show Steps p.tables e below (s₁.setTop (mkF m 11 #[.val (.int p1), .val (.int p2), .val (.int p3), .unset] [(.int (p1 &&& (255 : Int32)))])) _
      refine XS.goto X0.here hx rfl (pc0 := 11) (pc' := 19) rfl (hb hby d5_11) (by decide) (by decide) ?_
      show Steps p.tables e below (s₁.setTop (mkF m 19 #[.val (.int p1), .val (.int p2), .val (.int p3), .unset] [(.int (p1 &&& (255 : Int32)))])) _
      exact kt
    · have qz19_3 : z19_3 = (p2 &&& (255 : Int32)) := by rw [hz19_3, if_neg hc3_2]
      rw [qz19_3] at kt
      refine XS.icmpYes X0.here hx rfl (pc0 := 3) (pc' := 14) rfl (hb hby d5_3) rfl (flt hc3_2).2.1 (by decide) (by decide) ?_
      show Steps p.tables e below (s₁.setTop (mkF m 14 #[.val (.int p1), .val (.int p2), .val (.int p3), .unset] [])) _
      refine XS.iloadN X0.here hx rfl (hb hby d5_14) rfl ?_
      show Steps p.tables e below (s₁.setTop (mkF m 15 #[.val (.int p1), .val (.int p2), .val (.int p3), .unset] [(.int p2)])) _
      refine XS.sipush X0.here hx rfl (hb hby d5_15) ?_
      show Steps p.tables e below (s₁.setTop (mkF m 18 #[.val (.int p1), .val (.int p2), .val (.int p3), .unset] [(.int (255 : Int32)), (.int p2)])) _
      refine XS.iand X0.here hx rfl (hb hby d5_18) rfl ?_
      show Steps p.tables e below (s₁.setTop (mkF m 19 #[.val (.int p1), .val (.int p2), .val (.int p3), .unset] [(.int (p2 &&& (255 : Int32)))])) _
      exact kt
  refine OwnG.st dj4 ?_
  have sg5 : ∀ tgt, Steps p.tables e below (s₁.setTop (mkF m 32 #[.val (.int p1), .val (.int p2), .val (.int p3), .val (.int z19_3)] [(.int (1 : Int32)), (.int ((z19_3 >>> (((7 : Int32) - (p3 &&& (7 : Int32))) &&& 31)) &&& (1 : Int32)))])) tgt → Steps p.tables e below (s₁.setTop (mkF m 19 #[.val (.int p1), .val (.int p2), .val (.int p3), .unset] [(.int z19_3)])) tgt := by
    intro tgt kt
    refine XS.istoreN X0.here hx rfl (hb hby d5_19) rfl (l' := #[.val (.int p1), .val (.int p2), .val (.int p3), .val (.int z19_3)]) rfl ?_
    show Steps p.tables e below (s₁.setTop (mkF m 20 #[.val (.int p1), .val (.int p2), .val (.int p3), .val (.int z19_3)] [])) _
    refine XS.iloadN X0.here hx rfl (hb hby d5_20) rfl ?_
    show Steps p.tables e below (s₁.setTop (mkF m 21 #[.val (.int p1), .val (.int p2), .val (.int p3), .val (.int z19_3)] [(.int z19_3)])) _
    refine XS.bipush X0.here hx rfl (hb hby d5_21) ?_
    show Steps p.tables e below (s₁.setTop (mkF m 23 #[.val (.int p1), .val (.int p2), .val (.int p3), .val (.int z19_3)] [(.int (7 : Int32)), (.int z19_3)])) _
    refine XS.iloadN X0.here hx rfl (hb hby d5_23) rfl ?_
    show Steps p.tables e below (s₁.setTop (mkF m 24 #[.val (.int p1), .val (.int p2), .val (.int p3), .val (.int z19_3)] [(.int p3), (.int (7 : Int32)), (.int z19_3)])) _
    refine XS.bipush X0.here hx rfl (hb hby d5_24) ?_
    show Steps p.tables e below (s₁.setTop (mkF m 26 #[.val (.int p1), .val (.int p2), .val (.int p3), .val (.int z19_3)] [(.int (7 : Int32)), (.int p3), (.int (7 : Int32)), (.int z19_3)])) _
    refine XS.iand X0.here hx rfl (hb hby d5_26) rfl ?_
    show Steps p.tables e below (s₁.setTop (mkF m 27 #[.val (.int p1), .val (.int p2), .val (.int p3), .val (.int z19_3)] [(.int (p3 &&& (7 : Int32))), (.int (7 : Int32)), (.int z19_3)])) _
    refine XS.isub X0.here hx rfl (hb hby d5_27) rfl ?_
    show Steps p.tables e below (s₁.setTop (mkF m 28 #[.val (.int p1), .val (.int p2), .val (.int p3), .val (.int z19_3)] [(.int ((7 : Int32) - (p3 &&& (7 : Int32)))), (.int z19_3)])) _
    refine XS.ishr X0.here hx rfl (hb hby d5_28) rfl ?_
    show Steps p.tables e below (s₁.setTop (mkF m 29 #[.val (.int p1), .val (.int p2), .val (.int p3), .val (.int z19_3)] [(.int (z19_3 >>> (((7 : Int32) - (p3 &&& (7 : Int32))) &&& 31)))])) _
    refine XS.iconst X0.here hx rfl (hb hby d5_29) ?_
    show Steps p.tables e below (s₁.setTop (mkF m 30 #[.val (.int p1), .val (.int p2), .val (.int p3), .val (.int z19_3)] [(.int (1 : Int32)), (.int (z19_3 >>> (((7 : Int32) - (p3 &&& (7 : Int32))) &&& 31)))])) _
    refine XS.iand X0.here hx rfl (hb hby d5_30) rfl ?_
    show Steps p.tables e below (s₁.setTop (mkF m 31 #[.val (.int p1), .val (.int p2), .val (.int p3), .val (.int z19_3)] [(.int ((z19_3 >>> (((7 : Int32) - (p3 &&& (7 : Int32))) &&& 31)) &&& (1 : Int32)))])) _
    refine XS.iconst X0.here hx rfl (hb hby d5_31) ?_
    show Steps p.tables e below (s₁.setTop (mkF m 32 #[.val (.int p1), .val (.int p2), .val (.int p3), .val (.int z19_3)] [(.int (1 : Int32)), (.int ((z19_3 >>> (((7 : Int32) - (p3 &&& (7 : Int32))) &&& 31)) &&& (1 : Int32)))])) _
    exact kt
  refine OwnG.st sg5 ?_
  by_cases hc32_6 : ((z19_3 >>> (((7 : Int32) - (p3 &&& (7 : Int32))) &&& 31)) &&& (1 : Int32)) = (1 : Int32)
  · have sg7 : ∀ tgt, Steps p.tables e below (s₁.setTop (mkF m 40 #[.val (.int p1), .val (.int p2), .val (.int p3), .val (.int z19_3)] [(.int (1 : Int32))])) tgt → Steps p.tables e below (s₁.setTop (mkF m 32 #[.val (.int p1), .val (.int p2), .val (.int p3), .val (.int z19_3)] [(.int (1 : Int32)), (.int ((z19_3 >>> (((7 : Int32) - (p3 &&& (7 : Int32))) &&& 31)) &&& (1 : Int32)))])) tgt := by
      intro tgt kt
      refine XS.icmpNo X0.here hx rfl (hb hby d5_32) rfl (teq hc32_6).2 ?_
      show Steps p.tables e below (s₁.setTop (mkF m 35 #[.val (.int p1), .val (.int p2), .val (.int p3), .val (.int z19_3)] [])) _
      refine XS.iconst X0.here hx rfl (hb hby d5_35) ?_
      show Steps p.tables e below (s₁.setTop (mkF m 36 #[.val (.int p1), .val (.int p2), .val (.int p3), .val (.int z19_3)] [(.int (1 : Int32))])) _
      refine XS.goto X0.here hx rfl (pc0 := 36) (pc' := 40) rfl (hb hby d5_36) (by decide) (by decide) ?_
      show Steps p.tables e below (s₁.setTop (mkF m 40 #[.val (.int p1), .val (.int p2), .val (.int p3), .val (.int z19_3)] [(.int (1 : Int32))])) _
      exact kt
    refine OwnG.st sg7 ?_
    have hv : (1 : Int32) = F5 p1 p2 p3 := by subst hz19_3; simp only [F5, if_pos hc32_6]
    exact OwnG.retN X0 hx (t := .boolean) (by simp) Bd.returns (BodyLoose.notSynchronized Bd) (hb hby d5_40) ⟨congrArg (fun w => some (Value.int w)) ((show nar .boolean (1 : Int32) = (1 : Int32) from rfl).trans hv), N0, e0⟩ (by decide) (by decide)
  · have sg8 : ∀ tgt, Steps p.tables e below (s₁.setTop (mkF m 40 #[.val (.int p1), .val (.int p2), .val (.int p3), .val (.int z19_3)] [(.int (0 : Int32))])) tgt → Steps p.tables e below (s₁.setTop (mkF m 32 #[.val (.int p1), .val (.int p2), .val (.int p3), .val (.int z19_3)] [(.int (1 : Int32)), (.int ((z19_3 >>> (((7 : Int32) - (p3 &&& (7 : Int32))) &&& 31)) &&& (1 : Int32)))])) tgt := by
      intro tgt kt
      refine XS.icmpYes X0.here hx rfl (pc0 := 32) (pc' := 39) rfl (hb hby d5_32) rfl (feq hc32_6).2 (by decide) (by decide) ?_
      show Steps p.tables e below (s₁.setTop (mkF m 39 #[.val (.int p1), .val (.int p2), .val (.int p3), .val (.int z19_3)] [])) _
      refine XS.iconst X0.here hx rfl (hb hby d5_39) ?_
      show Steps p.tables e below (s₁.setTop (mkF m 40 #[.val (.int p1), .val (.int p2), .val (.int p3), .val (.int z19_3)] [(.int (0 : Int32))])) _
      exact kt
    refine OwnG.st sg8 ?_
    have hv : (0 : Int32) = F5 p1 p2 p3 := by subst hz19_3; simp only [F5, if_neg hc32_6]
    exact OwnG.retN X0 hx (t := .boolean) (by simp) Bd.returns (BodyLoose.notSynchronized Bd) (hb hby d5_40) ⟨congrArg (fun w => some (Value.int w)) ((show nar .boolean (0 : Int32) = (0 : Int32) from rfl).trans hv), N0, e0⟩ (by decide) (by decide)
theorem own_b1 (g : Nat → Int32) (t : Nat) : own_bits g t 1 = (1 : Int64) ↔ own_B g t = true := by
  unfold own_bits
  rw [← Int64.toBitVec_inj]
  show ((0#64 <<< 1) ||| (if own_B g (t + 0) then 1#64 else 0#64)) = 1#64 ↔ _
  rw [Nat.add_zero]
  cases own_B g t <;> decide
theorem own_shr1 (o q : Int32) (k : Nat) (hq : q.toBitVec.toNat % 32 = k) : (((o >>> (q &&& 31)) &&& (1 : Int32)) = (1 : Int32)) ↔ o.toBitVec.getLsbD k = true := by
  have h1 := sm32 q k hq
  have hk : k < 32 := by omega
  have e : (o >>> (q &&& 31)).toBitVec = o.toBitVec.sshiftRight k := by
    show o.toBitVec.sshiftRight' ((q &&& 31).toBitVec.smod 32) = _
    rw [BitVec.sshiftRight_eq', h1]
  rw [← Int32.toBitVec_inj, Int32.toBitVec_and, e]
  have q1 : ∀ j : Fin 32, ((1 : Int32).toBitVec).getLsbD j.1 = decide (j.1 = 0) := by decide
  have q0 : (o.toBitVec.sshiftRight k).getLsbD 0 = o.toBitVec.getLsbD k := by
    rw [BitVec.getLsbD_sshiftRight]; simp [hk]
  constructor
  · intro h
    have := congrArg (fun b => b.getLsbD 0) h
    simp only [BitVec.getLsbD_and, q0] at this
    rw [q1 ⟨0, by decide⟩] at this
    simpa using this
  · intro h
    apply BitVec.eq_of_getLsbD_eq
    intro i hi
    rw [BitVec.getLsbD_and, q1 ⟨i, hi⟩]
    by_cases c : i = 0
    · subst c; rw [q0, h]; rfl
    · simp [c]
theorem own_by (x : Int32) (k : Nat) (hk : k < 8) : (x.toInt8.toInt32).toBitVec.getLsbD k = (x &&& (255 : Int32)).toBitVec.getLsbD k := by
  have q : ∀ i : Fin 8, ((255 : Int32).toBitVec).getLsbD i.1 = true := by decide
  rw [Int32.toBitVec_and, BitVec.getLsbD_and, q ⟨k, hk⟩, Int8.toBitVec_toInt32, Int32.toBitVec_toInt8, BitVec.getLsbD_signExtend, BitVec.getLsbD_signExtend]
  simp [hk, show k < 32 by omega]
theorem own_e (g : Nat → Int32) (x y k : Int32) (t : Nat) (h0 : g 0 = x.toInt8.toInt32) (h1 : g 1 = y.toInt8.toInt32) (hk : k.toInt = t) (ht : t < 16) : (if own_bits g t 1 = (1 : Int64) then (1 : Int32) else (0 : Int32)) = F5 x y k := by
  have a := c_mask k 7 3 (by decide) (by decide)
  have b := c_isub 7 (k &&& 7)
  have e7 : (7 : Int32).toInt = 7 := rfl
  have e8 : (8 : Int32).toInt = 8 := rfl
  have r := rng32 (7 - (k &&& 7))
  have hs : (7 - (k &&& 7)).toInt = ((7 - t % 8 : Nat) : Int) := by omega
  have hn := own_nat32 _ _ hs
  unfold F5
  have key : own_bits g t 1 = (1 : Int64) ↔ (((if k < (8 : Int32) then (x &&& (255 : Int32)) else (y &&& (255 : Int32))) >>> (((7 : Int32) - (k &&& (7 : Int32))) &&& 31)) &&& (1 : Int32)) = (1 : Int32) := by
    rw [own_b1, own_shr1 _ _ (7 - t % 8) (by rw [hn]; omega)]
    unfold own_B
    by_cases c : k < 8
    · rw [if_pos c, ← own_by x _ (by omega)]
      rw [Int32.lt_iff_toInt_lt] at c
      rw [show t / 8 = 0 by omega, h0]
    · rw [if_neg c, ← own_by y _ (by omega)]
      rw [Int32.lt_iff_toInt_lt] at c
      rw [show t / 8 = 1 by omega, h1]
  by_cases c : own_bits g t 1 = (1 : Int64)
  · rw [if_pos c, if_pos (key.mp c)]
  · rw [if_neg c, if_neg (fun q => c (key.mpr q))]
theorem own_m15 (x : Int32) : 0 ≤ (x &&& (15 : Int32)).toInt ∧ (x &&& (15 : Int32)).toInt ≤ 15 := by
  have h := c_mask x 15 4 (by decide) (by decide)
  omega
theorem pn_0 : plainName "com/example/ubicacion/ubicacion/lmf/ReaderBitPinLaw" = true := by first | (simp [plainName, overriddenIn]; done) | decide +kernel
theorem pd_0_0 : parseMethodDescriptor "([B)V" = some ⟨[(.array .byte)], none⟩ := by decide +kernel
theorem pd_0_1 : parseMethodDescriptor "(I)J" = some ⟨[.int], some .long⟩ := by decide +kernel
theorem pd_0_2 : parseMethodDescriptor "()Z" = some ⟨[], some .boolean⟩ := by decide +kernel
theorem pd_0_3 : parseMethodDescriptor "(III)Z" = some ⟨[.int, .int, .int], some .boolean⟩ := by decide +kernel
theorem ef_0 (m : MethodId) (p1 : Int32) (p2 : Int32) (p3 : Int32) : entryFrame m #[(.int p1), (.int p2), (.int p3)] maxLocals = mkF m 0 #[.val (.int p1), .val (.int p2), .val (.int p3), .unset, .unset, .unset, .unset, .unset, .unset] [] := by first | (simp [entryFrame, mkF, argsToLocals, Value.category, maxLocals]; done) | rfl
def Q0 (Z : State) (p1 : Int32) (p2 : Int32) (p3 : Int32) (h0 : Heap) (n0 : Nat) (v : Option Value) (h : Heap) (L : List Loc) : Prop := v = some (.int 1) ∧ Fr n0 L
set_option maxRecDepth 65536 in
set_option maxHeartbeats 40000000 in
theorem rm0 (l : Launch) (Z : State) (a0 : Array Value) (hw : ∀ d ∈ tables_1, d.before a0 Z = true) (ws : List Jvm.Cond) (p1 : Int32) (p2 : Int32) (p3 : Int32)  (h0 : Heap) (n0 : Nat) (Z0 : n0 ≤ h0.size)  :
    MetFree l x (head1 (Jvm.Cond.code x code maxLocals ret :: ws) room_1) (fun a U => a = #[(.int p1), (.int p2), (.int p3)] ∧ Z.Warmed39 U.vm ∧ U.heap = h0) (fun _ _ _ _ _ => True) (fun _ U o U' => ∃ v L, o = .returned v ∧ Q0 Z p1 p2 p3 h0 n0 v U'.heap L ∧ FrameEnd U o U' L room_1.cells room_1.slots) := by
  refine MetFree.of_bodySF (plainFor_of_name pn_0) hisR ?_
  intro p e s m args below meth c s₁ Bd hml0 hP hK
  obtain ⟨rfl, hZ, hh⟩ := hP
  have hx := Bd.exec
  have hby := Bd.bytes
  have hml : c.maxLocals = 9 := hml0
  have hown : s.vm.findClass "com/example/ubicacion/ubicacion/lmf/ReaderBitPinLaw" = some m.cls := findClass_of_methodNamed Bd.named
  have hnm := (name_of_methodNamed Bd.named Bd.method).1
  have X0 : Stand p l e room_1 s m #[(.int p1), (.int p2), (.int p3)] below meth c s₁ [] 0 0 := Stand.of_body Bd
  have e0 : s₁.heap = h0 := by rw [← hh, Bd.state]; rfl
  have N0 := Fr.nil n0
  suffices hG : OwnG p e below s (Q0 Z p1 p2 p3 h0 n0) room_1.cells room_1.slots s₁ (mkF m 0 #[.val (.int p1), .val (.int p2), .val (.int p3), .unset, .unset, .unset, .unset, .unset, .unset] []) by
    obtain ⟨s2, o2, g1, g2⟩ := hG
    exact ⟨s2, o2, castTop (ef_0 m p1 p2 p3) g1, g2⟩
  have sg1 : ∀ tgt, Steps p.tables e below (s₁.setTop (mkF m 1 #[.val (.int p1), .val (.int p2), .val (.int p3), .unset, .unset, .unset, .unset, .unset, .unset] [(.int (2 : Int32))])) tgt → Steps p.tables e below (s₁.setTop (mkF m 0 #[.val (.int p1), .val (.int p2), .val (.int p3), .unset, .unset, .unset, .unset, .unset, .unset] [])) tgt := by
    intro tgt kt
    refine XS.iconst X0.here hx rfl (hb hby at_0) ?_
    show Steps p.tables e below (s₁.setTop (mkF m 1 #[.val (.int p1), .val (.int p2), .val (.int p3), .unset, .unset, .unset, .unset, .unset, .unset] [(.int (2 : Int32))])) _
    exact kt
  refine OwnG.st sg1 ?_
  obtain ⟨T2, h2, k2, X2, e2, E2, A2, st2⟩ := newP X0 hx hZ (hw _ (List.mem_of_getElem? (i := 0) rfl)) e0 (g := (mkF m 1 #[.val (.int p1), .val (.int p2), .val (.int p3), .unset, .unset, .unset, .unset, .unset, .unset] [(.int (2 : Int32))])) rfl (hb hby at_1) rfl (by decide) (cap := 2) (by decide) (by decide) (by decide) (by decide)
  obtain ⟨b2, g2⟩ : ∃ z, z = h0.size := ⟨_, rfl⟩
  rw [← g2] at A2 st2
  have V2 : OwnA Z h2 b2 .byte 2 (iv' fun _ => 0) := own_newA A2 (by decide)
  have gb_b2 : n0 ≤ b2 := Nat.le_trans Z0 (Nat.le_of_eq g2.symm)
  have Z2 : n0 ≤ h2.size := Nat.le_trans Z0 E2.1
  refine OwnG.st st2 ?_
  show OwnG p e below s _ _ _ T2 (mkF m 3 #[.val (.int p1), .val (.int p2), .val (.int p3), .unset, .unset, .unset, .unset, .unset, .unset] [(.ref b2)])
  have sg3 : ∀ tgt, Steps p.tables e below (T2.setTop (mkF m 8 #[.val (.int p1), .val (.int p2), .val (.int p3), .val (.ref b2), .unset, .unset, .unset, .unset, .unset] [(.int (p1.toInt8.toInt32)), (.int (0 : Int32)), (.ref b2)])) tgt → Steps p.tables e below (T2.setTop (mkF m 3 #[.val (.int p1), .val (.int p2), .val (.int p3), .unset, .unset, .unset, .unset, .unset, .unset] [(.ref b2)])) tgt := by
    intro tgt kt
    refine XS.astoreN X2.here hx rfl (hb hby at_3) rfl rfl (l' := #[.val (.int p1), .val (.int p2), .val (.int p3), .val (.ref b2), .unset, .unset, .unset, .unset, .unset]) rfl ?_
    show Steps p.tables e below (T2.setTop (mkF m 4 #[.val (.int p1), .val (.int p2), .val (.int p3), .val (.ref b2), .unset, .unset, .unset, .unset, .unset] [])) _
    refine XS.aloadN X2.here hx rfl (hb hby at_4) rfl rfl ?_
    show Steps p.tables e below (T2.setTop (mkF m 5 #[.val (.int p1), .val (.int p2), .val (.int p3), .val (.ref b2), .unset, .unset, .unset, .unset, .unset] [(.ref b2)])) _
    refine XS.iconst X2.here hx rfl (hb hby at_5) ?_
    show Steps p.tables e below (T2.setTop (mkF m 6 #[.val (.int p1), .val (.int p2), .val (.int p3), .val (.ref b2), .unset, .unset, .unset, .unset, .unset] [(.int (0 : Int32)), (.ref b2)])) _
    refine XS.iloadN X2.here hx rfl (hb hby at_6) rfl ?_
    show Steps p.tables e below (T2.setTop (mkF m 7 #[.val (.int p1), .val (.int p2), .val (.int p3), .val (.ref b2), .unset, .unset, .unset, .unset, .unset] [(.int p1), (.int (0 : Int32)), (.ref b2)])) _
    refine XS.i2b X2.here hx rfl (hb hby at_7) rfl ?_
    show Steps p.tables e below (T2.setTop (mkF m 8 #[.val (.int p1), .val (.int p2), .val (.int p3), .val (.ref b2), .unset, .unset, .unset, .unset, .unset] [(.int (p1.toInt8.toInt32)), (.int (0 : Int32)), (.ref b2)])) _
    exact kt
  refine OwnG.st sg3 ?_
  obtain ⟨T4, h4, X4, e4, W4, V4, st4⟩ := own_stB V2 X2 hx hZ e2 (by decide) (by decide) (gf := (mkF m 8 #[.val (.int p1), .val (.int p2), .val (.int p3), .val (.ref b2), .unset, .unset, .unset, .unset, .unset] [(.int (p1.toInt8.toInt32)), (.int (0 : Int32)), (.ref b2)])) rfl rfl (hb hby at_8)
  have V4' : OwnA Z h4 b2 .byte 2 (iv' (updv (fun _ => 0) 0 (p1.toInt8.toInt32))) := by have q := V4; rw [Int8.toInt8_toInt32] at q; exact q
  have N4 := Fr.snoc X4 N0 gb_b2
  have Z4 : n0 ≤ h4.size := by rw [W4.size]; exact Z2
  refine OwnG.st st4 ?_
  show OwnG p e below s _ _ _ T4 (mkF m 9 #[.val (.int p1), .val (.int p2), .val (.int p3), .val (.ref b2), .unset, .unset, .unset, .unset, .unset] [])
  have sg5 : ∀ tgt, Steps p.tables e below (T4.setTop (mkF m 13 #[.val (.int p1), .val (.int p2), .val (.int p3), .val (.ref b2), .unset, .unset, .unset, .unset, .unset] [(.int (p2.toInt8.toInt32)), (.int (1 : Int32)), (.ref b2)])) tgt → Steps p.tables e below (T4.setTop (mkF m 9 #[.val (.int p1), .val (.int p2), .val (.int p3), .val (.ref b2), .unset, .unset, .unset, .unset, .unset] [])) tgt := by
    intro tgt kt
    refine XS.aloadN X4.here hx rfl (hb hby at_9) rfl rfl ?_
    show Steps p.tables e below (T4.setTop (mkF m 10 #[.val (.int p1), .val (.int p2), .val (.int p3), .val (.ref b2), .unset, .unset, .unset, .unset, .unset] [(.ref b2)])) _
    refine XS.iconst X4.here hx rfl (hb hby at_10) ?_
    show Steps p.tables e below (T4.setTop (mkF m 11 #[.val (.int p1), .val (.int p2), .val (.int p3), .val (.ref b2), .unset, .unset, .unset, .unset, .unset] [(.int (1 : Int32)), (.ref b2)])) _
    refine XS.iloadN X4.here hx rfl (hb hby at_11) rfl ?_
    show Steps p.tables e below (T4.setTop (mkF m 12 #[.val (.int p1), .val (.int p2), .val (.int p3), .val (.ref b2), .unset, .unset, .unset, .unset, .unset] [(.int p2), (.int (1 : Int32)), (.ref b2)])) _
    refine XS.i2b X4.here hx rfl (hb hby at_12) rfl ?_
    show Steps p.tables e below (T4.setTop (mkF m 13 #[.val (.int p1), .val (.int p2), .val (.int p3), .val (.ref b2), .unset, .unset, .unset, .unset, .unset] [(.int (p2.toInt8.toInt32)), (.int (1 : Int32)), (.ref b2)])) _
    exact kt
  refine OwnG.st sg5 ?_
  obtain ⟨T6, h6, X6, e6, W6, V6, st6⟩ := own_stB V4' X4 hx hZ e4 (by decide) (by decide) (gf := (mkF m 13 #[.val (.int p1), .val (.int p2), .val (.int p3), .val (.ref b2), .unset, .unset, .unset, .unset, .unset] [(.int (p2.toInt8.toInt32)), (.int (1 : Int32)), (.ref b2)])) rfl rfl (hb hby at_13)
  have V6' : OwnA Z h6 b2 .byte 2 (iv' (updv (updv (fun _ => 0) 0 (p1.toInt8.toInt32)) 1 (p2.toInt8.toInt32))) := by have q := V6; rw [Int8.toInt8_toInt32] at q; exact q
  have N6 := Fr.snoc X6 N4 gb_b2
  have Z6 : n0 ≤ h6.size := by rw [W6.size]; exact Z4
  refine OwnG.st st6 ?_
  show OwnG p e below s _ _ _ T6 (mkF m 14 #[.val (.int p1), .val (.int p2), .val (.int p3), .val (.ref b2), .unset, .unset, .unset, .unset, .unset] [])
  have sg7 : ∀ tgt, Steps p.tables e below (T6.setTop (mkF m 20 #[.val (.int p1), .val (.int p2), .val (.int p3), .val (.ref b2), .val (.int (p3 &&& (15 : Int32))), .unset, .unset, .unset, .unset] [])) tgt → Steps p.tables e below (T6.setTop (mkF m 14 #[.val (.int p1), .val (.int p2), .val (.int p3), .val (.ref b2), .unset, .unset, .unset, .unset, .unset] [])) tgt := by
    intro tgt kt
    refine XS.iloadN X6.here hx rfl (hb hby at_14) rfl ?_
    show Steps p.tables e below (T6.setTop (mkF m 15 #[.val (.int p1), .val (.int p2), .val (.int p3), .val (.ref b2), .unset, .unset, .unset, .unset, .unset] [(.int p3)])) _
    refine XS.bipush X6.here hx rfl (hb hby at_15) ?_
    show Steps p.tables e below (T6.setTop (mkF m 17 #[.val (.int p1), .val (.int p2), .val (.int p3), .val (.ref b2), .unset, .unset, .unset, .unset, .unset] [(.int (15 : Int32)), (.int p3)])) _
    refine XS.iand X6.here hx rfl (hb hby at_17) rfl ?_
    show Steps p.tables e below (T6.setTop (mkF m 18 #[.val (.int p1), .val (.int p2), .val (.int p3), .val (.ref b2), .unset, .unset, .unset, .unset, .unset] [(.int (p3 &&& (15 : Int32)))])) _
    refine XS.istore X6.here hx rfl (hb hby at_18) rfl (l' := #[.val (.int p1), .val (.int p2), .val (.int p3), .val (.ref b2), .val (.int (p3 &&& (15 : Int32))), .unset, .unset, .unset, .unset]) rfl ?_
    show Steps p.tables e below (T6.setTop (mkF m 20 #[.val (.int p1), .val (.int p2), .val (.int p3), .val (.ref b2), .val (.int (p3 &&& (15 : Int32))), .unset, .unset, .unset, .unset] [])) _
    exact kt
  refine OwnG.st sg7 ?_
  obtain ⟨z4_8, hz4_8⟩ : ∃ w : Int32, w = (p3 &&& (15 : Int32)) := ⟨_, rfl⟩
  rw [← hz4_8]
  show OwnG p e below s _ _ _ T6 (mkF m 20 #[.val (.int p1), .val (.int p2), .val (.int p3), .val (.ref b2), .val (.int z4_8), .unset, .unset, .unset, .unset] [])
  have hkk := own_m15 p3
  rw [← hz4_8] at hkk
  obtain ⟨gB, hgB⟩ : ∃ g : Nat → Int32, g = (updv (updv (fun _ => 0) 0 (p1.toInt8.toInt32)) 1 (p2.toInt8.toInt32)) := ⟨_, rfl⟩
  have VgB : OwnA Z h6 b2 .byte 2 (iv' gB) := by rw [hgB]; exact V6'
  obtain ⟨T9, h9, X9, e9, E9, A9, D9, -, st9⟩ := newO X6 hx hZ hown (hw _ (List.mem_of_getElem? (i := 1) rfl)) (hw _ (List.mem_of_getElem? (i := 2) rfl)) (hw _ (List.mem_of_getElem? (i := 3) rfl)) e6 (g := (mkF m 20 #[.val (.int p1), .val (.int p2), .val (.int p3), .val (.ref b2), .val (.int z4_8), .unset, .unset, .unset, .unset] [])) rfl (hb hby at_20) (by decide) (by decide)
  obtain ⟨b9, g9⟩ : ∃ z, z = h6.size := ⟨_, rfl⟩
  rw [← g9] at A9 D9 st9
  have ne9_10 : b2 ≠ b9 := Nat.ne_of_lt (Nat.lt_of_lt_of_le VgB.lt (Nat.le_of_eq g9.symm))
  have fA_b2_11 := (VgB.ext E9)
  have F9_encoding : Fld Z h9 b9 "com/example/ubicacion/ubicacion/lmf/AlignedPer$Reader" "encoding" "[B" .null := D9 (Or.inr (hw _ (List.mem_of_getElem? (i := 11) rfl))) (ty := (.array .byte)) (by decide)
  have F9_position : Fld Z h9 b9 "com/example/ubicacion/ubicacion/lmf/AlignedPer$Reader" "position" "J" (.long (0 : Int64)) := D9 (Or.inl (hw _ (List.mem_of_getElem? (i := 18) rfl))) (ty := .long) (by decide)
  have gb_b9 : n0 ≤ b9 := Nat.le_trans Z6 (Nat.le_of_eq g9.symm)
  have Z9 : n0 ≤ h9.size := Nat.le_trans Z6 E9.1
  refine OwnG.st st9 ?_
  show OwnG p e below s _ _ _ T9 (mkF m 23 #[.val (.int p1), .val (.int p2), .val (.int p3), .val (.ref b2), .val (.int z4_8), .unset, .unset, .unset, .unset] [(.ref b9)])
  have sg12 : ∀ tgt, Steps p.tables e below (T9.setTop (mkF m 25 #[.val (.int p1), .val (.int p2), .val (.int p3), .val (.ref b2), .val (.int z4_8), .unset, .unset, .unset, .unset] [(.ref b2), (.ref b9), (.ref b9)])) tgt → Steps p.tables e below (T9.setTop (mkF m 23 #[.val (.int p1), .val (.int p2), .val (.int p3), .val (.ref b2), .val (.int z4_8), .unset, .unset, .unset, .unset] [(.ref b9)])) tgt := by
    intro tgt kt
    refine XS.dup X9.here hx rfl (hb hby at_23) rfl rfl ?_
    show Steps p.tables e below (T9.setTop (mkF m 24 #[.val (.int p1), .val (.int p2), .val (.int p3), .val (.ref b2), .val (.int z4_8), .unset, .unset, .unset, .unset] [(.ref b9), (.ref b9)])) _
    refine XS.aloadN X9.here hx rfl (hb hby at_24) rfl rfl ?_
    show Steps p.tables e below (T9.setTop (mkF m 25 #[.val (.int p1), .val (.int p2), .val (.int p3), .val (.ref b2), .val (.int z4_8), .unset, .unset, .unset, .unset] [(.ref b2), (.ref b9), (.ref b9)])) _
    exact kt
  refine OwnG.st sg12 ?_
  obtain ⟨_, _, ⟨T13, L13, k13, n13⟩, -, X13, ⟨Lc13, hQ13, l13, y13, z13⟩, st13⟩ := X9.specialBack hx (y := (⟨"com/example/ubicacion/ubicacion/lmf/AlignedPer$Reader", "<init>", "([B)V"⟩ : MethodName)) rfl hown (mvT hZ (hw _ (List.mem_of_getElem? (i := 4) rfl))) (mvT hZ (hw _ (List.mem_of_getElem? (i := 5) rfl))) (mvT hZ (hw _ (List.mem_of_getElem? (i := 6) rfl))) (by decide) (backOf (W := 1) (rm1 l Z a0 hw [] b9 b2  h9 n0 Z9 gb_b9 A9 F9_encoding F9_position) hZ (hw _ (List.mem_of_getElem? (i := 6) rfl)) (hw _ (List.mem_of_getElem? (i := 3) rfl)) (by decide) (by decide)) (g := (mkF m 25 #[.val (.int p1), .val (.int p2), .val (.int p3), .val (.ref b2), .val (.int z4_8), .unset, .unset, .unset, .unset] [(.ref b2), (.ref b9), (.ref b9)])) rfl (by rw [hml]; rfl) (Steps.refl _) (a := b9) (argsL := [(.ref b2)]) (rest := [(.ref b9)]) (lenOf pd_0_0 rfl) rfl (by show 2 * 0 + _ ≤ _; exact Nat.le_of_eq rfl) (hb hby at_25) (fun _ _ => ⟨rfl, e9, (by decide : 2 + 0 ≤ _), (by decide : 4 + 0 ≤ _)⟩)
  dsimp only [Pt.U, Pt.locs, Pt.cells, Pt.slots] at X13 l13 y13 z13 st13 hQ13
  subst l13 y13 z13
  obtain ⟨rfl, N13q, Kq13, Eq13, Fe13, Fp13⟩ := hQ13
  have Z13 : n0 ≤ T13.heap.size := Nat.le_trans Z9 Kq13.1
  have fA_b2_14 := (fA_b2_11.keep Kq13 (ninS ne9_10 nin0))
  have fE_b9_15 := (Exa.keep A9 Kq13)
  have Fp13' : Fld Z T13.heap b9 "com/example/ubicacion/ubicacion/lmf/AlignedPer$Reader" "position" "J" (.long (Int64.ofNat 0)) := Fp13
  have N13 := Fr.app N6 N13q
  refine OwnG.st (fun t k => st13.trans k) ?_
  show OwnG p e below s _ _ _ T13 (mkF m 28 #[.val (.int p1), .val (.int p2), .val (.int p3), .val (.ref b2), .val (.int z4_8), .unset, .unset, .unset, .unset] [(.ref b9)])
  have sg16 : ∀ tgt, Steps p.tables e below (T13.setTop (mkF m 32 #[.val (.int p1), .val (.int p2), .val (.int p3), .val (.ref b2), .val (.int z4_8), .val (.ref b9), .unset, .unset, .unset] [(.int z4_8)])) tgt → Steps p.tables e below (T13.setTop (mkF m 28 #[.val (.int p1), .val (.int p2), .val (.int p3), .val (.ref b2), .val (.int z4_8), .unset, .unset, .unset, .unset] [(.ref b9)])) tgt := by
    intro tgt kt
    refine XS.astore X13.here hx rfl (hb hby at_28) rfl rfl (l' := #[.val (.int p1), .val (.int p2), .val (.int p3), .val (.ref b2), .val (.int z4_8), .val (.ref b9), .unset, .unset, .unset]) rfl ?_
    show Steps p.tables e below (T13.setTop (mkF m 30 #[.val (.int p1), .val (.int p2), .val (.int p3), .val (.ref b2), .val (.int z4_8), .val (.ref b9), .unset, .unset, .unset] [])) _
    refine XS.iload X13.here hx rfl (hb hby at_30) rfl ?_
    show Steps p.tables e below (T13.setTop (mkF m 32 #[.val (.int p1), .val (.int p2), .val (.int p3), .val (.ref b2), .val (.int z4_8), .val (.ref b9), .unset, .unset, .unset] [(.int z4_8)])) _
    exact kt
  refine OwnG.st sg16 ?_
  by_cases hc32_17 : (0 : Int32) < z4_8
  · have sg18 : ∀ tgt, Steps p.tables e below (T13.setTop (mkF m 39 #[.val (.int p1), .val (.int p2), .val (.int p3), .val (.ref b2), .val (.int z4_8), .val (.ref b9), .unset, .unset, .unset] [(.int z4_8), (.ref b9)])) tgt → Steps p.tables e below (T13.setTop (mkF m 32 #[.val (.int p1), .val (.int p2), .val (.int p3), .val (.ref b2), .val (.int z4_8), .val (.ref b9), .unset, .unset, .unset] [(.int z4_8)])) tgt := by
      intro tgt kt
      refine XS.ifNo X13.here hx rfl (hb hby at_32) rfl ((if0 _ _).trans (tlt hc32_17).2.2.2) ?_
      show Steps p.tables e below (T13.setTop (mkF m 35 #[.val (.int p1), .val (.int p2), .val (.int p3), .val (.ref b2), .val (.int z4_8), .val (.ref b9), .unset, .unset, .unset] [])) _
      refine XS.aload X13.here hx rfl (hb hby at_35) rfl rfl ?_
      show Steps p.tables e below (T13.setTop (mkF m 37 #[.val (.int p1), .val (.int p2), .val (.int p3), .val (.ref b2), .val (.int z4_8), .val (.ref b9), .unset, .unset, .unset] [(.ref b9)])) _
      refine XS.iload X13.here hx rfl (hb hby at_37) rfl ?_
      show Steps p.tables e below (T13.setTop (mkF m 39 #[.val (.int p1), .val (.int p2), .val (.int p3), .val (.ref b2), .val (.int z4_8), .val (.ref b9), .unset, .unset, .unset] [(.int z4_8), (.ref b9)])) _
      exact kt
    refine OwnG.st sg18 ?_
    obtain ⟨cq19, kq19, q19a, q19b, q19c⟩ := isOf hZ rfl Eq13
    obtain ⟨_, _, ⟨T19, L19, k19, n19⟩, -, X19, ⟨Lc19, hQ19, l19, y19, z19⟩, st19⟩ := X13.virtualBack hx (y := (⟨"com/example/ubicacion/ubicacion/lmf/AlignedPer$Reader", "bits", "(I)J"⟩ : MethodName)) (z := (⟨"com/example/ubicacion/ubicacion/lmf/AlignedPer$Reader", "bits", "(I)J"⟩ : MethodName)) hown (mvT hZ (hw _ (List.mem_of_getElem? (i := 12) rfl))) (mvT hZ (hw _ (List.mem_of_getElem? (i := 13) rfl))) (notFace_of_selects (args := #[]) (mvT hZ (hw _ (List.mem_of_getElem? (i := 15) rfl)))) (mvT hZ (hw _ (List.mem_of_getElem? (i := 15) rfl))) (mvT hZ (hw _ (List.mem_of_getElem? (i := 14) rfl))) (by decide) (backOf (W := 0) (rm3 l Z a0 hw [] b9 z4_8 b2 0 2 gB T13.heap n0 Z13 gb_b9 Eq13 Fe13 Fp13' fA_b2_14 ne9_10 hkk.1 (by show 0 + _ ≤ 8 * 2; omega) (by decide)) hZ (hw _ (List.mem_of_getElem? (i := 16) rfl)) (hw _ (List.mem_of_getElem? (i := 3) rfl)) (by decide) (by decide)) q19a q19c (g := (mkF m 39 #[.val (.int p1), .val (.int p2), .val (.int p3), .val (.ref b2), .val (.int z4_8), .val (.ref b9), .unset, .unset, .unset] [(.int z4_8), (.ref b9)])) rfl (by rw [hml]; rfl) (Steps.refl _) (argsL := [(.int z4_8)]) (rest := []) (lenOf pd_0_1 rfl) rfl (by show 2 * 0 + _ ≤ _; exact Nat.le_of_eq rfl) (hb hby at_39) (fun _ _ => ⟨rfl, rfl, (by decide : 2 + 0 ≤ _), (by decide : 4 + 0 ≤ _)⟩)
    dsimp only [Pt.U, Pt.locs, Pt.cells, Pt.slots] at X19 l19 y19 z19 st19 hQ19
    subst l19 y19 z19
    obtain ⟨rfl, N19q, Kq19, Eq19, Fe19, Fp19⟩ := hQ19
    have Z19 : n0 ≤ T19.heap.size := Nat.le_trans Z13 Kq19.1
    have fA_b2_20 := (fA_b2_14.keep Kq19 (ninS ne9_10 nin0))
    have fE_b9_21 := (Exa.keep Eq13 Kq19)
    have N19 := Fr.app N13 N19q
    refine OwnG.st (fun t k => st19.trans k) ?_
    show OwnG p e below s _ _ _ T19 (mkF m 42 #[.val (.int p1), .val (.int p2), .val (.int p3), .val (.ref b2), .val (.int z4_8), .val (.ref b9), .unset, .unset, .unset] [(.long (own_bits gB 0 z4_8.toInt.toNat))])
    have sg22 : ∀ tgt, Steps p.tables e below (T19.setTop (mkF m 45 #[.val (.int p1), .val (.int p2), .val (.int p3), .val (.ref b2), .val (.int z4_8), .val (.ref b9), .unset, .unset, .unset] [(.ref b9)])) tgt → Steps p.tables e below (T19.setTop (mkF m 42 #[.val (.int p1), .val (.int p2), .val (.int p3), .val (.ref b2), .val (.int z4_8), .val (.ref b9), .unset, .unset, .unset] [(.long (own_bits gB 0 z4_8.toInt.toNat))])) tgt := by
      intro tgt kt
      jvm_step X19.here [X19.here.top, hx, (hb hby at_42), Value.category]
      show Steps p.tables e below (T19.setTop (mkF m 43 #[.val (.int p1), .val (.int p2), .val (.int p3), .val (.ref b2), .val (.int z4_8), .val (.ref b9), .unset, .unset, .unset] [])) _
      refine XS.aload X19.here hx rfl (hb hby at_43) rfl rfl ?_
      show Steps p.tables e below (T19.setTop (mkF m 45 #[.val (.int p1), .val (.int p2), .val (.int p3), .val (.ref b2), .val (.int z4_8), .val (.ref b9), .unset, .unset, .unset] [(.ref b9)])) _
      exact kt
    refine OwnG.st sg22 ?_
    obtain ⟨cq23, kq23, q23a, q23b, q23c⟩ := isOf hZ rfl Eq19
    obtain ⟨_, _, ⟨T23, L23, k23, n23⟩, -, X23, ⟨Lc23, hQ23, l23, y23, z23⟩, st23⟩ := X19.virtualBack hx (y := (⟨"com/example/ubicacion/ubicacion/lmf/AlignedPer$Reader", "bit", "()Z"⟩ : MethodName)) (z := (⟨"com/example/ubicacion/ubicacion/lmf/AlignedPer$Reader", "bit", "()Z"⟩ : MethodName)) hown (mvT hZ (hw _ (List.mem_of_getElem? (i := 21) rfl))) (mvT hZ (hw _ (List.mem_of_getElem? (i := 22) rfl))) (notFace_of_selects (args := #[]) (mvT hZ (hw _ (List.mem_of_getElem? (i := 24) rfl)))) (mvT hZ (hw _ (List.mem_of_getElem? (i := 24) rfl))) (mvT hZ (hw _ (List.mem_of_getElem? (i := 23) rfl))) (by decide) (backOf (W := 0) (rm4 l Z a0 hw [] b9 b2 (0 + z4_8.toInt.toNat) 2 gB T19.heap n0 Z19 gb_b9 Eq19 Fe19 Fp19 fA_b2_20 ne9_10 (by show (0 + z4_8.toInt.toNat) + 1 ≤ 8 * 2; omega) (by decide)) hZ (hw _ (List.mem_of_getElem? (i := 25) rfl)) (hw _ (List.mem_of_getElem? (i := 3) rfl)) (by decide) (by decide)) q23a q23c (g := (mkF m 45 #[.val (.int p1), .val (.int p2), .val (.int p3), .val (.ref b2), .val (.int z4_8), .val (.ref b9), .unset, .unset, .unset] [(.ref b9)])) rfl (by rw [hml]; rfl) (Steps.refl _) (argsL := []) (rest := []) (lenOf pd_0_2 rfl) rfl (by show 2 * 0 + _ ≤ _; exact Nat.le_of_eq rfl) (hb hby at_45) (fun _ _ => ⟨rfl, rfl, (by decide : 2 + 0 ≤ _), (by decide : 4 + 0 ≤ _)⟩)
    dsimp only [Pt.U, Pt.locs, Pt.cells, Pt.slots] at X23 l23 y23 z23 st23 hQ23
    subst l23 y23 z23
    obtain ⟨rfl, N23q, Kq23, Eq23, Fe23, Fp23⟩ := hQ23
    have Z23 : n0 ≤ T23.heap.size := Nat.le_trans Z19 Kq23.1
    have fA_b2_24 := (fA_b2_20.keep Kq23 (ninS ne9_10 nin0))
    have fE_b9_25 := (Exa.keep Eq19 Kq23)
    have N23 := Fr.app N19 N23q
    refine OwnG.st (fun t k => st23.trans k) ?_
    show OwnG p e below s _ _ _ T23 (mkF m 48 #[.val (.int p1), .val (.int p2), .val (.int p3), .val (.ref b2), .val (.int z4_8), .val (.ref b9), .unset, .unset, .unset] [(.int (if own_bits gB (0 + z4_8.toInt.toNat) 1 = (1 : Int64) then (1 : Int32) else (0 : Int32)))])
    have sg26 : ∀ tgt, Steps p.tables e below (T23.setTop (mkF m 56 #[.val (.int p1), .val (.int p2), .val (.int p3), .val (.ref b2), .val (.int z4_8), .val (.ref b9), .val (.int (if own_bits gB (0 + z4_8.toInt.toNat) 1 = (1 : Int64) then (1 : Int32) else (0 : Int32))), .unset, .unset] [(.int z4_8), (.int p2), (.int p1), (.int (if own_bits gB (0 + z4_8.toInt.toNat) 1 = (1 : Int64) then (1 : Int32) else (0 : Int32)))])) tgt → Steps p.tables e below (T23.setTop (mkF m 48 #[.val (.int p1), .val (.int p2), .val (.int p3), .val (.ref b2), .val (.int z4_8), .val (.ref b9), .unset, .unset, .unset] [(.int (if own_bits gB (0 + z4_8.toInt.toNat) 1 = (1 : Int64) then (1 : Int32) else (0 : Int32)))])) tgt := by
      intro tgt kt
      refine XS.istore X23.here hx rfl (hb hby at_48) rfl (l' := #[.val (.int p1), .val (.int p2), .val (.int p3), .val (.ref b2), .val (.int z4_8), .val (.ref b9), .val (.int (if own_bits gB (0 + z4_8.toInt.toNat) 1 = (1 : Int64) then (1 : Int32) else (0 : Int32))), .unset, .unset]) rfl ?_
      show Steps p.tables e below (T23.setTop (mkF m 50 #[.val (.int p1), .val (.int p2), .val (.int p3), .val (.ref b2), .val (.int z4_8), .val (.ref b9), .val (.int (if own_bits gB (0 + z4_8.toInt.toNat) 1 = (1 : Int64) then (1 : Int32) else (0 : Int32))), .unset, .unset] [])) _
      refine XS.iload X23.here hx rfl (hb hby at_50) rfl ?_
      show Steps p.tables e below (T23.setTop (mkF m 52 #[.val (.int p1), .val (.int p2), .val (.int p3), .val (.ref b2), .val (.int z4_8), .val (.ref b9), .val (.int (if own_bits gB (0 + z4_8.toInt.toNat) 1 = (1 : Int64) then (1 : Int32) else (0 : Int32))), .unset, .unset] [(.int (if own_bits gB (0 + z4_8.toInt.toNat) 1 = (1 : Int64) then (1 : Int32) else (0 : Int32)))])) _
      refine XS.iloadN X23.here hx rfl (hb hby at_52) rfl ?_
      show Steps p.tables e below (T23.setTop (mkF m 53 #[.val (.int p1), .val (.int p2), .val (.int p3), .val (.ref b2), .val (.int z4_8), .val (.ref b9), .val (.int (if own_bits gB (0 + z4_8.toInt.toNat) 1 = (1 : Int64) then (1 : Int32) else (0 : Int32))), .unset, .unset] [(.int p1), (.int (if own_bits gB (0 + z4_8.toInt.toNat) 1 = (1 : Int64) then (1 : Int32) else (0 : Int32)))])) _
      refine XS.iloadN X23.here hx rfl (hb hby at_53) rfl ?_
      show Steps p.tables e below (T23.setTop (mkF m 54 #[.val (.int p1), .val (.int p2), .val (.int p3), .val (.ref b2), .val (.int z4_8), .val (.ref b9), .val (.int (if own_bits gB (0 + z4_8.toInt.toNat) 1 = (1 : Int64) then (1 : Int32) else (0 : Int32))), .unset, .unset] [(.int p2), (.int p1), (.int (if own_bits gB (0 + z4_8.toInt.toNat) 1 = (1 : Int64) then (1 : Int32) else (0 : Int32)))])) _
      refine XS.iload X23.here hx rfl (hb hby at_54) rfl ?_
      show Steps p.tables e below (T23.setTop (mkF m 56 #[.val (.int p1), .val (.int p2), .val (.int p3), .val (.ref b2), .val (.int z4_8), .val (.ref b9), .val (.int (if own_bits gB (0 + z4_8.toInt.toNat) 1 = (1 : Int64) then (1 : Int32) else (0 : Int32))), .unset, .unset] [(.int z4_8), (.int p2), (.int p1), (.int (if own_bits gB (0 + z4_8.toInt.toNat) 1 = (1 : Int64) then (1 : Int32) else (0 : Int32)))])) _
      exact kt
    refine OwnG.st sg26 ?_
    obtain ⟨_, _, ⟨T27, L27, k27, n27⟩, -, X27, ⟨Lc27, hQ27, l27, y27, z27⟩, st27⟩ := Jvm.LawKit.callS X23 hx (y := (⟨"com/example/ubicacion/ubicacion/lmf/ReaderBitPinLaw", "expected", "(III)Z"⟩ : MethodName)) hown (mvT hZ (hw _ (List.mem_of_getElem? (i := 27) rfl))) (mvT hZ (hw _ (List.mem_of_getElem? (i := 28) rfl))) (mvT hZ (hw _ (List.mem_of_getElem? (i := 29) rfl))) (mvT hZ (hw _ (List.mem_of_getElem? (i := 30) rfl))) (by decide) (backOf (W := 1) (rm5 l Z a0 hw [] p1 p2 z4_8  T23.heap n0 Z23 ) hZ (hw _ (List.mem_of_getElem? (i := 30) rfl)) (hw _ (List.mem_of_getElem? (i := 29) rfl)) (by decide) (by decide)) (g := (mkF m 56 #[.val (.int p1), .val (.int p2), .val (.int p3), .val (.ref b2), .val (.int z4_8), .val (.ref b9), .val (.int (if own_bits gB (0 + z4_8.toInt.toNat) 1 = (1 : Int64) then (1 : Int32) else (0 : Int32))), .unset, .unset] [(.int z4_8), (.int p2), (.int p1), (.int (if own_bits gB (0 + z4_8.toInt.toNat) 1 = (1 : Int64) then (1 : Int32) else (0 : Int32)))])) rfl (by rw [hml]; rfl) (argsL := [(.int p1), (.int p2), (.int z4_8)]) (rest := [(.int (if own_bits gB (0 + z4_8.toInt.toNat) 1 = (1 : Int64) then (1 : Int32) else (0 : Int32)))]) (lenOf pd_0_3 rfl) rfl (by show 2 * 0 + _ ≤ _; exact Nat.le_of_eq rfl) (hb hby at_56) (fun _ _ => ⟨rfl, rfl, (by decide : 2 + 0 ≤ _), (by decide : 4 + 0 ≤ _)⟩)
    dsimp only [Pt.U, Pt.locs, Pt.cells, Pt.slots] at X27 l27 y27 z27 st27 hQ27
    subst l27 y27 z27
    obtain ⟨rfl, N27q, e27⟩ := hQ27
    have N27 := Fr.app N23 N27q
    refine OwnG.st (fun t k => st27 t k) ?_
    show OwnG p e below s _ _ _ T27 (mkF m 59 #[.val (.int p1), .val (.int p2), .val (.int p3), .val (.ref b2), .val (.int z4_8), .val (.ref b9), .val (.int (if own_bits gB (0 + z4_8.toInt.toNat) 1 = (1 : Int64) then (1 : Int32) else (0 : Int32))), .unset, .unset] [(.int (F5 p1 p2 z4_8)), (.int (if own_bits gB (0 + z4_8.toInt.toNat) 1 = (1 : Int64) then (1 : Int32) else (0 : Int32)))])
    have hc59_28 : (if own_bits gB (0 + z4_8.toInt.toNat) 1 = (1 : Int64) then (1 : Int32) else (0 : Int32)) = (F5 p1 p2 z4_8) := own_e gB _ _ _ ((0 + z4_8.toInt.toNat)) (by rw [hgB]; rfl) (by rw [hgB]; rfl) (by have q := hc32_17; rw [Int32.lt_iff_toInt_lt, show (0 : Int32).toInt = 0 from rfl] at q; omega) (by omega)
    have sg29 : ∀ tgt, Steps p.tables e below (T27.setTop (mkF m 73 #[.val (.int p1), .val (.int p2), .val (.int p3), .val (.ref b2), .val (.int z4_8), .val (.ref b9), .val (.int (if own_bits gB (0 + z4_8.toInt.toNat) 1 = (1 : Int64) then (1 : Int32) else (0 : Int32))), .val (.int (1 : Int32)), .unset] [(.int (15 : Int32)), (.int z4_8)])) tgt → Steps p.tables e below (T27.setTop (mkF m 59 #[.val (.int p1), .val (.int p2), .val (.int p3), .val (.ref b2), .val (.int z4_8), .val (.ref b9), .val (.int (if own_bits gB (0 + z4_8.toInt.toNat) 1 = (1 : Int64) then (1 : Int32) else (0 : Int32))), .unset, .unset] [(.int (F5 p1 p2 z4_8)), (.int (if own_bits gB (0 + z4_8.toInt.toNat) 1 = (1 : Int64) then (1 : Int32) else (0 : Int32)))])) tgt := by
      intro tgt kt
      refine XS.icmpNo X27.here hx rfl (hb hby at_59) rfl (teq hc59_28).2 ?_
      show Steps p.tables e below (T27.setTop (mkF m 62 #[.val (.int p1), .val (.int p2), .val (.int p3), .val (.ref b2), .val (.int z4_8), .val (.ref b9), .val (.int (if own_bits gB (0 + z4_8.toInt.toNat) 1 = (1 : Int64) then (1 : Int32) else (0 : Int32))), .unset, .unset] [])) _
      refine XS.iconst X27.here hx rfl (hb hby at_62) ?_
      show Steps p.tables e below (T27.setTop (mkF m 63 #[.val (.int p1), .val (.int p2), .val (.int p3), .val (.ref b2), .val (.int z4_8), .val (.ref b9), .val (.int (if own_bits gB (0 + z4_8.toInt.toNat) 1 = (1 : Int64) then (1 : Int32) else (0 : Int32))), .unset, .unset] [(.int (1 : Int32))])) _
      refine XS.goto X27.here hx rfl (pc0 := 63) (pc' := 67) rfl (hb hby at_63) (by decide) (by decide) ?_
      show Steps p.tables e below (T27.setTop (mkF m 67 #[.val (.int p1), .val (.int p2), .val (.int p3), .val (.ref b2), .val (.int z4_8), .val (.ref b9), .val (.int (if own_bits gB (0 + z4_8.toInt.toNat) 1 = (1 : Int64) then (1 : Int32) else (0 : Int32))), .unset, .unset] [(.int (1 : Int32))])) _
      refine XS.istore X27.here hx rfl (hb hby at_67) rfl (l' := #[.val (.int p1), .val (.int p2), .val (.int p3), .val (.ref b2), .val (.int z4_8), .val (.ref b9), .val (.int (if own_bits gB (0 + z4_8.toInt.toNat) 1 = (1 : Int64) then (1 : Int32) else (0 : Int32))), .val (.int (1 : Int32)), .unset]) rfl ?_
      show Steps p.tables e below (T27.setTop (mkF m 69 #[.val (.int p1), .val (.int p2), .val (.int p3), .val (.ref b2), .val (.int z4_8), .val (.ref b9), .val (.int (if own_bits gB (0 + z4_8.toInt.toNat) 1 = (1 : Int64) then (1 : Int32) else (0 : Int32))), .val (.int (1 : Int32)), .unset] [])) _
      refine XS.iload X27.here hx rfl (hb hby at_69) rfl ?_
      show Steps p.tables e below (T27.setTop (mkF m 71 #[.val (.int p1), .val (.int p2), .val (.int p3), .val (.ref b2), .val (.int z4_8), .val (.ref b9), .val (.int (if own_bits gB (0 + z4_8.toInt.toNat) 1 = (1 : Int64) then (1 : Int32) else (0 : Int32))), .val (.int (1 : Int32)), .unset] [(.int z4_8)])) _
      refine XS.bipush X27.here hx rfl (hb hby at_71) ?_
      show Steps p.tables e below (T27.setTop (mkF m 73 #[.val (.int p1), .val (.int p2), .val (.int p3), .val (.ref b2), .val (.int z4_8), .val (.ref b9), .val (.int (if own_bits gB (0 + z4_8.toInt.toNat) 1 = (1 : Int64) then (1 : Int32) else (0 : Int32))), .val (.int (1 : Int32)), .unset] [(.int (15 : Int32)), (.int z4_8)])) _
      exact kt
    refine OwnG.st sg29 ?_
    by_cases hc73_30 : z4_8 < (15 : Int32)
    · have sg31 : ∀ tgt, Steps p.tables e below (T27.setTop (mkF m 78 #[.val (.int p1), .val (.int p2), .val (.int p3), .val (.ref b2), .val (.int z4_8), .val (.ref b9), .val (.int (if own_bits gB (0 + z4_8.toInt.toNat) 1 = (1 : Int64) then (1 : Int32) else (0 : Int32))), .val (.int (1 : Int32)), .unset] [(.ref b9)])) tgt → Steps p.tables e below (T27.setTop (mkF m 73 #[.val (.int p1), .val (.int p2), .val (.int p3), .val (.ref b2), .val (.int z4_8), .val (.ref b9), .val (.int (if own_bits gB (0 + z4_8.toInt.toNat) 1 = (1 : Int64) then (1 : Int32) else (0 : Int32))), .val (.int (1 : Int32)), .unset] [(.int (15 : Int32)), (.int z4_8)])) tgt := by
        intro tgt kt
        refine XS.icmpNo X27.here hx rfl (hb hby at_73) rfl (tlt hc73_30).2.1 ?_
        show Steps p.tables e below (T27.setTop (mkF m 76 #[.val (.int p1), .val (.int p2), .val (.int p3), .val (.ref b2), .val (.int z4_8), .val (.ref b9), .val (.int (if own_bits gB (0 + z4_8.toInt.toNat) 1 = (1 : Int64) then (1 : Int32) else (0 : Int32))), .val (.int (1 : Int32)), .unset] [])) _
        refine XS.aload X27.here hx rfl (hb hby at_76) rfl rfl ?_
        show Steps p.tables e below (T27.setTop (mkF m 78 #[.val (.int p1), .val (.int p2), .val (.int p3), .val (.ref b2), .val (.int z4_8), .val (.ref b9), .val (.int (if own_bits gB (0 + z4_8.toInt.toNat) 1 = (1 : Int64) then (1 : Int32) else (0 : Int32))), .val (.int (1 : Int32)), .unset] [(.ref b9)])) _
        exact kt
      refine OwnG.st sg31 ?_
      obtain ⟨cq32, kq32, q32a, q32b, q32c⟩ := isOf hZ e27 Eq23
      obtain ⟨_, _, ⟨T32, L32, k32, n32⟩, -, X32, ⟨Lc32, hQ32, l32, y32, z32⟩, st32⟩ := X27.virtualBack hx (y := (⟨"com/example/ubicacion/ubicacion/lmf/AlignedPer$Reader", "bit", "()Z"⟩ : MethodName)) (z := (⟨"com/example/ubicacion/ubicacion/lmf/AlignedPer$Reader", "bit", "()Z"⟩ : MethodName)) hown (mvT hZ (hw _ (List.mem_of_getElem? (i := 21) rfl))) (mvT hZ (hw _ (List.mem_of_getElem? (i := 22) rfl))) (notFace_of_selects (args := #[]) (mvT hZ (hw _ (List.mem_of_getElem? (i := 24) rfl)))) (mvT hZ (hw _ (List.mem_of_getElem? (i := 24) rfl))) (mvT hZ (hw _ (List.mem_of_getElem? (i := 23) rfl))) (by decide) (backOf (W := 0) (rm4 l Z a0 hw [] b9 b2 ((0 + z4_8.toInt.toNat) + 1) 2 gB T23.heap n0 Z23 gb_b9 Eq23 Fe23 Fp23 fA_b2_24 ne9_10 (by have q2 := hc73_30; rw [Int32.lt_iff_toInt_lt, show (15 : Int32).toInt = 15 from rfl] at q2; show ((0 + z4_8.toInt.toNat) + 1) + 1 ≤ 8 * 2; omega) (by decide)) hZ (hw _ (List.mem_of_getElem? (i := 25) rfl)) (hw _ (List.mem_of_getElem? (i := 3) rfl)) (by decide) (by decide)) q32a q32c (g := (mkF m 78 #[.val (.int p1), .val (.int p2), .val (.int p3), .val (.ref b2), .val (.int z4_8), .val (.ref b9), .val (.int (if own_bits gB (0 + z4_8.toInt.toNat) 1 = (1 : Int64) then (1 : Int32) else (0 : Int32))), .val (.int (1 : Int32)), .unset] [(.ref b9)])) rfl (by rw [hml]; rfl) (Steps.refl _) (argsL := []) (rest := []) (lenOf pd_0_2 rfl) rfl (by show 2 * 0 + _ ≤ _; exact Nat.le_of_eq rfl) (hb hby at_78) (fun _ _ => ⟨rfl, e27, (by decide : 2 + 0 ≤ _), (by decide : 4 + 0 ≤ _)⟩)
      dsimp only [Pt.U, Pt.locs, Pt.cells, Pt.slots] at X32 l32 y32 z32 st32 hQ32
      subst l32 y32 z32
      obtain ⟨rfl, N32q, Kq32, Eq32, Fe32, Fp32⟩ := hQ32
      have Z32 : n0 ≤ T32.heap.size := Nat.le_trans Z23 Kq32.1
      have fA_b2_33 := (fA_b2_24.keep Kq32 (ninS ne9_10 nin0))
      have fE_b9_34 := (Exa.keep Eq23 Kq32)
      have N32 := Fr.app N27 N32q
      refine OwnG.st (fun t k => st32.trans k) ?_
      show OwnG p e below s _ _ _ T32 (mkF m 81 #[.val (.int p1), .val (.int p2), .val (.int p3), .val (.ref b2), .val (.int z4_8), .val (.ref b9), .val (.int (if own_bits gB (0 + z4_8.toInt.toNat) 1 = (1 : Int64) then (1 : Int32) else (0 : Int32))), .val (.int (1 : Int32)), .unset] [(.int (if own_bits gB ((0 + z4_8.toInt.toNat) + 1) 1 = (1 : Int64) then (1 : Int32) else (0 : Int32)))])
      have hc85_35 : ¬ ((1 : Int32) = (0 : Int32)) := by decide
      have sg36 : ∀ tgt, Steps p.tables e below (T32.setTop (mkF m 96 #[.val (.int p1), .val (.int p2), .val (.int p3), .val (.ref b2), .val (.int z4_8), .val (.ref b9), .val (.int (if own_bits gB (0 + z4_8.toInt.toNat) 1 = (1 : Int64) then (1 : Int32) else (0 : Int32))), .val (.int (1 : Int32)), .val (.int (if own_bits gB ((0 + z4_8.toInt.toNat) + 1) 1 = (1 : Int64) then (1 : Int32) else (0 : Int32)))] [(.int (z4_8 + (1 : Int32))), (.int p2), (.int p1), (.int (if own_bits gB ((0 + z4_8.toInt.toNat) + 1) 1 = (1 : Int64) then (1 : Int32) else (0 : Int32)))])) tgt → Steps p.tables e below (T32.setTop (mkF m 81 #[.val (.int p1), .val (.int p2), .val (.int p3), .val (.ref b2), .val (.int z4_8), .val (.ref b9), .val (.int (if own_bits gB (0 + z4_8.toInt.toNat) 1 = (1 : Int64) then (1 : Int32) else (0 : Int32))), .val (.int (1 : Int32)), .unset] [(.int (if own_bits gB ((0 + z4_8.toInt.toNat) + 1) 1 = (1 : Int64) then (1 : Int32) else (0 : Int32)))])) tgt := by
        intro tgt kt
        refine XS.istore X32.here hx rfl (hb hby at_81) rfl (l' := #[.val (.int p1), .val (.int p2), .val (.int p3), .val (.ref b2), .val (.int z4_8), .val (.ref b9), .val (.int (if own_bits gB (0 + z4_8.toInt.toNat) 1 = (1 : Int64) then (1 : Int32) else (0 : Int32))), .val (.int (1 : Int32)), .val (.int (if own_bits gB ((0 + z4_8.toInt.toNat) + 1) 1 = (1 : Int64) then (1 : Int32) else (0 : Int32)))]) rfl ?_
        show Steps p.tables e below (T32.setTop (mkF m 83 #[.val (.int p1), .val (.int p2), .val (.int p3), .val (.ref b2), .val (.int z4_8), .val (.ref b9), .val (.int (if own_bits gB (0 + z4_8.toInt.toNat) 1 = (1 : Int64) then (1 : Int32) else (0 : Int32))), .val (.int (1 : Int32)), .val (.int (if own_bits gB ((0 + z4_8.toInt.toNat) + 1) 1 = (1 : Int64) then (1 : Int32) else (0 : Int32)))] [])) _
        refine XS.iload X32.here hx rfl (hb hby at_83) rfl ?_
        show Steps p.tables e below (T32.setTop (mkF m 85 #[.val (.int p1), .val (.int p2), .val (.int p3), .val (.ref b2), .val (.int z4_8), .val (.ref b9), .val (.int (if own_bits gB (0 + z4_8.toInt.toNat) 1 = (1 : Int64) then (1 : Int32) else (0 : Int32))), .val (.int (1 : Int32)), .val (.int (if own_bits gB ((0 + z4_8.toInt.toNat) + 1) 1 = (1 : Int64) then (1 : Int32) else (0 : Int32)))] [(.int (1 : Int32))])) _
        refine XS.ifNo X32.here hx rfl (hb hby at_85) rfl ((if0 _ _).trans (feq hc85_35).1) ?_
        show Steps p.tables e below (T32.setTop (mkF m 88 #[.val (.int p1), .val (.int p2), .val (.int p3), .val (.ref b2), .val (.int z4_8), .val (.ref b9), .val (.int (if own_bits gB (0 + z4_8.toInt.toNat) 1 = (1 : Int64) then (1 : Int32) else (0 : Int32))), .val (.int (1 : Int32)), .val (.int (if own_bits gB ((0 + z4_8.toInt.toNat) + 1) 1 = (1 : Int64) then (1 : Int32) else (0 : Int32)))] [])) _
        refine XS.iload X32.here hx rfl (hb hby at_88) rfl ?_
        show Steps p.tables e below (T32.setTop (mkF m 90 #[.val (.int p1), .val (.int p2), .val (.int p3), .val (.ref b2), .val (.int z4_8), .val (.ref b9), .val (.int (if own_bits gB (0 + z4_8.toInt.toNat) 1 = (1 : Int64) then (1 : Int32) else (0 : Int32))), .val (.int (1 : Int32)), .val (.int (if own_bits gB ((0 + z4_8.toInt.toNat) + 1) 1 = (1 : Int64) then (1 : Int32) else (0 : Int32)))] [(.int (if own_bits gB ((0 + z4_8.toInt.toNat) + 1) 1 = (1 : Int64) then (1 : Int32) else (0 : Int32)))])) _
        refine XS.iloadN X32.here hx rfl (hb hby at_90) rfl ?_
        show Steps p.tables e below (T32.setTop (mkF m 91 #[.val (.int p1), .val (.int p2), .val (.int p3), .val (.ref b2), .val (.int z4_8), .val (.ref b9), .val (.int (if own_bits gB (0 + z4_8.toInt.toNat) 1 = (1 : Int64) then (1 : Int32) else (0 : Int32))), .val (.int (1 : Int32)), .val (.int (if own_bits gB ((0 + z4_8.toInt.toNat) + 1) 1 = (1 : Int64) then (1 : Int32) else (0 : Int32)))] [(.int p1), (.int (if own_bits gB ((0 + z4_8.toInt.toNat) + 1) 1 = (1 : Int64) then (1 : Int32) else (0 : Int32)))])) _
        refine XS.iloadN X32.here hx rfl (hb hby at_91) rfl ?_
        show Steps p.tables e below (T32.setTop (mkF m 92 #[.val (.int p1), .val (.int p2), .val (.int p3), .val (.ref b2), .val (.int z4_8), .val (.ref b9), .val (.int (if own_bits gB (0 + z4_8.toInt.toNat) 1 = (1 : Int64) then (1 : Int32) else (0 : Int32))), .val (.int (1 : Int32)), .val (.int (if own_bits gB ((0 + z4_8.toInt.toNat) + 1) 1 = (1 : Int64) then (1 : Int32) else (0 : Int32)))] [(.int p2), (.int p1), (.int (if own_bits gB ((0 + z4_8.toInt.toNat) + 1) 1 = (1 : Int64) then (1 : Int32) else (0 : Int32)))])) _
        refine XS.iload X32.here hx rfl (hb hby at_92) rfl ?_
        show Steps p.tables e below (T32.setTop (mkF m 94 #[.val (.int p1), .val (.int p2), .val (.int p3), .val (.ref b2), .val (.int z4_8), .val (.ref b9), .val (.int (if own_bits gB (0 + z4_8.toInt.toNat) 1 = (1 : Int64) then (1 : Int32) else (0 : Int32))), .val (.int (1 : Int32)), .val (.int (if own_bits gB ((0 + z4_8.toInt.toNat) + 1) 1 = (1 : Int64) then (1 : Int32) else (0 : Int32)))] [(.int z4_8), (.int p2), (.int p1), (.int (if own_bits gB ((0 + z4_8.toInt.toNat) + 1) 1 = (1 : Int64) then (1 : Int32) else (0 : Int32)))])) _
        refine XS.iconst X32.here hx rfl (hb hby at_94) ?_
        show Steps p.tables e below (T32.setTop (mkF m 95 #[.val (.int p1), .val (.int p2), .val (.int p3), .val (.ref b2), .val (.int z4_8), .val (.ref b9), .val (.int (if own_bits gB (0 + z4_8.toInt.toNat) 1 = (1 : Int64) then (1 : Int32) else (0 : Int32))), .val (.int (1 : Int32)), .val (.int (if own_bits gB ((0 + z4_8.toInt.toNat) + 1) 1 = (1 : Int64) then (1 : Int32) else (0 : Int32)))] [(.int (1 : Int32)), (.int z4_8), (.int p2), (.int p1), (.int (if own_bits gB ((0 + z4_8.toInt.toNat) + 1) 1 = (1 : Int64) then (1 : Int32) else (0 : Int32)))])) _
        refine XS.iadd X32.here hx rfl (hb hby at_95) rfl ?_
        show Steps p.tables e below (T32.setTop (mkF m 96 #[.val (.int p1), .val (.int p2), .val (.int p3), .val (.ref b2), .val (.int z4_8), .val (.ref b9), .val (.int (if own_bits gB (0 + z4_8.toInt.toNat) 1 = (1 : Int64) then (1 : Int32) else (0 : Int32))), .val (.int (1 : Int32)), .val (.int (if own_bits gB ((0 + z4_8.toInt.toNat) + 1) 1 = (1 : Int64) then (1 : Int32) else (0 : Int32)))] [(.int (z4_8 + (1 : Int32))), (.int p2), (.int p1), (.int (if own_bits gB ((0 + z4_8.toInt.toNat) + 1) 1 = (1 : Int64) then (1 : Int32) else (0 : Int32)))])) _
        exact kt
      refine OwnG.st sg36 ?_
      obtain ⟨_, _, ⟨T37, L37, k37, n37⟩, -, X37, ⟨Lc37, hQ37, l37, y37, z37⟩, st37⟩ := Jvm.LawKit.callS X32 hx (y := (⟨"com/example/ubicacion/ubicacion/lmf/ReaderBitPinLaw", "expected", "(III)Z"⟩ : MethodName)) hown (mvT hZ (hw _ (List.mem_of_getElem? (i := 27) rfl))) (mvT hZ (hw _ (List.mem_of_getElem? (i := 28) rfl))) (mvT hZ (hw _ (List.mem_of_getElem? (i := 29) rfl))) (mvT hZ (hw _ (List.mem_of_getElem? (i := 30) rfl))) (by decide) (backOf (W := 1) (rm5 l Z a0 hw [] p1 p2 (z4_8 + (1 : Int32))  T32.heap n0 Z32 ) hZ (hw _ (List.mem_of_getElem? (i := 30) rfl)) (hw _ (List.mem_of_getElem? (i := 29) rfl)) (by decide) (by decide)) (g := (mkF m 96 #[.val (.int p1), .val (.int p2), .val (.int p3), .val (.ref b2), .val (.int z4_8), .val (.ref b9), .val (.int (if own_bits gB (0 + z4_8.toInt.toNat) 1 = (1 : Int64) then (1 : Int32) else (0 : Int32))), .val (.int (1 : Int32)), .val (.int (if own_bits gB ((0 + z4_8.toInt.toNat) + 1) 1 = (1 : Int64) then (1 : Int32) else (0 : Int32)))] [(.int (z4_8 + (1 : Int32))), (.int p2), (.int p1), (.int (if own_bits gB ((0 + z4_8.toInt.toNat) + 1) 1 = (1 : Int64) then (1 : Int32) else (0 : Int32)))])) rfl (by rw [hml]; rfl) (argsL := [(.int p1), (.int p2), (.int (z4_8 + (1 : Int32)))]) (rest := [(.int (if own_bits gB ((0 + z4_8.toInt.toNat) + 1) 1 = (1 : Int64) then (1 : Int32) else (0 : Int32)))]) (lenOf pd_0_3 rfl) rfl (by show 2 * 0 + _ ≤ _; exact Nat.le_of_eq rfl) (hb hby at_96) (fun _ _ => ⟨rfl, rfl, (by decide : 2 + 0 ≤ _), (by decide : 4 + 0 ≤ _)⟩)
      dsimp only [Pt.U, Pt.locs, Pt.cells, Pt.slots] at X37 l37 y37 z37 st37 hQ37
      subst l37 y37 z37
      obtain ⟨rfl, N37q, e37⟩ := hQ37
      have N37 := Fr.app N32 N37q
      refine OwnG.st (fun t k => st37 t k) ?_
      show OwnG p e below s _ _ _ T37 (mkF m 99 #[.val (.int p1), .val (.int p2), .val (.int p3), .val (.ref b2), .val (.int z4_8), .val (.ref b9), .val (.int (if own_bits gB (0 + z4_8.toInt.toNat) 1 = (1 : Int64) then (1 : Int32) else (0 : Int32))), .val (.int (1 : Int32)), .val (.int (if own_bits gB ((0 + z4_8.toInt.toNat) + 1) 1 = (1 : Int64) then (1 : Int32) else (0 : Int32)))] [(.int (F5 p1 p2 (z4_8 + (1 : Int32)))), (.int (if own_bits gB ((0 + z4_8.toInt.toNat) + 1) 1 = (1 : Int64) then (1 : Int32) else (0 : Int32)))])
      have hc99_38 : (if own_bits gB ((0 + z4_8.toInt.toNat) + 1) 1 = (1 : Int64) then (1 : Int32) else (0 : Int32)) = (F5 p1 p2 (z4_8 + (1 : Int32))) := own_e gB _ _ _ (((0 + z4_8.toInt.toNat) + 1)) (by rw [hgB]; rfl) (by rw [hgB]; rfl) (by have q := hc32_17; have q2 := hc73_30; rw [Int32.lt_iff_toInt_lt, show (0 : Int32).toInt = 0 from rfl] at q; rw [Int32.lt_iff_toInt_lt, show (15 : Int32).toInt = 15 from rfl] at q2; have q3 := own_i1 _ hkk.1 (by omega); omega) (by have q2 := hc73_30; rw [Int32.lt_iff_toInt_lt, show (15 : Int32).toInt = 15 from rfl] at q2; omega)
      have sg39 : ∀ tgt, Steps p.tables e below (T37.setTop (mkF m 111 #[.val (.int p1), .val (.int p2), .val (.int p3), .val (.ref b2), .val (.int z4_8), .val (.ref b9), .val (.int (if own_bits gB (0 + z4_8.toInt.toNat) 1 = (1 : Int64) then (1 : Int32) else (0 : Int32))), .val (.int (1 : Int32)), .val (.int (if own_bits gB ((0 + z4_8.toInt.toNat) + 1) 1 = (1 : Int64) then (1 : Int32) else (0 : Int32)))] [(.int (1 : Int32))])) tgt → Steps p.tables e below (T37.setTop (mkF m 99 #[.val (.int p1), .val (.int p2), .val (.int p3), .val (.ref b2), .val (.int z4_8), .val (.ref b9), .val (.int (if own_bits gB (0 + z4_8.toInt.toNat) 1 = (1 : Int64) then (1 : Int32) else (0 : Int32))), .val (.int (1 : Int32)), .val (.int (if own_bits gB ((0 + z4_8.toInt.toNat) + 1) 1 = (1 : Int64) then (1 : Int32) else (0 : Int32)))] [(.int (F5 p1 p2 (z4_8 + (1 : Int32)))), (.int (if own_bits gB ((0 + z4_8.toInt.toNat) + 1) 1 = (1 : Int64) then (1 : Int32) else (0 : Int32)))])) tgt := by
        intro tgt kt
        refine XS.icmpNo X37.here hx rfl (hb hby at_99) rfl (teq hc99_38).2 ?_
        show Steps p.tables e below (T37.setTop (mkF m 102 #[.val (.int p1), .val (.int p2), .val (.int p3), .val (.ref b2), .val (.int z4_8), .val (.ref b9), .val (.int (if own_bits gB (0 + z4_8.toInt.toNat) 1 = (1 : Int64) then (1 : Int32) else (0 : Int32))), .val (.int (1 : Int32)), .val (.int (if own_bits gB ((0 + z4_8.toInt.toNat) + 1) 1 = (1 : Int64) then (1 : Int32) else (0 : Int32)))] [])) _
        refine XS.iconst X37.here hx rfl (hb hby at_102) ?_
        show Steps p.tables e below (T37.setTop (mkF m 103 #[.val (.int p1), .val (.int p2), .val (.int p3), .val (.ref b2), .val (.int z4_8), .val (.ref b9), .val (.int (if own_bits gB (0 + z4_8.toInt.toNat) 1 = (1 : Int64) then (1 : Int32) else (0 : Int32))), .val (.int (1 : Int32)), .val (.int (if own_bits gB ((0 + z4_8.toInt.toNat) + 1) 1 = (1 : Int64) then (1 : Int32) else (0 : Int32)))] [(.int (1 : Int32))])) _
        refine XS.goto X37.here hx rfl (pc0 := 103) (pc' := 107) rfl (hb hby at_103) (by decide) (by decide) ?_
        show Steps p.tables e below (T37.setTop (mkF m 107 #[.val (.int p1), .val (.int p2), .val (.int p3), .val (.ref b2), .val (.int z4_8), .val (.ref b9), .val (.int (if own_bits gB (0 + z4_8.toInt.toNat) 1 = (1 : Int64) then (1 : Int32) else (0 : Int32))), .val (.int (1 : Int32)), .val (.int (if own_bits gB ((0 + z4_8.toInt.toNat) + 1) 1 = (1 : Int64) then (1 : Int32) else (0 : Int32)))] [(.int (1 : Int32))])) _
        refine XS.istore X37.here hx rfl (hb hby at_107) rfl (l' := #[.val (.int p1), .val (.int p2), .val (.int p3), .val (.ref b2), .val (.int z4_8), .val (.ref b9), .val (.int (if own_bits gB (0 + z4_8.toInt.toNat) 1 = (1 : Int64) then (1 : Int32) else (0 : Int32))), .val (.int (1 : Int32)), .val (.int (if own_bits gB ((0 + z4_8.toInt.toNat) + 1) 1 = (1 : Int64) then (1 : Int32) else (0 : Int32)))]) rfl ?_
        show Steps p.tables e below (T37.setTop (mkF m 109 #[.val (.int p1), .val (.int p2), .val (.int p3), .val (.ref b2), .val (.int z4_8), .val (.ref b9), .val (.int (if own_bits gB (0 + z4_8.toInt.toNat) 1 = (1 : Int64) then (1 : Int32) else (0 : Int32))), .val (.int (1 : Int32)), .val (.int (if own_bits gB ((0 + z4_8.toInt.toNat) + 1) 1 = (1 : Int64) then (1 : Int32) else (0 : Int32)))] [])) _
        refine XS.iload X37.here hx rfl (hb hby at_109) rfl ?_
        show Steps p.tables e below (T37.setTop (mkF m 111 #[.val (.int p1), .val (.int p2), .val (.int p3), .val (.ref b2), .val (.int z4_8), .val (.ref b9), .val (.int (if own_bits gB (0 + z4_8.toInt.toNat) 1 = (1 : Int64) then (1 : Int32) else (0 : Int32))), .val (.int (1 : Int32)), .val (.int (if own_bits gB ((0 + z4_8.toInt.toNat) + 1) 1 = (1 : Int64) then (1 : Int32) else (0 : Int32)))] [(.int (1 : Int32))])) _
        exact kt
      refine OwnG.st sg39 ?_
      have hv : (1 : Int32) = 1 := rfl
      exact OwnG.retN X37 hx (t := .boolean) (by simp) Bd.returns (BodyLoose.notSynchronized Bd) (hb hby at_111) ⟨congrArg (fun w => some (Value.int (nar .boolean w))) hv, N37⟩ (by decide) (by decide)
    · have sg40 : ∀ tgt, Steps p.tables e below (T27.setTop (mkF m 111 #[.val (.int p1), .val (.int p2), .val (.int p3), .val (.ref b2), .val (.int z4_8), .val (.ref b9), .val (.int (if own_bits gB (0 + z4_8.toInt.toNat) 1 = (1 : Int64) then (1 : Int32) else (0 : Int32))), .val (.int (1 : Int32)), .unset] [(.int (1 : Int32))])) tgt → Steps p.tables e below (T27.setTop (mkF m 73 #[.val (.int p1), .val (.int p2), .val (.int p3), .val (.ref b2), .val (.int z4_8), .val (.ref b9), .val (.int (if own_bits gB (0 + z4_8.toInt.toNat) 1 = (1 : Int64) then (1 : Int32) else (0 : Int32))), .val (.int (1 : Int32)), .unset] [(.int (15 : Int32)), (.int z4_8)])) tgt := by
        intro tgt kt
        refine XS.icmpYes X27.here hx rfl (pc0 := 73) (pc' := 109) rfl (hb hby at_73) rfl (flt hc73_30).2.1 (by decide) (by decide) ?_
        show Steps p.tables e below (T27.setTop (mkF m 109 #[.val (.int p1), .val (.int p2), .val (.int p3), .val (.ref b2), .val (.int z4_8), .val (.ref b9), .val (.int (if own_bits gB (0 + z4_8.toInt.toNat) 1 = (1 : Int64) then (1 : Int32) else (0 : Int32))), .val (.int (1 : Int32)), .unset] [])) _
        refine XS.iload X27.here hx rfl (hb hby at_109) rfl ?_
        show Steps p.tables e below (T27.setTop (mkF m 111 #[.val (.int p1), .val (.int p2), .val (.int p3), .val (.ref b2), .val (.int z4_8), .val (.ref b9), .val (.int (if own_bits gB (0 + z4_8.toInt.toNat) 1 = (1 : Int64) then (1 : Int32) else (0 : Int32))), .val (.int (1 : Int32)), .unset] [(.int (1 : Int32))])) _
        exact kt
      refine OwnG.st sg40 ?_
      have hv : (1 : Int32) = 1 := rfl
      exact OwnG.retN X27 hx (t := .boolean) (by simp) Bd.returns (BodyLoose.notSynchronized Bd) (hb hby at_111) ⟨congrArg (fun w => some (Value.int (nar .boolean w))) hv, N27⟩ (by decide) (by decide)
  · have sg41 : ∀ tgt, Steps p.tables e below (T13.setTop (mkF m 45 #[.val (.int p1), .val (.int p2), .val (.int p3), .val (.ref b2), .val (.int z4_8), .val (.ref b9), .unset, .unset, .unset] [(.ref b9)])) tgt → Steps p.tables e below (T13.setTop (mkF m 32 #[.val (.int p1), .val (.int p2), .val (.int p3), .val (.ref b2), .val (.int z4_8), .val (.ref b9), .unset, .unset, .unset] [(.int z4_8)])) tgt := by
      intro tgt kt
      refine XS.ifYes X13.here hx rfl (pc0 := 32) (pc' := 43) rfl (hb hby at_32) rfl ((if0 _ _).trans (flt hc32_17).2.2.2) (by decide) (by decide) ?_
      show Steps p.tables e below (T13.setTop (mkF m 43 #[.val (.int p1), .val (.int p2), .val (.int p3), .val (.ref b2), .val (.int z4_8), .val (.ref b9), .unset, .unset, .unset] [])) _
      refine XS.aload X13.here hx rfl (hb hby at_43) rfl rfl ?_
      show Steps p.tables e below (T13.setTop (mkF m 45 #[.val (.int p1), .val (.int p2), .val (.int p3), .val (.ref b2), .val (.int z4_8), .val (.ref b9), .unset, .unset, .unset] [(.ref b9)])) _
      exact kt
    refine OwnG.st sg41 ?_
    obtain ⟨cq42, kq42, q42a, q42b, q42c⟩ := isOf hZ rfl Eq13
    obtain ⟨_, _, ⟨T42, L42, k42, n42⟩, -, X42, ⟨Lc42, hQ42, l42, y42, z42⟩, st42⟩ := X13.virtualBack hx (y := (⟨"com/example/ubicacion/ubicacion/lmf/AlignedPer$Reader", "bit", "()Z"⟩ : MethodName)) (z := (⟨"com/example/ubicacion/ubicacion/lmf/AlignedPer$Reader", "bit", "()Z"⟩ : MethodName)) hown (mvT hZ (hw _ (List.mem_of_getElem? (i := 21) rfl))) (mvT hZ (hw _ (List.mem_of_getElem? (i := 22) rfl))) (notFace_of_selects (args := #[]) (mvT hZ (hw _ (List.mem_of_getElem? (i := 24) rfl)))) (mvT hZ (hw _ (List.mem_of_getElem? (i := 24) rfl))) (mvT hZ (hw _ (List.mem_of_getElem? (i := 23) rfl))) (by decide) (backOf (W := 0) (rm4 l Z a0 hw [] b9 b2 0 2 gB T13.heap n0 Z13 gb_b9 Eq13 Fe13 Fp13' fA_b2_14 ne9_10 (by show 0 + 1 ≤ 8 * 2; omega) (by decide)) hZ (hw _ (List.mem_of_getElem? (i := 25) rfl)) (hw _ (List.mem_of_getElem? (i := 3) rfl)) (by decide) (by decide)) q42a q42c (g := (mkF m 45 #[.val (.int p1), .val (.int p2), .val (.int p3), .val (.ref b2), .val (.int z4_8), .val (.ref b9), .unset, .unset, .unset] [(.ref b9)])) rfl (by rw [hml]; rfl) (Steps.refl _) (argsL := []) (rest := []) (lenOf pd_0_2 rfl) rfl (by show 2 * 0 + _ ≤ _; exact Nat.le_of_eq rfl) (hb hby at_45) (fun _ _ => ⟨rfl, rfl, (by decide : 2 + 0 ≤ _), (by decide : 4 + 0 ≤ _)⟩)
    dsimp only [Pt.U, Pt.locs, Pt.cells, Pt.slots] at X42 l42 y42 z42 st42 hQ42
    subst l42 y42 z42
    obtain ⟨rfl, N42q, Kq42, Eq42, Fe42, Fp42⟩ := hQ42
    have Z42 : n0 ≤ T42.heap.size := Nat.le_trans Z13 Kq42.1
    have fA_b2_43 := (fA_b2_14.keep Kq42 (ninS ne9_10 nin0))
    have fE_b9_44 := (Exa.keep Eq13 Kq42)
    have N42 := Fr.app N13 N42q
    refine OwnG.st (fun t k => st42.trans k) ?_
    show OwnG p e below s _ _ _ T42 (mkF m 48 #[.val (.int p1), .val (.int p2), .val (.int p3), .val (.ref b2), .val (.int z4_8), .val (.ref b9), .unset, .unset, .unset] [(.int (if own_bits gB 0 1 = (1 : Int64) then (1 : Int32) else (0 : Int32)))])
    have sg45 : ∀ tgt, Steps p.tables e below (T42.setTop (mkF m 56 #[.val (.int p1), .val (.int p2), .val (.int p3), .val (.ref b2), .val (.int z4_8), .val (.ref b9), .val (.int (if own_bits gB 0 1 = (1 : Int64) then (1 : Int32) else (0 : Int32))), .unset, .unset] [(.int z4_8), (.int p2), (.int p1), (.int (if own_bits gB 0 1 = (1 : Int64) then (1 : Int32) else (0 : Int32)))])) tgt → Steps p.tables e below (T42.setTop (mkF m 48 #[.val (.int p1), .val (.int p2), .val (.int p3), .val (.ref b2), .val (.int z4_8), .val (.ref b9), .unset, .unset, .unset] [(.int (if own_bits gB 0 1 = (1 : Int64) then (1 : Int32) else (0 : Int32)))])) tgt := by
      intro tgt kt
      refine XS.istore X42.here hx rfl (hb hby at_48) rfl (l' := #[.val (.int p1), .val (.int p2), .val (.int p3), .val (.ref b2), .val (.int z4_8), .val (.ref b9), .val (.int (if own_bits gB 0 1 = (1 : Int64) then (1 : Int32) else (0 : Int32))), .unset, .unset]) rfl ?_
      show Steps p.tables e below (T42.setTop (mkF m 50 #[.val (.int p1), .val (.int p2), .val (.int p3), .val (.ref b2), .val (.int z4_8), .val (.ref b9), .val (.int (if own_bits gB 0 1 = (1 : Int64) then (1 : Int32) else (0 : Int32))), .unset, .unset] [])) _
      refine XS.iload X42.here hx rfl (hb hby at_50) rfl ?_
      show Steps p.tables e below (T42.setTop (mkF m 52 #[.val (.int p1), .val (.int p2), .val (.int p3), .val (.ref b2), .val (.int z4_8), .val (.ref b9), .val (.int (if own_bits gB 0 1 = (1 : Int64) then (1 : Int32) else (0 : Int32))), .unset, .unset] [(.int (if own_bits gB 0 1 = (1 : Int64) then (1 : Int32) else (0 : Int32)))])) _
      refine XS.iloadN X42.here hx rfl (hb hby at_52) rfl ?_
      show Steps p.tables e below (T42.setTop (mkF m 53 #[.val (.int p1), .val (.int p2), .val (.int p3), .val (.ref b2), .val (.int z4_8), .val (.ref b9), .val (.int (if own_bits gB 0 1 = (1 : Int64) then (1 : Int32) else (0 : Int32))), .unset, .unset] [(.int p1), (.int (if own_bits gB 0 1 = (1 : Int64) then (1 : Int32) else (0 : Int32)))])) _
      refine XS.iloadN X42.here hx rfl (hb hby at_53) rfl ?_
      show Steps p.tables e below (T42.setTop (mkF m 54 #[.val (.int p1), .val (.int p2), .val (.int p3), .val (.ref b2), .val (.int z4_8), .val (.ref b9), .val (.int (if own_bits gB 0 1 = (1 : Int64) then (1 : Int32) else (0 : Int32))), .unset, .unset] [(.int p2), (.int p1), (.int (if own_bits gB 0 1 = (1 : Int64) then (1 : Int32) else (0 : Int32)))])) _
      refine XS.iload X42.here hx rfl (hb hby at_54) rfl ?_
      show Steps p.tables e below (T42.setTop (mkF m 56 #[.val (.int p1), .val (.int p2), .val (.int p3), .val (.ref b2), .val (.int z4_8), .val (.ref b9), .val (.int (if own_bits gB 0 1 = (1 : Int64) then (1 : Int32) else (0 : Int32))), .unset, .unset] [(.int z4_8), (.int p2), (.int p1), (.int (if own_bits gB 0 1 = (1 : Int64) then (1 : Int32) else (0 : Int32)))])) _
      exact kt
    refine OwnG.st sg45 ?_
    obtain ⟨_, _, ⟨T46, L46, k46, n46⟩, -, X46, ⟨Lc46, hQ46, l46, y46, z46⟩, st46⟩ := Jvm.LawKit.callS X42 hx (y := (⟨"com/example/ubicacion/ubicacion/lmf/ReaderBitPinLaw", "expected", "(III)Z"⟩ : MethodName)) hown (mvT hZ (hw _ (List.mem_of_getElem? (i := 27) rfl))) (mvT hZ (hw _ (List.mem_of_getElem? (i := 28) rfl))) (mvT hZ (hw _ (List.mem_of_getElem? (i := 29) rfl))) (mvT hZ (hw _ (List.mem_of_getElem? (i := 30) rfl))) (by decide) (backOf (W := 1) (rm5 l Z a0 hw [] p1 p2 z4_8  T42.heap n0 Z42 ) hZ (hw _ (List.mem_of_getElem? (i := 30) rfl)) (hw _ (List.mem_of_getElem? (i := 29) rfl)) (by decide) (by decide)) (g := (mkF m 56 #[.val (.int p1), .val (.int p2), .val (.int p3), .val (.ref b2), .val (.int z4_8), .val (.ref b9), .val (.int (if own_bits gB 0 1 = (1 : Int64) then (1 : Int32) else (0 : Int32))), .unset, .unset] [(.int z4_8), (.int p2), (.int p1), (.int (if own_bits gB 0 1 = (1 : Int64) then (1 : Int32) else (0 : Int32)))])) rfl (by rw [hml]; rfl) (argsL := [(.int p1), (.int p2), (.int z4_8)]) (rest := [(.int (if own_bits gB 0 1 = (1 : Int64) then (1 : Int32) else (0 : Int32)))]) (lenOf pd_0_3 rfl) rfl (by show 2 * 0 + _ ≤ _; exact Nat.le_of_eq rfl) (hb hby at_56) (fun _ _ => ⟨rfl, rfl, (by decide : 2 + 0 ≤ _), (by decide : 4 + 0 ≤ _)⟩)
    dsimp only [Pt.U, Pt.locs, Pt.cells, Pt.slots] at X46 l46 y46 z46 st46 hQ46
    subst l46 y46 z46
    obtain ⟨rfl, N46q, e46⟩ := hQ46
    have N46 := Fr.app N42 N46q
    refine OwnG.st (fun t k => st46 t k) ?_
    show OwnG p e below s _ _ _ T46 (mkF m 59 #[.val (.int p1), .val (.int p2), .val (.int p3), .val (.ref b2), .val (.int z4_8), .val (.ref b9), .val (.int (if own_bits gB 0 1 = (1 : Int64) then (1 : Int32) else (0 : Int32))), .unset, .unset] [(.int (F5 p1 p2 z4_8)), (.int (if own_bits gB 0 1 = (1 : Int64) then (1 : Int32) else (0 : Int32)))])
    have hc59_47 : (if own_bits gB 0 1 = (1 : Int64) then (1 : Int32) else (0 : Int32)) = (F5 p1 p2 z4_8) := own_e gB _ _ _ (0) (by rw [hgB]; rfl) (by rw [hgB]; rfl) (by have q := hc32_17; rw [Int32.lt_iff_toInt_lt, show (0 : Int32).toInt = 0 from rfl] at q; omega) (by omega)
    have sg48 : ∀ tgt, Steps p.tables e below (T46.setTop (mkF m 73 #[.val (.int p1), .val (.int p2), .val (.int p3), .val (.ref b2), .val (.int z4_8), .val (.ref b9), .val (.int (if own_bits gB 0 1 = (1 : Int64) then (1 : Int32) else (0 : Int32))), .val (.int (1 : Int32)), .unset] [(.int (15 : Int32)), (.int z4_8)])) tgt → Steps p.tables e below (T46.setTop (mkF m 59 #[.val (.int p1), .val (.int p2), .val (.int p3), .val (.ref b2), .val (.int z4_8), .val (.ref b9), .val (.int (if own_bits gB 0 1 = (1 : Int64) then (1 : Int32) else (0 : Int32))), .unset, .unset] [(.int (F5 p1 p2 z4_8)), (.int (if own_bits gB 0 1 = (1 : Int64) then (1 : Int32) else (0 : Int32)))])) tgt := by
      intro tgt kt
      refine XS.icmpNo X46.here hx rfl (hb hby at_59) rfl (teq hc59_47).2 ?_
      show Steps p.tables e below (T46.setTop (mkF m 62 #[.val (.int p1), .val (.int p2), .val (.int p3), .val (.ref b2), .val (.int z4_8), .val (.ref b9), .val (.int (if own_bits gB 0 1 = (1 : Int64) then (1 : Int32) else (0 : Int32))), .unset, .unset] [])) _
      refine XS.iconst X46.here hx rfl (hb hby at_62) ?_
      show Steps p.tables e below (T46.setTop (mkF m 63 #[.val (.int p1), .val (.int p2), .val (.int p3), .val (.ref b2), .val (.int z4_8), .val (.ref b9), .val (.int (if own_bits gB 0 1 = (1 : Int64) then (1 : Int32) else (0 : Int32))), .unset, .unset] [(.int (1 : Int32))])) _
      refine XS.goto X46.here hx rfl (pc0 := 63) (pc' := 67) rfl (hb hby at_63) (by decide) (by decide) ?_
      show Steps p.tables e below (T46.setTop (mkF m 67 #[.val (.int p1), .val (.int p2), .val (.int p3), .val (.ref b2), .val (.int z4_8), .val (.ref b9), .val (.int (if own_bits gB 0 1 = (1 : Int64) then (1 : Int32) else (0 : Int32))), .unset, .unset] [(.int (1 : Int32))])) _
      refine XS.istore X46.here hx rfl (hb hby at_67) rfl (l' := #[.val (.int p1), .val (.int p2), .val (.int p3), .val (.ref b2), .val (.int z4_8), .val (.ref b9), .val (.int (if own_bits gB 0 1 = (1 : Int64) then (1 : Int32) else (0 : Int32))), .val (.int (1 : Int32)), .unset]) rfl ?_
      show Steps p.tables e below (T46.setTop (mkF m 69 #[.val (.int p1), .val (.int p2), .val (.int p3), .val (.ref b2), .val (.int z4_8), .val (.ref b9), .val (.int (if own_bits gB 0 1 = (1 : Int64) then (1 : Int32) else (0 : Int32))), .val (.int (1 : Int32)), .unset] [])) _
      refine XS.iload X46.here hx rfl (hb hby at_69) rfl ?_
      show Steps p.tables e below (T46.setTop (mkF m 71 #[.val (.int p1), .val (.int p2), .val (.int p3), .val (.ref b2), .val (.int z4_8), .val (.ref b9), .val (.int (if own_bits gB 0 1 = (1 : Int64) then (1 : Int32) else (0 : Int32))), .val (.int (1 : Int32)), .unset] [(.int z4_8)])) _
      refine XS.bipush X46.here hx rfl (hb hby at_71) ?_
      show Steps p.tables e below (T46.setTop (mkF m 73 #[.val (.int p1), .val (.int p2), .val (.int p3), .val (.ref b2), .val (.int z4_8), .val (.ref b9), .val (.int (if own_bits gB 0 1 = (1 : Int64) then (1 : Int32) else (0 : Int32))), .val (.int (1 : Int32)), .unset] [(.int (15 : Int32)), (.int z4_8)])) _
      exact kt
    refine OwnG.st sg48 ?_
    by_cases hc73_49 : z4_8 < (15 : Int32)
    · have sg50 : ∀ tgt, Steps p.tables e below (T46.setTop (mkF m 78 #[.val (.int p1), .val (.int p2), .val (.int p3), .val (.ref b2), .val (.int z4_8), .val (.ref b9), .val (.int (if own_bits gB 0 1 = (1 : Int64) then (1 : Int32) else (0 : Int32))), .val (.int (1 : Int32)), .unset] [(.ref b9)])) tgt → Steps p.tables e below (T46.setTop (mkF m 73 #[.val (.int p1), .val (.int p2), .val (.int p3), .val (.ref b2), .val (.int z4_8), .val (.ref b9), .val (.int (if own_bits gB 0 1 = (1 : Int64) then (1 : Int32) else (0 : Int32))), .val (.int (1 : Int32)), .unset] [(.int (15 : Int32)), (.int z4_8)])) tgt := by
        intro tgt kt
        refine XS.icmpNo X46.here hx rfl (hb hby at_73) rfl (tlt hc73_49).2.1 ?_
        show Steps p.tables e below (T46.setTop (mkF m 76 #[.val (.int p1), .val (.int p2), .val (.int p3), .val (.ref b2), .val (.int z4_8), .val (.ref b9), .val (.int (if own_bits gB 0 1 = (1 : Int64) then (1 : Int32) else (0 : Int32))), .val (.int (1 : Int32)), .unset] [])) _
        refine XS.aload X46.here hx rfl (hb hby at_76) rfl rfl ?_
        show Steps p.tables e below (T46.setTop (mkF m 78 #[.val (.int p1), .val (.int p2), .val (.int p3), .val (.ref b2), .val (.int z4_8), .val (.ref b9), .val (.int (if own_bits gB 0 1 = (1 : Int64) then (1 : Int32) else (0 : Int32))), .val (.int (1 : Int32)), .unset] [(.ref b9)])) _
        exact kt
      refine OwnG.st sg50 ?_
      obtain ⟨cq51, kq51, q51a, q51b, q51c⟩ := isOf hZ e46 Eq42
      obtain ⟨_, _, ⟨T51, L51, k51, n51⟩, -, X51, ⟨Lc51, hQ51, l51, y51, z51⟩, st51⟩ := X46.virtualBack hx (y := (⟨"com/example/ubicacion/ubicacion/lmf/AlignedPer$Reader", "bit", "()Z"⟩ : MethodName)) (z := (⟨"com/example/ubicacion/ubicacion/lmf/AlignedPer$Reader", "bit", "()Z"⟩ : MethodName)) hown (mvT hZ (hw _ (List.mem_of_getElem? (i := 21) rfl))) (mvT hZ (hw _ (List.mem_of_getElem? (i := 22) rfl))) (notFace_of_selects (args := #[]) (mvT hZ (hw _ (List.mem_of_getElem? (i := 24) rfl)))) (mvT hZ (hw _ (List.mem_of_getElem? (i := 24) rfl))) (mvT hZ (hw _ (List.mem_of_getElem? (i := 23) rfl))) (by decide) (backOf (W := 0) (rm4 l Z a0 hw [] b9 b2 (0 + 1) 2 gB T42.heap n0 Z42 gb_b9 Eq42 Fe42 Fp42 fA_b2_43 ne9_10 (by have q2 := hc73_49; rw [Int32.lt_iff_toInt_lt, show (15 : Int32).toInt = 15 from rfl] at q2; show (0 + 1) + 1 ≤ 8 * 2; omega) (by decide)) hZ (hw _ (List.mem_of_getElem? (i := 25) rfl)) (hw _ (List.mem_of_getElem? (i := 3) rfl)) (by decide) (by decide)) q51a q51c (g := (mkF m 78 #[.val (.int p1), .val (.int p2), .val (.int p3), .val (.ref b2), .val (.int z4_8), .val (.ref b9), .val (.int (if own_bits gB 0 1 = (1 : Int64) then (1 : Int32) else (0 : Int32))), .val (.int (1 : Int32)), .unset] [(.ref b9)])) rfl (by rw [hml]; rfl) (Steps.refl _) (argsL := []) (rest := []) (lenOf pd_0_2 rfl) rfl (by show 2 * 0 + _ ≤ _; exact Nat.le_of_eq rfl) (hb hby at_78) (fun _ _ => ⟨rfl, e46, (by decide : 2 + 0 ≤ _), (by decide : 4 + 0 ≤ _)⟩)
      dsimp only [Pt.U, Pt.locs, Pt.cells, Pt.slots] at X51 l51 y51 z51 st51 hQ51
      subst l51 y51 z51
      obtain ⟨rfl, N51q, Kq51, Eq51, Fe51, Fp51⟩ := hQ51
      have Z51 : n0 ≤ T51.heap.size := Nat.le_trans Z42 Kq51.1
      have fA_b2_52 := (fA_b2_43.keep Kq51 (ninS ne9_10 nin0))
      have fE_b9_53 := (Exa.keep Eq42 Kq51)
      have N51 := Fr.app N46 N51q
      refine OwnG.st (fun t k => st51.trans k) ?_
      show OwnG p e below s _ _ _ T51 (mkF m 81 #[.val (.int p1), .val (.int p2), .val (.int p3), .val (.ref b2), .val (.int z4_8), .val (.ref b9), .val (.int (if own_bits gB 0 1 = (1 : Int64) then (1 : Int32) else (0 : Int32))), .val (.int (1 : Int32)), .unset] [(.int (if own_bits gB (0 + 1) 1 = (1 : Int64) then (1 : Int32) else (0 : Int32)))])
      have hc85_54 : ¬ ((1 : Int32) = (0 : Int32)) := by decide
      have sg55 : ∀ tgt, Steps p.tables e below (T51.setTop (mkF m 96 #[.val (.int p1), .val (.int p2), .val (.int p3), .val (.ref b2), .val (.int z4_8), .val (.ref b9), .val (.int (if own_bits gB 0 1 = (1 : Int64) then (1 : Int32) else (0 : Int32))), .val (.int (1 : Int32)), .val (.int (if own_bits gB (0 + 1) 1 = (1 : Int64) then (1 : Int32) else (0 : Int32)))] [(.int (z4_8 + (1 : Int32))), (.int p2), (.int p1), (.int (if own_bits gB (0 + 1) 1 = (1 : Int64) then (1 : Int32) else (0 : Int32)))])) tgt → Steps p.tables e below (T51.setTop (mkF m 81 #[.val (.int p1), .val (.int p2), .val (.int p3), .val (.ref b2), .val (.int z4_8), .val (.ref b9), .val (.int (if own_bits gB 0 1 = (1 : Int64) then (1 : Int32) else (0 : Int32))), .val (.int (1 : Int32)), .unset] [(.int (if own_bits gB (0 + 1) 1 = (1 : Int64) then (1 : Int32) else (0 : Int32)))])) tgt := by
        intro tgt kt
        refine XS.istore X51.here hx rfl (hb hby at_81) rfl (l' := #[.val (.int p1), .val (.int p2), .val (.int p3), .val (.ref b2), .val (.int z4_8), .val (.ref b9), .val (.int (if own_bits gB 0 1 = (1 : Int64) then (1 : Int32) else (0 : Int32))), .val (.int (1 : Int32)), .val (.int (if own_bits gB (0 + 1) 1 = (1 : Int64) then (1 : Int32) else (0 : Int32)))]) rfl ?_
        show Steps p.tables e below (T51.setTop (mkF m 83 #[.val (.int p1), .val (.int p2), .val (.int p3), .val (.ref b2), .val (.int z4_8), .val (.ref b9), .val (.int (if own_bits gB 0 1 = (1 : Int64) then (1 : Int32) else (0 : Int32))), .val (.int (1 : Int32)), .val (.int (if own_bits gB (0 + 1) 1 = (1 : Int64) then (1 : Int32) else (0 : Int32)))] [])) _
        refine XS.iload X51.here hx rfl (hb hby at_83) rfl ?_
        show Steps p.tables e below (T51.setTop (mkF m 85 #[.val (.int p1), .val (.int p2), .val (.int p3), .val (.ref b2), .val (.int z4_8), .val (.ref b9), .val (.int (if own_bits gB 0 1 = (1 : Int64) then (1 : Int32) else (0 : Int32))), .val (.int (1 : Int32)), .val (.int (if own_bits gB (0 + 1) 1 = (1 : Int64) then (1 : Int32) else (0 : Int32)))] [(.int (1 : Int32))])) _
        refine XS.ifNo X51.here hx rfl (hb hby at_85) rfl ((if0 _ _).trans (feq hc85_54).1) ?_
        show Steps p.tables e below (T51.setTop (mkF m 88 #[.val (.int p1), .val (.int p2), .val (.int p3), .val (.ref b2), .val (.int z4_8), .val (.ref b9), .val (.int (if own_bits gB 0 1 = (1 : Int64) then (1 : Int32) else (0 : Int32))), .val (.int (1 : Int32)), .val (.int (if own_bits gB (0 + 1) 1 = (1 : Int64) then (1 : Int32) else (0 : Int32)))] [])) _
        refine XS.iload X51.here hx rfl (hb hby at_88) rfl ?_
        show Steps p.tables e below (T51.setTop (mkF m 90 #[.val (.int p1), .val (.int p2), .val (.int p3), .val (.ref b2), .val (.int z4_8), .val (.ref b9), .val (.int (if own_bits gB 0 1 = (1 : Int64) then (1 : Int32) else (0 : Int32))), .val (.int (1 : Int32)), .val (.int (if own_bits gB (0 + 1) 1 = (1 : Int64) then (1 : Int32) else (0 : Int32)))] [(.int (if own_bits gB (0 + 1) 1 = (1 : Int64) then (1 : Int32) else (0 : Int32)))])) _
        refine XS.iloadN X51.here hx rfl (hb hby at_90) rfl ?_
        show Steps p.tables e below (T51.setTop (mkF m 91 #[.val (.int p1), .val (.int p2), .val (.int p3), .val (.ref b2), .val (.int z4_8), .val (.ref b9), .val (.int (if own_bits gB 0 1 = (1 : Int64) then (1 : Int32) else (0 : Int32))), .val (.int (1 : Int32)), .val (.int (if own_bits gB (0 + 1) 1 = (1 : Int64) then (1 : Int32) else (0 : Int32)))] [(.int p1), (.int (if own_bits gB (0 + 1) 1 = (1 : Int64) then (1 : Int32) else (0 : Int32)))])) _
        refine XS.iloadN X51.here hx rfl (hb hby at_91) rfl ?_
        show Steps p.tables e below (T51.setTop (mkF m 92 #[.val (.int p1), .val (.int p2), .val (.int p3), .val (.ref b2), .val (.int z4_8), .val (.ref b9), .val (.int (if own_bits gB 0 1 = (1 : Int64) then (1 : Int32) else (0 : Int32))), .val (.int (1 : Int32)), .val (.int (if own_bits gB (0 + 1) 1 = (1 : Int64) then (1 : Int32) else (0 : Int32)))] [(.int p2), (.int p1), (.int (if own_bits gB (0 + 1) 1 = (1 : Int64) then (1 : Int32) else (0 : Int32)))])) _
        refine XS.iload X51.here hx rfl (hb hby at_92) rfl ?_
        show Steps p.tables e below (T51.setTop (mkF m 94 #[.val (.int p1), .val (.int p2), .val (.int p3), .val (.ref b2), .val (.int z4_8), .val (.ref b9), .val (.int (if own_bits gB 0 1 = (1 : Int64) then (1 : Int32) else (0 : Int32))), .val (.int (1 : Int32)), .val (.int (if own_bits gB (0 + 1) 1 = (1 : Int64) then (1 : Int32) else (0 : Int32)))] [(.int z4_8), (.int p2), (.int p1), (.int (if own_bits gB (0 + 1) 1 = (1 : Int64) then (1 : Int32) else (0 : Int32)))])) _
        refine XS.iconst X51.here hx rfl (hb hby at_94) ?_
        show Steps p.tables e below (T51.setTop (mkF m 95 #[.val (.int p1), .val (.int p2), .val (.int p3), .val (.ref b2), .val (.int z4_8), .val (.ref b9), .val (.int (if own_bits gB 0 1 = (1 : Int64) then (1 : Int32) else (0 : Int32))), .val (.int (1 : Int32)), .val (.int (if own_bits gB (0 + 1) 1 = (1 : Int64) then (1 : Int32) else (0 : Int32)))] [(.int (1 : Int32)), (.int z4_8), (.int p2), (.int p1), (.int (if own_bits gB (0 + 1) 1 = (1 : Int64) then (1 : Int32) else (0 : Int32)))])) _
        refine XS.iadd X51.here hx rfl (hb hby at_95) rfl ?_
        show Steps p.tables e below (T51.setTop (mkF m 96 #[.val (.int p1), .val (.int p2), .val (.int p3), .val (.ref b2), .val (.int z4_8), .val (.ref b9), .val (.int (if own_bits gB 0 1 = (1 : Int64) then (1 : Int32) else (0 : Int32))), .val (.int (1 : Int32)), .val (.int (if own_bits gB (0 + 1) 1 = (1 : Int64) then (1 : Int32) else (0 : Int32)))] [(.int (z4_8 + (1 : Int32))), (.int p2), (.int p1), (.int (if own_bits gB (0 + 1) 1 = (1 : Int64) then (1 : Int32) else (0 : Int32)))])) _
        exact kt
      refine OwnG.st sg55 ?_
      obtain ⟨_, _, ⟨T56, L56, k56, n56⟩, -, X56, ⟨Lc56, hQ56, l56, y56, z56⟩, st56⟩ := Jvm.LawKit.callS X51 hx (y := (⟨"com/example/ubicacion/ubicacion/lmf/ReaderBitPinLaw", "expected", "(III)Z"⟩ : MethodName)) hown (mvT hZ (hw _ (List.mem_of_getElem? (i := 27) rfl))) (mvT hZ (hw _ (List.mem_of_getElem? (i := 28) rfl))) (mvT hZ (hw _ (List.mem_of_getElem? (i := 29) rfl))) (mvT hZ (hw _ (List.mem_of_getElem? (i := 30) rfl))) (by decide) (backOf (W := 1) (rm5 l Z a0 hw [] p1 p2 (z4_8 + (1 : Int32))  T51.heap n0 Z51 ) hZ (hw _ (List.mem_of_getElem? (i := 30) rfl)) (hw _ (List.mem_of_getElem? (i := 29) rfl)) (by decide) (by decide)) (g := (mkF m 96 #[.val (.int p1), .val (.int p2), .val (.int p3), .val (.ref b2), .val (.int z4_8), .val (.ref b9), .val (.int (if own_bits gB 0 1 = (1 : Int64) then (1 : Int32) else (0 : Int32))), .val (.int (1 : Int32)), .val (.int (if own_bits gB (0 + 1) 1 = (1 : Int64) then (1 : Int32) else (0 : Int32)))] [(.int (z4_8 + (1 : Int32))), (.int p2), (.int p1), (.int (if own_bits gB (0 + 1) 1 = (1 : Int64) then (1 : Int32) else (0 : Int32)))])) rfl (by rw [hml]; rfl) (argsL := [(.int p1), (.int p2), (.int (z4_8 + (1 : Int32)))]) (rest := [(.int (if own_bits gB (0 + 1) 1 = (1 : Int64) then (1 : Int32) else (0 : Int32)))]) (lenOf pd_0_3 rfl) rfl (by show 2 * 0 + _ ≤ _; exact Nat.le_of_eq rfl) (hb hby at_96) (fun _ _ => ⟨rfl, rfl, (by decide : 2 + 0 ≤ _), (by decide : 4 + 0 ≤ _)⟩)
      dsimp only [Pt.U, Pt.locs, Pt.cells, Pt.slots] at X56 l56 y56 z56 st56 hQ56
      subst l56 y56 z56
      obtain ⟨rfl, N56q, e56⟩ := hQ56
      have N56 := Fr.app N51 N56q
      refine OwnG.st (fun t k => st56 t k) ?_
      show OwnG p e below s _ _ _ T56 (mkF m 99 #[.val (.int p1), .val (.int p2), .val (.int p3), .val (.ref b2), .val (.int z4_8), .val (.ref b9), .val (.int (if own_bits gB 0 1 = (1 : Int64) then (1 : Int32) else (0 : Int32))), .val (.int (1 : Int32)), .val (.int (if own_bits gB (0 + 1) 1 = (1 : Int64) then (1 : Int32) else (0 : Int32)))] [(.int (F5 p1 p2 (z4_8 + (1 : Int32)))), (.int (if own_bits gB (0 + 1) 1 = (1 : Int64) then (1 : Int32) else (0 : Int32)))])
      have hc99_57 : (if own_bits gB (0 + 1) 1 = (1 : Int64) then (1 : Int32) else (0 : Int32)) = (F5 p1 p2 (z4_8 + (1 : Int32))) := own_e gB _ _ _ ((0 + 1)) (by rw [hgB]; rfl) (by rw [hgB]; rfl) (by have q := hc32_17; have q2 := hc73_49; rw [Int32.lt_iff_toInt_lt, show (0 : Int32).toInt = 0 from rfl] at q; rw [Int32.lt_iff_toInt_lt, show (15 : Int32).toInt = 15 from rfl] at q2; have q3 := own_i1 _ hkk.1 (by omega); omega) (by have q2 := hc73_49; rw [Int32.lt_iff_toInt_lt, show (15 : Int32).toInt = 15 from rfl] at q2; omega)
      have sg58 : ∀ tgt, Steps p.tables e below (T56.setTop (mkF m 111 #[.val (.int p1), .val (.int p2), .val (.int p3), .val (.ref b2), .val (.int z4_8), .val (.ref b9), .val (.int (if own_bits gB 0 1 = (1 : Int64) then (1 : Int32) else (0 : Int32))), .val (.int (1 : Int32)), .val (.int (if own_bits gB (0 + 1) 1 = (1 : Int64) then (1 : Int32) else (0 : Int32)))] [(.int (1 : Int32))])) tgt → Steps p.tables e below (T56.setTop (mkF m 99 #[.val (.int p1), .val (.int p2), .val (.int p3), .val (.ref b2), .val (.int z4_8), .val (.ref b9), .val (.int (if own_bits gB 0 1 = (1 : Int64) then (1 : Int32) else (0 : Int32))), .val (.int (1 : Int32)), .val (.int (if own_bits gB (0 + 1) 1 = (1 : Int64) then (1 : Int32) else (0 : Int32)))] [(.int (F5 p1 p2 (z4_8 + (1 : Int32)))), (.int (if own_bits gB (0 + 1) 1 = (1 : Int64) then (1 : Int32) else (0 : Int32)))])) tgt := by
        intro tgt kt
        refine XS.icmpNo X56.here hx rfl (hb hby at_99) rfl (teq hc99_57).2 ?_
        show Steps p.tables e below (T56.setTop (mkF m 102 #[.val (.int p1), .val (.int p2), .val (.int p3), .val (.ref b2), .val (.int z4_8), .val (.ref b9), .val (.int (if own_bits gB 0 1 = (1 : Int64) then (1 : Int32) else (0 : Int32))), .val (.int (1 : Int32)), .val (.int (if own_bits gB (0 + 1) 1 = (1 : Int64) then (1 : Int32) else (0 : Int32)))] [])) _
        refine XS.iconst X56.here hx rfl (hb hby at_102) ?_
        show Steps p.tables e below (T56.setTop (mkF m 103 #[.val (.int p1), .val (.int p2), .val (.int p3), .val (.ref b2), .val (.int z4_8), .val (.ref b9), .val (.int (if own_bits gB 0 1 = (1 : Int64) then (1 : Int32) else (0 : Int32))), .val (.int (1 : Int32)), .val (.int (if own_bits gB (0 + 1) 1 = (1 : Int64) then (1 : Int32) else (0 : Int32)))] [(.int (1 : Int32))])) _
        refine XS.goto X56.here hx rfl (pc0 := 103) (pc' := 107) rfl (hb hby at_103) (by decide) (by decide) ?_
        show Steps p.tables e below (T56.setTop (mkF m 107 #[.val (.int p1), .val (.int p2), .val (.int p3), .val (.ref b2), .val (.int z4_8), .val (.ref b9), .val (.int (if own_bits gB 0 1 = (1 : Int64) then (1 : Int32) else (0 : Int32))), .val (.int (1 : Int32)), .val (.int (if own_bits gB (0 + 1) 1 = (1 : Int64) then (1 : Int32) else (0 : Int32)))] [(.int (1 : Int32))])) _
        refine XS.istore X56.here hx rfl (hb hby at_107) rfl (l' := #[.val (.int p1), .val (.int p2), .val (.int p3), .val (.ref b2), .val (.int z4_8), .val (.ref b9), .val (.int (if own_bits gB 0 1 = (1 : Int64) then (1 : Int32) else (0 : Int32))), .val (.int (1 : Int32)), .val (.int (if own_bits gB (0 + 1) 1 = (1 : Int64) then (1 : Int32) else (0 : Int32)))]) rfl ?_
        show Steps p.tables e below (T56.setTop (mkF m 109 #[.val (.int p1), .val (.int p2), .val (.int p3), .val (.ref b2), .val (.int z4_8), .val (.ref b9), .val (.int (if own_bits gB 0 1 = (1 : Int64) then (1 : Int32) else (0 : Int32))), .val (.int (1 : Int32)), .val (.int (if own_bits gB (0 + 1) 1 = (1 : Int64) then (1 : Int32) else (0 : Int32)))] [])) _
        refine XS.iload X56.here hx rfl (hb hby at_109) rfl ?_
        show Steps p.tables e below (T56.setTop (mkF m 111 #[.val (.int p1), .val (.int p2), .val (.int p3), .val (.ref b2), .val (.int z4_8), .val (.ref b9), .val (.int (if own_bits gB 0 1 = (1 : Int64) then (1 : Int32) else (0 : Int32))), .val (.int (1 : Int32)), .val (.int (if own_bits gB (0 + 1) 1 = (1 : Int64) then (1 : Int32) else (0 : Int32)))] [(.int (1 : Int32))])) _
        exact kt
      refine OwnG.st sg58 ?_
      have hv : (1 : Int32) = 1 := rfl
      exact OwnG.retN X56 hx (t := .boolean) (by simp) Bd.returns (BodyLoose.notSynchronized Bd) (hb hby at_111) ⟨congrArg (fun w => some (Value.int (nar .boolean w))) hv, N56⟩ (by decide) (by decide)
    · have sg59 : ∀ tgt, Steps p.tables e below (T46.setTop (mkF m 111 #[.val (.int p1), .val (.int p2), .val (.int p3), .val (.ref b2), .val (.int z4_8), .val (.ref b9), .val (.int (if own_bits gB 0 1 = (1 : Int64) then (1 : Int32) else (0 : Int32))), .val (.int (1 : Int32)), .unset] [(.int (1 : Int32))])) tgt → Steps p.tables e below (T46.setTop (mkF m 73 #[.val (.int p1), .val (.int p2), .val (.int p3), .val (.ref b2), .val (.int z4_8), .val (.ref b9), .val (.int (if own_bits gB 0 1 = (1 : Int64) then (1 : Int32) else (0 : Int32))), .val (.int (1 : Int32)), .unset] [(.int (15 : Int32)), (.int z4_8)])) tgt := by
        intro tgt kt
        refine XS.icmpYes X46.here hx rfl (pc0 := 73) (pc' := 109) rfl (hb hby at_73) rfl (flt hc73_49).2.1 (by decide) (by decide) ?_
        show Steps p.tables e below (T46.setTop (mkF m 109 #[.val (.int p1), .val (.int p2), .val (.int p3), .val (.ref b2), .val (.int z4_8), .val (.ref b9), .val (.int (if own_bits gB 0 1 = (1 : Int64) then (1 : Int32) else (0 : Int32))), .val (.int (1 : Int32)), .unset] [])) _
        refine XS.iload X46.here hx rfl (hb hby at_109) rfl ?_
        show Steps p.tables e below (T46.setTop (mkF m 111 #[.val (.int p1), .val (.int p2), .val (.int p3), .val (.ref b2), .val (.int z4_8), .val (.ref b9), .val (.int (if own_bits gB 0 1 = (1 : Int64) then (1 : Int32) else (0 : Int32))), .val (.int (1 : Int32)), .unset] [(.int (1 : Int32))])) _
        exact kt
      refine OwnG.st sg59 ?_
      have hv : (1 : Int32) = 1 := rfl
      exact OwnG.retN X46 hx (t := .boolean) (by simp) Bd.returns (BodyLoose.notSynchronized Bd) (hb hby at_111) ⟨congrArg (fun w => some (Value.int (nar .boolean w))) hv, N46⟩ (by decide) (by decide)
set_option maxRecDepth 65536 in
set_option maxHeartbeats 40000000 in
theorem comes_1 {Post : Tables → Env → Array Value → State → Outcome → State → Prop} (hpost : ∀ tb e args s v u, (limb_1_1.after args s (.returned v) u = true ∧ limb_1_2.after args s (.returned v) u = true ∧ True) → FrameEnd s (.returned v) u (Jvm.fieldLocs frame_1_writes args s ++ Jvm.arrayLocs frame_1_arrays args s ++ Jvm.staticLocs frame_1_statics s) 16 128 → Post tb e args s (.returned v) u) :
    ArmFor flags0 classFile x code maxLocals ret World_1 tables_1 room_1 Calls_1 rest_1 Pre_1 Post := by
  intro l hfl _ _ p e ha hc hk s m args below hf hA hF happ hP
  obtain ⟨hcalls, hrest, hpre⟩ := hP
  obtain ⟨-, -, -, hnamed, -, -, -, hat⟩ := (Spec.applies_iff hf).mp happ
  obtain ⟨hg, hn⟩ := and_e (Cond.before_iff.mp (show (Jvm.Cond.and given_1 narrow_1).before args s = true from hpre))
  obtain ⟨g1, g2⟩ := and_e hg
  obtain ⟨g3, g4⟩ := and_e g2
  obtain ⟨g5, g6⟩ := and_e g4
  obtain ⟨w0, w1, w2, rfl⟩ : ∃ w0 w1 w2 : Value, args = #[w0, w1, w2] := by
    have hs : args.size = 3 := by simpa [Cond.value, given_1] using g1
    obtain ⟨L⟩ := args
    match L, hs with
    | [w0, w1, w2], _ => exact ⟨w0, w1, w2, rfl⟩
  have hw := fun d (hd : d ∈ tables_1) => atoms_spec (ws := Jvm.Cond.code x code maxLocals ret :: tables_1) hat d (List.mem_cons_of_mem _ hd)
  obtain ⟨i0, ei0⟩ := is_v g3
  obtain rfl : w0 = (.int i0) := Option.some.inj ei0
  obtain ⟨i1, ei1⟩ := is_v g5
  obtain rfl : w1 = (.int i1) := Option.some.inj ei1
  obtain ⟨i2, ei2⟩ := is_v g6
  obtain rfl : w2 = (.int i2) := Option.some.inj ei2
  obtain ⟨n, o, h1, h2, h3, _, L, rfl, ⟨rfl, N⟩, hq⟩ := rm0 l s _ hw tables_1 i0 i1 i2  s.heap s.heap.size (Nat.le_refl _)  p e ha hc hk s m _ below hf ((Spec.applies_iff_loose hf).mp happ).1 ⟨rfl, State.Warmed39.refl s, rfl⟩ trivial
  refine ⟨n, _, h1, h2, h3, hpost _ _ _ _ _ _ ⟨Cond.after_iff.mpr rfl, Cond.after_iff.mpr (eq_i res_at (Term.int_eval (1)) rfl), trivial⟩ ⟨hq.1, hq.2.1, (hq.2.2.sift fun y hy => Or.inr (N y hy)).mono (by decide) (by decide)⟩⟩
theorem main_1_1 : Claimed_1_1 := comes_1 fun _ _ _ _ _ _ h hF => ⟨h.1, hF⟩
theorem main_1_2 : Claimed_1_2 := comes_1 fun _ _ _ _ _ _ h hF => ⟨h.2.1, hF⟩
end Jvm.Pilot.@@N@@
namespace Jvm.Pilot.@@N@@
open Jvm Jvm.ClassFile Sem Op Lib Jvm.Free Jvm.Stand Jvm.Pilot.@@N@@.Jvm.D
/-! MADE BY PROGRAM (witnessworld.py) out of the Statement's table words and the real class files: 9 classes; the members and pool entries that the words name. The judged class is class 1, her method 1. -/
namespace start1
open Jvm.ClassFile
def u (s : String) : CpInfo := .utf8 (stringToUtf16 s)
/-- a pool by its gaps: so many unusable entries, then the entry; so many at the end -/
def gap : Nat → List CpInfo → List CpInfo
  | 0, r => r
  | n + 1, r => .unusable :: gap n r
def poolList (es : List (Nat × CpInfo)) (last : Nat) : List CpInfo := es.foldr (fun e r => gap e.1 (e.2 :: r)) (gap last [])
def pool (es : List (Nat × CpInfo)) (last : Nat) : Array CpInfo := ⟨poolList es last⟩
def fileOf (pool : Array CpInfo) (this : Nat) (attrs : Array Attribute := #[]) (ms : Array MethodInfo := #[]) (fl : Nat := 33) (sup : Nat := 0) (ifs : Array Nat := #[]) (fds : Array FieldInfo := #[]) : ClassFile where
  minorVersion := 0
  majorVersion := 65
  constantPool := pool
  accessFlags := fl
  thisClass := this
  superClass := sup
  interfaces := ifs
  fields := fds
  methods := ms
  attributes := attrs
def plain (name : String) (sup : Option ClassId) : Class where
  name := name
  kind := .ordinary
  loader := none
  accessFlags := 33
  super := sup
  interfaces := #[]
  cf := none
  fields := #[]
  methods := #[]
  instanceTypes := #[]
  staticTypes := #[]
  resolved := #[]
  callSites := []
  init := .initialized
  statics := none
  mirror := none

def pool0 : Array CpInfo := pool [(5, u "<init>"), (0, u "()V"), (1, .class_ 10), (1, u "java/lang/Object")] 113

def k0c0 : Code := { maxStack := 0, maxLocals := 1, code := object_method_1_code, exceptionTable := #[], attributes := #[] }
def k0m0 : Method := { name := "<init>", desc := "()V", sig := { parameters := [], returnType := none }, accessFlags := 1, code := some k0c0 }
/-- java/lang/Object -/
def k0 : Class := { plain "java/lang/Object" none with
  accessFlags := 33
  interfaces := #[]
  cf := some (fileOf pool0 8 #[] #[{ accessFlags := 1, nameIndex := 5, descriptorIndex := 6, attributes := #[] }] 33 0 #[] #[])
  fields := #[]
  methods := #[k0m0]
  instanceTypes := #[]
  staticTypes := #[]
  resolved := Array.replicate 124 none
  statics := none }

def pool1 : Array CpInfo := pool [(2, .class_ 4), (1, u "java/lang/Object"), (0, u "<init>"), (0, u "()V"), (0, .class_ 8), (0, u "com/example/ubicacion/ubicacion/lmf/AlignedPer$Reader"), (0, .methodref 7 10), (0, .nameAndType 5 11), (0, u "([B)V"), (0, .methodref 7 13), (0, .nameAndType 14 15), (0, u "bits"), (0, u "(I)J"), (0, .methodref 7 17), (0, .nameAndType 18 19), (0, u "bit"), (0, u "()Z"), (0, .methodref 21 22), (0, .class_ 23), (0, .nameAndType 24 25), (0, u "com/example/ubicacion/ubicacion/lmf/ReaderBitPinLaw"), (0, u "expected"), (0, u "(III)Z"), (2, u "law")] 12

def k1m0 : Method := { name := "<init>", desc := "()V", sig := { parameters := [], returnType := none }, accessFlags := 2, code := none }
def k1c1 : Code := { maxStack := 5, maxLocals := 9, code := code, exceptionTable := #[], attributes := #[] }
def k1m1 : Method := { name := "law", desc := "(III)Z", sig := { parameters := [.int, .int, .int], returnType := some .boolean }, accessFlags := 9, code := some k1c1 }
def k1c2 : Code := { maxStack := 4, maxLocals := 4, code := method_3_code, exceptionTable := #[], attributes := #[] }
def k1m2 : Method := { name := "expected", desc := "(III)Z", sig := { parameters := [.int, .int, .int], returnType := some .boolean }, accessFlags := 10, code := some k1c2 }
/-- com/example/ubicacion/ubicacion/lmf/ReaderBitPinLaw -/
def k1 : Class := { plain "com/example/ubicacion/ubicacion/lmf/ReaderBitPinLaw" (some 0) with
  accessFlags := 49
  interfaces := #[]
  cf := some (fileOf pool1 21 #[] #[{ accessFlags := 2, nameIndex := 5, descriptorIndex := 6, attributes := #[] }, { accessFlags := 9, nameIndex := 28, descriptorIndex := 25, attributes := #[] }, { accessFlags := 10, nameIndex := 24, descriptorIndex := 25, attributes := #[] }] 49 2 #[] #[])
  fields := #[]
  methods := #[k1m0, k1m1, k1m2]
  instanceTypes := #[]
  staticTypes := #[]
  resolved := Array.replicate 41 none
  statics := none }

def pool2 : Array CpInfo := pool [(1, .methodref 2 3), (0, .class_ 4), (0, .nameAndType 5 6), (0, u "java/lang/Object"), (0, u "<init>"), (0, u "()V"), (0, .fieldref 8 9), (0, .class_ 10), (0, .nameAndType 11 12), (0, u "com/example/ubicacion/ubicacion/lmf/AlignedPer$Reader"), (0, u "encoding"), (0, u "[B"), (0, .methodref 8 14), (0, .nameAndType 15 16), (0, u "bits"), (0, u "(I)J"), (0, .fieldref 8 18), (0, .nameAndType 19 20), (0, u "position"), (0, u "J"), (0, .long 8), (10, .long 7), (6, .class_ 41), (1, u "com/example/ubicacion/ubicacion/lmf/AlignedPer"), (23, u "bit"), (0, u "()Z"), (26, u "([B)V")] 51

def k2c0 : Code := { maxStack := 2, maxLocals := 2, code := prog_10_method_1_code, exceptionTable := #[], attributes := #[] }
def k2m0 : Method := { name := "<init>", desc := "([B)V", sig := { parameters := [(.array .byte)], returnType := none }, accessFlags := 0, code := some k2c0 }
def k2c1 : Code := { maxStack := 4, maxLocals := 1, code := prog_10_method_2_code, exceptionTable := #[], attributes := #[] }
def k2m1 : Method := { name := "bit", desc := "()Z", sig := { parameters := [], returnType := some .boolean }, accessFlags := 0, code := some k2c1 }
def k2c2 : Code := { maxStack := 9, maxLocals := 6, code := prog_10_method_3_code, exceptionTable := #[], attributes := #[] }
def k2m2 : Method := { name := "bits", desc := "(I)J", sig := { parameters := [.int], returnType := some .long }, accessFlags := 0, code := some k2c2 }
/-- com/example/ubicacion/ubicacion/lmf/AlignedPer$Reader -/
def k2 : Class := { plain "com/example/ubicacion/ubicacion/lmf/AlignedPer$Reader" (some 0) with
  accessFlags := 32
  interfaces := #[]
  cf := some (fileOf pool2 8 #[.nestHost 39] #[{ accessFlags := 0, nameIndex := 5, descriptorIndex := 93, attributes := #[] }, { accessFlags := 0, nameIndex := 65, descriptorIndex := 66, attributes := #[] }, { accessFlags := 0, nameIndex := 15, descriptorIndex := 16, attributes := #[] }] 32 2 #[] #[{ accessFlags := 18, nameIndex := 11, descriptorIndex := 12, attributes := #[] }, { accessFlags := 2, nameIndex := 19, descriptorIndex := 20, attributes := #[] }])
  fields := #[{ name := "encoding", type := (.array .byte), accessFlags := 18, slot := 0, constantValue := 0 }, { name := "position", type := .long, accessFlags := 2, slot := 1, constantValue := 0 }]
  methods := #[k2m0, k2m1, k2m2]
  instanceTypes := #[(.array .byte), .long]
  staticTypes := #[]
  resolved := Array.replicate 145 none
  statics := none }

def pool3 : Array CpInfo := pool [(1, u "java/lang/Cloneable"), (0, .class_ 1), (0, u "java/lang/Object"), (0, .class_ 3)] 3

/-- java/lang/Cloneable -/
def k3 : Class := { plain "java/lang/Cloneable" (some 0) with
  accessFlags := 1537
  interfaces := #[]
  cf := some (fileOf pool3 2 #[] #[] 1537 4 #[] #[])
  fields := #[]
  methods := #[]
  instanceTypes := #[]
  staticTypes := #[]
  resolved := Array.replicate 8 none
  statics := none }

def pool4 : Array CpInfo := pool [(1, u "java/io/Serializable"), (0, .class_ 1), (0, u "java/lang/Object"), (0, .class_ 3)] 3

/-- java/io/Serializable -/
def k4 : Class := { plain "java/io/Serializable" (some 0) with
  accessFlags := 1537
  interfaces := #[]
  cf := some (fileOf pool4 2 #[] #[] 1537 4 #[] #[])
  fields := #[]
  methods := #[]
  instanceTypes := #[]
  staticTypes := #[]
  resolved := Array.replicate 8 none
  statics := none }

/-- the primitive byte -/
def k5 : Class := { plain "byte" none with kind := .primitive 'B', accessFlags := 0x411 }
/-- [B -/
def k6 : Class := { plain "[B" (some 0) with kind := .array 5 .byte, interfaces := #[3, 4], accessFlags := 1041 }

/-- the primitive int -/
def k7 : Class := { plain "int" none with kind := .primitive 'I', accessFlags := 0x411 }
/-- [I -/
def k8 : Class := { plain "[I" (some 0) with kind := .array 7 .int, interfaces := #[3, 4], accessFlags := 1041 }

def heap : Heap := #[]
def classes : Array Class := #[k0, k1, k2, k3, k4, k5, k6, k7, k8]
def interned : List (Array UInt16 × Addr) := []
def slotsUsed : Nat := 0
def theMethod : MethodId := ⟨1, 1⟩
def args0 : Array Value := #[.int 5, .int 5, .int 5]
def aboutOver (below : List Frame) : State where
  vm := { classes := classes, interned := interned.toArray }
  heap := heap
  slotsUsed := slotsUsed
  threads := #[{ frames := .invoking theMethod args0 :: below }]
def below0 : List Frame := [.native { method := ⟨0, 0⟩, args := #[] }]
def about1 : State := aboutOver below0
def p0 : Program := .bare "" "" ""
def e0 : Env := launch0.env 0 0 0
theorem w_frames : about1.frames = Frame.invoking theMethod args0 :: below0 := rfl
set_option maxRecDepth 65536 in
theorem w_args : argsFit about1.vm theMethod args0 = true := by decide +kernel
set_option maxRecDepth 65536 in
theorem w_heap : heapFits about1 = true := by decide +kernel
set_option maxRecDepth 65536 in
theorem w_runnable : about1.curStatus? = some .runnable := by decide +kernel
set_option maxRecDepth 65536 in
theorem w_alone : about1.alone = true := by decide +kernel
set_option maxRecDepth 65536 in
theorem w_named : about1.methodNamed? x = some theMethod := by decide +kernel
set_option maxRecDepth 65536 in
theorem w_hears : about1.hears theMethod below0 = true := by decide +kernel
set_option maxRecDepth 65536 in
theorem w_ripe : about1.ripe theMethod args0 below0 = true := by decide +kernel
theorem w_running : about1.status = .running := rfl
set_option maxRecDepth 65536 in
theorem w_room : about1.hasRoom e0.platform room_1 = true :=
  launch0.hasRoom_least _ room_1 (by decide +kernel) (by decide +kernel) (by decide +kernel) (by decide +kernel) (by decide +kernel) (by decide +kernel)
theorem allAtoms_all (ts : List Jvm.Cond) (a : Array Jvm.Value) (st : Jvm.State) : (allAtoms ts).before a st = ts.all (fun c => c.before a st) := by
  induction ts with
  | nil => rfl
  | cons c t ih =>
    show (Jvm.Cond.and c (allAtoms t)).before a st = _
    rw [Jvm.Cond.before_and, ih, List.all_cons]
def words1 : List Jvm.Cond := Jvm.Cond.code x code maxLocals ret :: tables_1
/-- a 'code' word, met by the world's own term for the bytes: nothing is compared byte by byte -/
theorem code_word {y : MethodName} {bytes : ByteArray} {mx : Nat} {rt : Option FieldType} {a : Array Value} {s : State} {m : MethodId} {meth : Method} {c : Code} (h1 : s.methodNamed? y = some m) (h2 : s.vm.method? m = some meth) (h3 : meth.code = some c) (h4 : c.code = bytes)
    (h5 : (c.maxLocals == mx && c.exceptionTable.isEmpty && decide (c.maxStack ≤ mostOperands) && decide (meth.sig.returnType = rt) && !meth.locks && decide (parseMethodDescriptor y.desc = some meth.sig)) = true) : (Jvm.Cond.code y bytes mx rt).before a s = true := by
  simp only [Bool.and_eq_true, beq_iff_eq, Bool.not_eq_true', decide_eq_true_eq] at h5
  obtain ⟨⟨⟨⟨⟨g1, g2⟩, g3⟩, g4⟩, g5⟩, g6⟩ := h5
  simp [Cond.before, Cond.holds, Cond.value, h1, h2, h3, h4, g1, g2, g3, g4, g5, g6]
def isCode : Jvm.Cond → Bool
  | .code _ _ _ _ => true
  | _ => false
theorem all_split {L : List Jvm.Cond} {P : Jvm.Cond → Bool} (h1 : L.all (fun c => isCode c || P c) = true) (h2 : ∀ c ∈ L.filter isCode, P c = true) : L.all P = true := by
  refine List.all_eq_true.mpr fun c hc => ?_
  have h := List.all_eq_true.mp h1 c hc
  rcases Bool.eq_false_or_eq_true (isCode c) with hi | hi
  · exact h2 c (List.mem_filter.mpr ⟨hc, hi⟩)
  · simpa [hi] using h
set_option maxRecDepth 65536 in
theorem w_c0 : (Jvm.Cond.code x code maxLocals ret).before args0 about1 = true := code_word (m := ⟨1, 1⟩) (meth := k1m1) (c := k1c1) (by decide +kernel) rfl rfl rfl (by decide +kernel)
set_option maxRecDepth 65536 in
theorem w_c1 : (Jvm.Cond.code ({ cls := "com/example/ubicacion/ubicacion/lmf/AlignedPer$Reader", name := "<init>", desc := "([B)V" } : Jvm.MethodName) prog_10_method_1_code (2 : Nat) (Option.none : Option Jvm.ClassFile.FieldType)).before args0 about1 = true := code_word (m := ⟨2, 0⟩) (meth := k2m0) (c := k2c0) (by decide +kernel) rfl rfl rfl (by decide +kernel)
set_option maxRecDepth 65536 in
theorem w_c2 : (Jvm.Cond.code ({ cls := "java/lang/Object", name := "<init>", desc := "()V" } : Jvm.MethodName) object_method_1_code (1 : Nat) (Option.none : Option Jvm.ClassFile.FieldType)).before args0 about1 = true := code_word (m := ⟨0, 0⟩) (meth := k0m0) (c := k0c0) (by decide +kernel) rfl rfl rfl (by decide +kernel)
set_option maxRecDepth 65536 in
theorem w_c3 : (Jvm.Cond.code ({ cls := "com/example/ubicacion/ubicacion/lmf/AlignedPer$Reader", name := "bits", desc := "(I)J" } : Jvm.MethodName) prog_10_method_3_code (6 : Nat) (Option.some Jvm.ClassFile.FieldType.long)).before args0 about1 = true := code_word (m := ⟨2, 2⟩) (meth := k2m2) (c := k2c2) (by decide +kernel) rfl rfl rfl (by decide +kernel)
set_option maxRecDepth 65536 in
theorem w_c4 : (Jvm.Cond.code ({ cls := "com/example/ubicacion/ubicacion/lmf/AlignedPer$Reader", name := "bit", desc := "()Z" } : Jvm.MethodName) prog_10_method_2_code (1 : Nat) (Option.some Jvm.ClassFile.FieldType.boolean)).before args0 about1 = true := code_word (m := ⟨2, 1⟩) (meth := k2m1) (c := k2c1) (by decide +kernel) rfl rfl rfl (by decide +kernel)
set_option maxRecDepth 65536 in
theorem w_c5 : (Jvm.Cond.code ({ cls := "com/example/ubicacion/ubicacion/lmf/ReaderBitPinLaw", name := "expected", desc := "(III)Z" } : Jvm.MethodName) method_3_code (4 : Nat) (Option.some Jvm.ClassFile.FieldType.boolean)).before args0 about1 = true := code_word (m := ⟨1, 2⟩) (meth := k1m2) (c := k1c2) (by decide +kernel) rfl rfl rfl (by decide +kernel)
def codes1 : List Jvm.Cond := [Jvm.Cond.code x code maxLocals ret, Jvm.Cond.code ({ cls := "com/example/ubicacion/ubicacion/lmf/AlignedPer$Reader", name := "<init>", desc := "([B)V" } : Jvm.MethodName) prog_10_method_1_code (2 : Nat) (Option.none : Option Jvm.ClassFile.FieldType), Jvm.Cond.code ({ cls := "java/lang/Object", name := "<init>", desc := "()V" } : Jvm.MethodName) object_method_1_code (1 : Nat) (Option.none : Option Jvm.ClassFile.FieldType), Jvm.Cond.code ({ cls := "com/example/ubicacion/ubicacion/lmf/AlignedPer$Reader", name := "bits", desc := "(I)J" } : Jvm.MethodName) prog_10_method_3_code (6 : Nat) (Option.some Jvm.ClassFile.FieldType.long), Jvm.Cond.code ({ cls := "com/example/ubicacion/ubicacion/lmf/AlignedPer$Reader", name := "bit", desc := "()Z" } : Jvm.MethodName) prog_10_method_2_code (1 : Nat) (Option.some Jvm.ClassFile.FieldType.boolean), Jvm.Cond.code ({ cls := "com/example/ubicacion/ubicacion/lmf/ReaderBitPinLaw", name := "expected", desc := "(III)Z" } : Jvm.MethodName) method_3_code (4 : Nat) (Option.some Jvm.ClassFile.FieldType.boolean)]
set_option maxRecDepth 65536 in
theorem codes_eq : words1.filter isCode = codes1 := rfl
theorem w_codes : ∀ c ∈ words1.filter isCode, c.before args0 about1 = true := by
  rw [codes_eq]
  intro c hc
  simp only [codes1, List.mem_cons, List.not_mem_nil, or_false] at hc
  rcases hc with rfl | rfl | rfl | rfl | rfl | rfl
  · exact w_c0
  · exact w_c1
  · exact w_c2
  · exact w_c3
  · exact w_c4
  · exact w_c5
set_option maxRecDepth 65536 in
theorem w_t1 : (words1.take 24).all (fun c => isCode c || c.before args0 about1) = true := by decide +kernel
set_option maxRecDepth 65536 in
theorem w_t2 : (words1.drop 24).all (fun c => isCode c || c.before args0 about1) = true := by decide +kernel
theorem w_tables : (allAtoms (Jvm.Cond.code x code maxLocals ret :: tables_1)).before args0 about1 = true := by
  rw [allAtoms_all]
  show words1.all (fun c => c.before args0 about1) = true
  refine all_split ?_ w_codes
  rw [← List.take_append_drop 24 words1, List.all_append, w_t1, w_t2]
  rfl
set_option maxRecDepth 65536 in
theorem w_case : (Jvm.Cond.and given_1 narrow_1).before args0 about1 = true := by decide +kernel
theorem w_applies : (headSpec (Jvm.Cond.code x code maxLocals ret :: tables_1) room_1).applies x e0.platform about1 = true :=
  (Spec.applies_iff w_frames).mpr ⟨w_running, w_runnable, w_alone, w_named, w_hears, w_ripe, w_room, w_tables⟩
theorem atStart : AtStart classFile x code maxLocals ret World_1 tables_1 room_1 Calls_1 rest_1 Pre_1 launch0 p0 e0 about1 theMethod args0 below0 :=
  ⟨lists_1, trivial, launch0.admits_env _ _ _, launch0.least_env, fairChoices_fair.cas, fairChoices_fair.clock, w_frames, w_args, w_heap, w_applies, trivial, trivial, w_case⟩
end start1
theorem witness_1 : WitnessClaimed_1 := ⟨start1.p0, start1.e0, start1.about1, start1.theMethod, start1.args0, start1.below0, start1.atStart⟩
end Jvm.Pilot.@@N@@
