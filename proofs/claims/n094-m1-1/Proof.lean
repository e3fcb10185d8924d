import JvmDerived
import JvmDerived.Pilot.@@N@@Statement
import JvmDerived.Pilot.@@N@@Code
set_option linter.unusedVariables false
set_option linter.unusedSimpArgs false
set_option maxHeartbeats 4000000
set_option maxRecDepth 8192
namespace Jvm.OwnKit
open Sem ClassFile Op Lib Jvm.Stand Jvm.Free Jvm.LawKit Jvm.RoadKit
section Own
variable {p : Program} {l : Launch} {e : Env} {R : Room} {s : State} {m : MethodId} {args : Array Value} {below : List Frame} {meth : Method} {c : Code} {T T' : State} {locs : List Loc} {cells slots : Nat}
/-- from the state T with the frame F on top the run comes to the method's end, and what Q says holds there -/
def OwnG (p : Program) (e : Env) (below : List Frame) (s : State) (Q : Option Value → Heap → List Loc → Prop) (k n : Nat) (T : State) (F : JFrame) : Prop :=
  ∃ s₂ o, Steps p.tables e below (T.setTop F) s₂ ∧ s₂.status = .running ∧ Ended s₂ below o ∧ ∃ v L, o = .returned v ∧ Q v s₂.heap L ∧ FrameEnd s o s₂ L k n
theorem OwnG.st {Q : Option Value → Heap → List Loc → Prop} {k n : Nat} {F F' : JFrame} (h : ∀ t, Steps p.tables e below (T'.setTop F') t → Steps p.tables e below (T.setTop F) t) (g : OwnG p e below s Q k n T' F') : OwnG p e below s Q k n T F := by
  obtain ⟨s2, o, h1, r⟩ := g
  exact ⟨s2, o, h _ h1, r⟩
theorem OwnG.leave (X : Stand p l e R s m args below meth c T locs cells slots) {Q : Option Value → Heap → List Loc → Prop} {k n : Nat} {F : JFrame} {v : Option Value} (hv : meth.sig.returnType = none → v = none) (hlk : meth.locks = false)
    (hs : ∀ fs, (∀ (f : JFrame) (acts : List Action), f.method = m → f.locked = none → f.entered = [] → (doReturn e (T.setTop f) acts v).1 = T.setFrames fs) → Steps p.tables e below (T.setTop F) (T.setFrames fs)) (hq : Q v T.heap locs) (hk : cells ≤ k) (hn : slots ≤ n) : OwnG p e below s Q k n T F := by
  obtain ⟨fs, hr, hrun, hended, hW, hsame⟩ := X.leave hv hlk
  exact ⟨_, _, hs fs hr, hrun, hended, _, _, rfl, hq, ⟨_, rfl⟩, hW, hsame.mono hk hn⟩
theorem OwnG.retI (X : Stand p l e R s m args below meth c T locs cells slots) (hx : p.tables.exec = Jvm.exec) {Q : Option Value → Heap → List Loc → Prop} {k n pc : Nat} {Ls : Array Slot} {z : Int32} {rest : List Value} (hret : meth.sig.returnType = some .int) (hlk : meth.locks = false) (hd : decode c.code pc = .ok (.ireturn, 1)) (hq : Q (some (.int z)) T.heap locs) (hk : cells ≤ k) (hn : slots ≤ n) : OwnG p e below s Q k n T (mkF m pc Ls (.int z :: rest)) :=
  OwnG.leave X (fun h => by rw [hret] at h; cases h) hlk (fun fs hr => retOut X hx hret rfl (Or.inl ⟨rfl, Or.inl rfl, z, rfl⟩) hd hr) hq hk hn
theorem OwnG.retJ (X : Stand p l e R s m args below meth c T locs cells slots) (hx : p.tables.exec = Jvm.exec) {Q : Option Value → Heap → List Loc → Prop} {k n pc : Nat} {Ls : Array Slot} {z : Int64} {rest : List Value} (hret : meth.sig.returnType = some .long) (hlk : meth.locks = false) (hd : decode c.code pc = .ok (.lreturn, 1)) (hq : Q (some (.long z)) T.heap locs) (hk : cells ≤ k) (hn : slots ≤ n) : OwnG p e below s Q k n T (mkF m pc Ls (.long z :: rest)) :=
  OwnG.leave X (fun h => by rw [hret] at h; cases h) hlk (fun fs hr => retOut X hx hret rfl (Or.inr (Or.inl ⟨rfl, rfl, z, rfl⟩)) hd hr) hq hk hn
theorem OwnG.retR (X : Stand p l e R s m args below meth c T locs cells slots) (hx : p.tables.exec = Jvm.exec) {Q : Option Value → Heap → List Loc → Prop} {k n pc : Nat} {Ls : Array Slot} {a : Addr} {rest : List Value} {t : FieldType} (hret : meth.sig.returnType = some t) (ht : t.isReference = true) (hnn : narrow t (.ref a) = .ref a) (hlk : meth.locks = false) (hd : decode c.code pc = .ok (.areturn, 1)) (hq : Q (some (.ref a)) T.heap locs) (hk : cells ≤ k) (hn : slots ≤ n) : OwnG p e below s Q k n T (mkF m pc Ls (.ref a :: rest)) :=
  OwnG.leave X (fun h => by rw [hret] at h; cases h) hlk (fun fs hr => retOut X hx hret hnn (Or.inr (Or.inr (Or.inr (Or.inr ⟨rfl, ht, rfl⟩)))) hd hr) hq hk hn
theorem OwnG.retN (X : Stand p l e R s m args below meth c T locs cells slots) (hx : p.tables.exec = Jvm.exec) {Q : Option Value → Heap → List Loc → Prop} {k n pc : Nat} {Ls : Array Slot} {z : Int32} {rest : List Value} {t : FieldType} (ht : t = .boolean ∨ t = .byte ∨ t = .char ∨ t = .short) (hret : meth.sig.returnType = some t) (hlk : meth.locks = false) (hd : decode c.code pc = .ok (.ireturn, 1)) (hq : Q (some (.int (nar t z))) T.heap locs) (hk : cells ≤ k) (hn : slots ≤ n) : OwnG p e below s Q k n T (mkF m pc Ls (.int z :: rest)) :=
  OwnG.leave X (fun h => by rw [hret] at h; cases h) hlk (fun fs hr => Jvm.RoadKit.retN X hx hret ht hd hr) hq hk hn
theorem OwnG.retV (X : Stand p l e R s m args below meth c T locs cells slots) (hx : p.tables.exec = Jvm.exec) {Q : Option Value → Heap → List Loc → Prop} {k n pc : Nat} {Ls : Array Slot} (hret : meth.sig.returnType = none) (hlk : meth.locks = false) (hd : decode c.code pc = .ok (.return_, 1)) (hq : Q none T.heap locs) (hk : cells ≤ k) (hn : slots ≤ n) : OwnG p e below s Q k n T (mkF m pc Ls []) :=
  OwnG.leave X (fun _ => rfl) hlk (fun fs hr => X.returnOut hx hret hd hr) hq hk hn
theorem own_bk {Q : Option Value → Heap → List Loc → Prop} {v : Option Value} {B : Free.Pt} {k n ck sn : Nat} {F : JFrame} {F' : Option Value → JFrame} (X : Stand p l e R s m args below meth c B.U B.locs B.cells B.slots)
    (hp : ∃ L, Q v B.U.heap L ∧ B.locs = locs ++ L ∧ B.cells = cells + k ∧ B.slots = slots + n) (st : ∀ t, Steps p.tables e below (B.U.setTop (F' v)) t → Steps p.tables e below (T.setTop F) t) (hc : cells + k = ck) (hs : slots + n = sn) :
    ∃ T' L v, Stand p l e R s m args below meth c T' (locs ++ L) ck sn ∧ Q v T'.heap L ∧ ∀ t, Steps p.tables e below (T'.setTop (F' v)) t → Steps p.tables e below (T.setTop F) t := by
  obtain ⟨U, L0, k0, n0⟩ := B
  obtain ⟨L, hq, e1, e2, e3⟩ := hp
  subst hc hs e1 e2 e3
  exact ⟨U, L, v, X, hq, st⟩
end Own
end Jvm.OwnKit
namespace Jvm.OwnKit
open Sem ClassFile Op Lib Jvm.Stand Jvm.Free Jvm.LawKit Jvm.RoadKit
section Arrays
variable {p : Program} {l : Launch} {e : Env} {R : Room} {s : State} {m : MethodId} {args : Array Value} {below : List Frame} {meth : Method} {c : Code} {T : State} {locs : List Loc} {cells slots : Nat} {Z : State} {a0 : Array Value} {h h' : Heap} {a b : Addr} {ty : FieldType} {n : Nat} {f f' : Nat → Value}
/-- at a lies an array of kind ty and length n whose components are f 0, f 1, .. -/
def OwnA (Z : State) (h : Heap) (a : Addr) (ty : FieldType) (n : Nat) (f : Nat → Value) : Prop := ∃ c : Cell, Arr Z h a c ty ∧ c.slots.size = n ∧ ∀ i, i < n → c.slots[i]? = some (f i)
def updv {α : Type} (g : Nat → α) (j : Nat) (v : α) : Nat → α := fun i => if i = j then v else g i
abbrev iv' (g : Nat → Int32) : Nat → Value := fun i => .int (g i)
abbrev jv' (g : Nat → Int64) : Nat → Value := fun i => .long (g i)
theorem OwnA.lt (A : OwnA Z h a ty n f) : a < h.size := by obtain ⟨c, A, -⟩ := A; exact A.lt
theorem OwnA.ext (A : OwnA Z h a ty n f) (E : Ext h h') : OwnA Z h' a ty n f := by obtain ⟨c, A, r⟩ := A; exact ⟨c, A.ext E, r⟩
theorem OwnA.other {sl : Nat} {v : Value} (A : OwnA Z h b ty n f) (W : Wr h h' a sl v) (q : b ≠ a) : OwnA Z h' b ty n f := by obtain ⟨c, A, r⟩ := A; exact ⟨c, A.other W q, r⟩
theorem OwnA.keep {ws : List Addr} (A : OwnA Z h a ty n f) (K : Keep h h' ws) (q : a ∉ ws) : OwnA Z h' a ty n f := by obtain ⟨c, A, r⟩ := A; exact ⟨c, ⟨K.2.1 a c A.1 q, A.2⟩, r⟩
theorem OwnA.congr (A : OwnA Z h a ty n f) (q : ∀ i, i < n → f i = f' i) : OwnA Z h a ty n f' := by obtain ⟨c, A, s1, s2⟩ := A; exact ⟨c, A, s1, fun i hi => (s2 i hi).trans (congrArg some (q i hi))⟩
theorem own_in {c : Cell} {j : Int32} (S : c.slots.size = n) (h0 : 0 ≤ j.toInt) (h1 : j.toInt < n) : ¬ (j < 0 ∨ c.slots.size ≤ j.toNatClampNeg) := by
  have e0 : (0 : Int32).toInt = 0 := rfl
  have e1 : j.toNatClampNeg = j.toInt.toNat := rfl
  rw [S, Int32.lt_iff_toInt_lt, e0, e1]; omega
theorem own_slots (c : Cell) (i : Nat) (v : Value) : (c.setSlot i v).slots = c.slots.setIfInBounds i v := rfl
theorem own_set {cl : Cell} {sl : Nat} {v : Value} (A : Arr Z h a cl ty) (S : cl.slots.size = n) (G : ∀ i, i < n → cl.slots[i]? = some (f i)) (W : Wr h h' a sl v) (hs : sl < n) : OwnA Z h' a ty n (updv f sl v) := by
  refine ⟨_, A.same W, by rw [sz_set]; exact S, fun i hi => ?_⟩
  rw [own_slots]
  by_cases u : sl = i
  · subst u; rw [Array.getElem?_setIfInBounds_self_of_lt (by omega)]; exact congrArg some (show v = (if sl = sl then v else f sl) by rw [if_pos rfl])
  · rw [Array.getElem?_setIfInBounds_ne u, G i hi]; exact congrArg some (show f i = (if i = sl then v else f i) by rw [if_neg (fun q => u q.symm)])
theorem own_ldB {g : Nat → Int32} (A : OwnA Z h a .byte n (iv' g)) (X : Stand p l e R s m args below meth c T locs cells slots) (hx : p.tables.exec = Jvm.exec) (hZ : Z.Warmed39 s.vm) (eT : T.heap = h) {j : Int32} (h0 : 0 ≤ j.toInt) (h1 : j.toInt < n) {gf : JFrame} (hg : gf.method = m) {rest : List Value} (hs : gf.stack = .int j :: .ref a :: rest) (hd : decode c.code gf.pc = .ok (.baload, 1)) :
    ∀ target, Steps p.tables e below (T.setTop { gf with pc := gf.pc + 1, stack := .int (g j.toInt.toNat) :: rest }) target → Steps p.tables e below (T.setTop gf) target := by
  obtain ⟨cl, A, S, G⟩ := A
  exact fun t k => X.baloadBytes hx (by rw [eT]; exact A.1) (State.isArrayOf_alike hZ.alike A.2.1) A.2.2 (own_in S h0 h1) (G j.toInt.toNat (by omega)) hg hs hd t k
theorem own_ldI {g : Nat → Int32} (A : OwnA Z h a .int n (iv' g)) (X : Stand p l e R s m args below meth c T locs cells slots) (hx : p.tables.exec = Jvm.exec) (hZ : Z.Warmed39 s.vm) (eT : T.heap = h) {j : Int32} (h0 : 0 ≤ j.toInt) (h1 : j.toInt < n) {gf : JFrame} (hg : gf.method = m) {rest : List Value} (hs : gf.stack = .int j :: .ref a :: rest) (hd : decode c.code gf.pc = .ok (.iaload, 1)) :
    ∀ target, Steps p.tables e below (T.setTop { gf with pc := gf.pc + 1, stack := .int (g j.toInt.toNat) :: rest }) target → Steps p.tables e below (T.setTop gf) target := by
  obtain ⟨cl, A, S, G⟩ := A
  exact fun t k => X.iaload hx (by rw [eT]; exact A.1) (State.isArrayOf_alike hZ.alike A.2.1) A.2.2 (own_in S h0 h1) (G j.toInt.toNat (by omega)) hg hs hd t k
theorem own_ldJ {g : Nat → Int64} (A : OwnA Z h a .long n (jv' g)) (X : Stand p l e R s m args below meth c T locs cells slots) (hx : p.tables.exec = Jvm.exec) (hZ : Z.Warmed39 s.vm) (eT : T.heap = h) {j : Int32} (h0 : 0 ≤ j.toInt) (h1 : j.toInt < n) {gf : JFrame} (hg : gf.method = m) {rest : List Value} (hs : gf.stack = .int j :: .ref a :: rest) (hd : decode c.code gf.pc = .ok (.laload, 1)) :
    ∀ target, Steps p.tables e below (T.setTop { gf with pc := gf.pc + 1, stack := .long (g j.toInt.toNat) :: rest }) target → Steps p.tables e below (T.setTop gf) target := by
  obtain ⟨cl, A, S, G⟩ := A
  exact fun t k => X.laload hx (by rw [eT]; exact A.1) (State.isArrayOf_alike hZ.alike A.2.1) A.2.2 (own_in S h0 h1) (G j.toInt.toNat (by omega)) hg hs hd t k
theorem own_len (A : OwnA Z h a ty n f) (X : Stand p l e R s m args below meth c T locs cells slots) (hx : p.tables.exec = Jvm.exec) (hZ : Z.Warmed39 s.vm) (eT : T.heap = h) {gf : JFrame} (hg : gf.method = m) {rest : List Value} (hs : gf.stack = .ref a :: rest) (hd : decode c.code gf.pc = .ok (.arraylength, 1)) :
    ∀ target, Steps p.tables e below (T.setTop { gf with pc := gf.pc + 1, stack := .int n.toInt32 :: rest }) target → Steps p.tables e below (T.setTop gf) target := by
  obtain ⟨cl, A, S, G⟩ := A
  subst S
  exact fun t k => X.arraylength hx (by rw [eT]; exact A.1) (State.isArrayOf_alike hZ.alike A.2.1) hg hs hd t k
theorem own_stB {g : Nat → Int32} (A : OwnA Z h a .byte n (iv' g)) (X : Stand p l e R s m args below meth c T locs cells slots) (hx : p.tables.exec = Jvm.exec) (hZ : Z.Warmed39 s.vm) (eT : T.heap = h) {j x : Int32} (h0 : 0 ≤ j.toInt) (h1 : j.toInt < n) {gf : JFrame} (hg : gf.method = m) {rest : List Value} (hs : gf.stack = .int x :: .int j :: .ref a :: rest) (hd : decode c.code gf.pc = .ok (.bastore, 1)) :
    ∃ T' h', Stand p l e R s m args below meth c T' (locs ++ [⟨a, j.toNatClampNeg⟩]) cells slots ∧ T'.heap = h' ∧ Wr h h' a j.toNatClampNeg (.int (nar .byte x)) ∧ OwnA Z h' a .byte n (iv' (updv g j.toInt.toNat x.toInt8.toInt32)) ∧ ∀ target, Steps p.tables e below (T'.setTop { gf with pc := gf.pc + 1, stack := rest }) target → Steps p.tables e below (T.setTop gf) target := by
  obtain ⟨cl, A, S, G⟩ := A
  obtain ⟨T', h', X', e', W, st⟩ := stB X hx hZ eT A (own_in S h0 h1) hg hs hd
  refine ⟨T', h', X', e', W, OwnA.congr (own_set A S G W (by show j.toInt.toNat < n; omega)) fun i hi => ?_, st⟩
  show (if i = j.toInt.toNat then Value.int (x.toInt8.toInt32) else .int (g i)) = .int (if i = j.toInt.toNat then x.toInt8.toInt32 else g i)
  by_cases u : i = j.toInt.toNat
  · rw [if_pos u, if_pos u]
  · rw [if_neg u, if_neg u]
theorem own_stI {g : Nat → Int32} (A : OwnA Z h a .int n (iv' g)) (X : Stand p l e R s m args below meth c T locs cells slots) (hx : p.tables.exec = Jvm.exec) (hZ : Z.Warmed39 s.vm) (eT : T.heap = h) {j x : Int32} (h0 : 0 ≤ j.toInt) (h1 : j.toInt < n) {gf : JFrame} (hg : gf.method = m) {rest : List Value} (hs : gf.stack = .int x :: .int j :: .ref a :: rest) (hd : decode c.code gf.pc = .ok (.iastore, 1)) :
    ∃ T' h', Stand p l e R s m args below meth c T' (locs ++ [⟨a, j.toNatClampNeg⟩]) cells slots ∧ T'.heap = h' ∧ Wr h h' a j.toNatClampNeg (.int x) ∧ OwnA Z h' a .int n (iv' (updv g j.toInt.toNat x)) ∧ ∀ target, Steps p.tables e below (T'.setTop { gf with pc := gf.pc + 1, stack := rest }) target → Steps p.tables e below (T.setTop gf) target := by
  obtain ⟨cl, A, S, G⟩ := A
  obtain ⟨T', h', X', e', W, st⟩ := stI X hx hZ eT A (own_in S h0 h1) hg hs hd
  refine ⟨T', h', X', e', W, OwnA.congr (own_set A S G W (by show j.toInt.toNat < n; omega)) fun i hi => ?_, st⟩
  show (if i = j.toInt.toNat then Value.int x else .int (g i)) = .int (if i = j.toInt.toNat then x else g i)
  by_cases u : i = j.toInt.toNat
  · rw [if_pos u, if_pos u]
  · rw [if_neg u, if_neg u]
theorem own_stJ {g : Nat → Int64} (A : OwnA Z h a .long n (jv' g)) (X : Stand p l e R s m args below meth c T locs cells slots) (hx : p.tables.exec = Jvm.exec) (hZ : Z.Warmed39 s.vm) (eT : T.heap = h) {j : Int32} {x : Int64} (h0 : 0 ≤ j.toInt) (h1 : j.toInt < n) {gf : JFrame} (hg : gf.method = m) {rest : List Value} (hs : gf.stack = .long x :: .int j :: .ref a :: rest) (hd : decode c.code gf.pc = .ok (.lastore, 1)) :
    ∃ T' h', Stand p l e R s m args below meth c T' (locs ++ [⟨a, j.toNatClampNeg⟩]) cells slots ∧ T'.heap = h' ∧ Wr h h' a j.toNatClampNeg (.long x) ∧ OwnA Z h' a .long n (jv' (updv g j.toInt.toNat x)) ∧ ∀ target, Steps p.tables e below (T'.setTop { gf with pc := gf.pc + 1, stack := rest }) target → Steps p.tables e below (T.setTop gf) target := by
  obtain ⟨cl, A, S, G⟩ := A
  obtain ⟨T', h', X', e', W, st⟩ := stJ X hx hZ eT A (own_in S h0 h1) hg hs hd
  refine ⟨T', h', X', e', W, OwnA.congr (own_set A S G W (by show j.toInt.toNat < n; omega)) fun i hi => ?_, st⟩
  show (if i = j.toInt.toNat then Value.long x else .long (g i)) = .long (if i = j.toInt.toNat then x else g i)
  by_cases u : i = j.toInt.toNat
  · rw [if_pos u, if_pos u]
  · rw [if_neg u, if_neg u]
theorem own_newA {k : ClassId} {z : Int32} (A : Arr Z h a (newA k ty z) ty) (hn : z.toInt = n) : OwnA Z h a ty n (fun _ => defaultValue ty) := by
  have e1 : z.toNatClampNeg = n := by show z.toInt.toNat = n; omega
  refine ⟨_, A, by rw [sz_new]; exact e1, fun i hi => ?_⟩
  show (Array.replicate z.toNatClampNeg (defaultValue ty))[i]? = _
  rw [e1, Array.getElem?_replicate, if_pos hi]
end Arrays
end Jvm.OwnKit
namespace Jvm.OwnKit
open Jvm.RoadKit
theorem own_split {w : Nat} (x m : BitVec w) : (x &&& ~~~m) + (x &&& m) = x := by
  rw [BitVec.add_eq_or_of_and_eq_zero]
  · ext i hi
    simp only [BitVec.getElem_or, BitVec.getElem_and, BitVec.getElem_not]
    cases x[i] <;> cases m[i] <;> rfl
  · ext i hi
    simp only [BitVec.getElem_and, BitVec.getElem_not, BitVec.getElem_zero]
    cases x[i] <;> cases m[i] <;> rfl
theorem own_hi (x m m' : Int32) (h : m' = ~~~m) : (x &&& m') + (x &&& m) = x := by
  subst h
  exact Int32.toBitVec_inj.mp (own_split x.toBitVec m.toBitVec)
theorem own_irem (x y : Int32) : x - (x / y) * y = x % y := by
  apply Int32.toInt_inj.mp
  have h1 := rng32 (x % y)
  have e := Int.mul_tdiv_add_tmod x.toInt y.toInt
  rw [Int32.toInt_mod] at h1 ⊢
  rw [Int32.toInt_sub, Int32.toInt_mul, Int32.toInt_div, Int.bmod_mul_bmod, Int.sub_bmod_bmod]
  rw [show x.toInt - x.toInt.tdiv y.toInt * y.toInt = x.toInt.tmod y.toInt by rw [Int.mul_comm]; omega]
  exact Int.bmod_eq_of_le_mul_two (by omega) (by omega)
end Jvm.OwnKit
namespace Jvm.Pilot.@@N@@
open Jvm Jvm.ClassFile Sem Op Lib Jvm.Free Jvm.Stand Jvm.LawKit Jvm.RoadKit Bundle Jvm.Pilot.@@N@@.Jvm.D Jvm.OwnKit
def own_hash (g : Nat → Int32) : Int32 → Nat → Nat → Int32
  | h, _, 0 => h
  | h, i, k + 1 => own_hash g ((31 : Int32) * h + g i) (i + 1) k
theorem own_h0 (g : Nat → Int32) (h : Int32) (i : Nat) : own_hash g h i 0 = h := rfl
theorem own_hs (g : Nat → Int32) (h : Int32) (i k : Nat) : own_hash g h i (k + 1) = own_hash g ((31 : Int32) * h + g i) (i + 1) k := rfl
theorem own_four (g : Nat → Int32) (h : Int32) (i k : Nat) : own_hash g h i (k + 4) = own_hash g ((((((923521 : Int32) * h) + ((29791 : Int32) * g i)) + ((961 : Int32) * g (i + 1))) + ((31 : Int32) * g (i + 2))) + g (i + 3)) (i + 4) k := by
  rw [show k + 4 = k + 1 + 1 + 1 + 1 by omega, own_hs, own_hs, own_hs, own_hs]
  congr 1
  grind
theorem own_ip (i : Int32) (k : Int32) (kk : Nat) (hk : k.toInt = kk) (h0 : 0 ≤ i.toInt) (h1 : i.toInt + kk < 2147483648) : (i + k).toInt = i.toInt + kk ∧ (i + k).toInt.toNat = i.toInt.toNat + kk := by
  have h := c_iadd i k
  have r := rng32 (i + k)
  omega
def F1 (p1 : Int32) (p3 : Int32) (p4 : Int32) (g_a2 : Nat → Int32) : Int32 := (if p3 < p4 then (((31 : Int32) * p1) + (g_a2 p3.toInt.toNat)) else p1)
theorem d1_0 : decode method_2_code 0 = .ok (.iload_n 2, 1) := by decide +kernel
theorem d1_1 : decode method_2_code 1 = .ok (.iload_n 3, 1) := by decide +kernel
theorem d1_2 : decode method_2_code 2 = .ok (.if_icmp .ge 12, 3) := by decide +kernel
theorem d1_5 : decode method_2_code 5 = .ok (.bipush 31, 2) := by decide +kernel
theorem d1_7 : decode method_2_code 7 = .ok (.iload_n 0, 1) := by decide +kernel
theorem d1_8 : decode method_2_code 8 = .ok (.imul, 1) := by decide +kernel
theorem d1_9 : decode method_2_code 9 = .ok (.aload_n 1, 1) := by decide +kernel
theorem d1_10 : decode method_2_code 10 = .ok (.iload_n 2, 1) := by decide +kernel
theorem d1_11 : decode method_2_code 11 = .ok (.baload, 1) := by decide +kernel
theorem d1_12 : decode method_2_code 12 = .ok (.iadd, 1) := by decide +kernel
theorem d1_13 : decode method_2_code 13 = .ok (.ireturn, 1) := by decide +kernel
theorem d1_14 : decode method_2_code 14 = .ok (.iload_n 0, 1) := by decide +kernel
theorem d1_15 : decode method_2_code 15 = .ok (.ireturn, 1) := by decide +kernel
theorem pn_1 : plainName "com/example/emberwire/emberwire/IdsHashPinLaw" = true := by first | (simp [plainName, overriddenIn]; done) | decide +kernel
theorem ef_1 (m : MethodId) (p1 : Int32) (a2 : Addr) (p3 : Int32) (p4 : Int32) : entryFrame m #[(.int p1), (.ref a2), (.int p3), (.int p4)] 4 = mkF m 0 #[.val (.int p1), .val (.ref a2), .val (.int p3), .val (.int p4)] [] := by first | (simp [entryFrame, mkF, argsToLocals, Value.category]; done) | rfl
def Q1 (Z : State) (p1 : Int32) (a2 : Addr) (p3 : Int32) (p4 : Int32) (n_a2 : Nat) (g_a2 : Nat → Int32) (h0 : Heap) (n0 : Nat) (v : Option Value) (h : Heap) (L : List Loc) : Prop := v = some (.int (F1 p1 p3 p4 g_a2)) ∧ Fr n0 L ∧ h = h0
set_option maxRecDepth 65536 in
set_option maxHeartbeats 40000000 in
theorem rm1 (l : Launch) (Z : State) (a0 : Array Value) (hw : ∀ d ∈ tables_1, d.before a0 Z = true) (ws : List Jvm.Cond) (p1 : Int32) (a2 : Addr) (p3 : Int32) (p4 : Int32) (n_a2 : Nat) (g_a2 : Nat → Int32) (h0 : Heap) (n0 : Nat) (Z0 : n0 ≤ h0.size) (A_a2 : OwnA Z h0 a2 .byte n_a2 (iv' g_a2)) (hs0 : 0 ≤ p3.toInt) (hs1 : p3 < p4 → p3.toInt < n_a2) :
    MetFree l (⟨"com/example/emberwire/emberwire/IdsHashPinLaw", "step", "(I[BII)I"⟩ : MethodName) (head1 (Jvm.Cond.code (⟨"com/example/emberwire/emberwire/IdsHashPinLaw", "step", "(I[BII)I"⟩ : MethodName) method_2_code 4 (some .int) :: ws) ({ frames := 0, cells := 0, slots := 0, locals := 0 } : Room)) (fun a U => a = #[(.int p1), (.ref a2), (.int p3), (.int p4)] ∧ Z.Warmed39 U.vm ∧ U.heap = h0) (fun _ _ _ _ _ => True) (fun _ U o U' => ∃ v L, o = .returned v ∧ Q1 Z p1 a2 p3 p4 n_a2 g_a2 h0 n0 v U'.heap L ∧ FrameEnd U o U' L ({ frames := 0, cells := 0, slots := 0, locals := 0 } : Room).cells ({ frames := 0, cells := 0, slots := 0, locals := 0 } : Room).slots) := by
  refine MetFree.of_bodySF (plainFor_of_name pn_1) hisR ?_
  intro p e s m args below meth c s₁ Bd hml0 hP hK
  obtain ⟨rfl, hZ, hh⟩ := hP
  have hx := Bd.exec
  have hby := Bd.bytes
  have hml : c.maxLocals = 4 := hml0
  have hown : s.vm.findClass "com/example/emberwire/emberwire/IdsHashPinLaw" = some m.cls := findClass_of_methodNamed Bd.named
  have hnm := (name_of_methodNamed Bd.named Bd.method).1
  have X0 : Stand p l e ({ frames := 0, cells := 0, slots := 0, locals := 0 } : Room) s m #[(.int p1), (.ref a2), (.int p3), (.int p4)] below meth c s₁ [] 0 0 := Stand.of_body Bd
  have e0 : s₁.heap = h0 := by rw [← hh, Bd.state]; rfl
  have N0 := Fr.nil n0
  suffices hG : OwnG p e below s (Q1 Z p1 a2 p3 p4 n_a2 g_a2 h0 n0) ({ frames := 0, cells := 0, slots := 0, locals := 0 } : Room).cells ({ frames := 0, cells := 0, slots := 0, locals := 0 } : Room).slots s₁ (mkF m 0 #[.val (.int p1), .val (.ref a2), .val (.int p3), .val (.int p4)] []) by
    obtain ⟨s2, o2, g1, g2⟩ := hG
    exact ⟨s2, o2, castTop (ef_1 m p1 a2 p3 p4) g1, g2⟩
  have sg1 : ∀ tgt, Steps p.tables e below (s₁.setTop (mkF m 2 #[.val (.int p1), .val (.ref a2), .val (.int p3), .val (.int p4)] [(.int p4), (.int p3)])) tgt → Steps p.tables e below (s₁.setTop (mkF m 0 #[.val (.int p1), .val (.ref a2), .val (.int p3), .val (.int p4)] [])) tgt := by
    intro tgt kt
    refine XS.iloadN X0.here hx rfl (hb hby d1_0) rfl ?_
    show Steps p.tables e below (s₁.setTop (mkF m 1 #[.val (.int p1), .val (.ref a2), .val (.int p3), .val (.int p4)] [(.int p3)])) _
    refine XS.iloadN X0.here hx rfl (hb hby d1_1) rfl ?_
    show Steps p.tables e below (s₁.setTop (mkF m 2 #[.val (.int p1), .val (.ref a2), .val (.int p3), .val (.int p4)] [(.int p4), (.int p3)])) _
    exact kt
  refine OwnG.st sg1 ?_
  by_cases hc2_2 : p3 < p4
  · have sg3 : ∀ tgt, Steps p.tables e below (s₁.setTop (mkF m 13 #[.val (.int p1), .val (.ref a2), .val (.int p3), .val (.int p4)] [(.int (((31 : Int32) * p1) + (g_a2 p3.toInt.toNat)))])) tgt → Steps p.tables e below (s₁.setTop (mkF m 2 #[.val (.int p1), .val (.ref a2), .val (.int p3), .val (.int p4)] [(.int p4), (.int p3)])) tgt := by
      intro tgt kt
      refine XS.icmpNo X0.here hx rfl (hb hby d1_2) rfl (tlt hc2_2).2.1 ?_
      show Steps p.tables e below (s₁.setTop (mkF m 5 #[.val (.int p1), .val (.ref a2), .val (.int p3), .val (.int p4)] [])) _
      refine XS.bipush X0.here hx rfl (hb hby d1_5) ?_
      show Steps p.tables e below (s₁.setTop (mkF m 7 #[.val (.int p1), .val (.ref a2), .val (.int p3), .val (.int p4)] [(.int (31 : Int32))])) _
      refine XS.iloadN X0.here hx rfl (hb hby d1_7) rfl ?_
      show Steps p.tables e below (s₁.setTop (mkF m 8 #[.val (.int p1), .val (.ref a2), .val (.int p3), .val (.int p4)] [(.int p1), (.int (31 : Int32))])) _
      refine XS.imul X0.here hx rfl (hb hby d1_8) rfl ?_
      show Steps p.tables e below (s₁.setTop (mkF m 9 #[.val (.int p1), .val (.ref a2), .val (.int p3), .val (.int p4)] [(.int ((31 : Int32) * p1))])) _
      refine XS.aloadN X0.here hx rfl (hb hby d1_9) rfl rfl ?_
      show Steps p.tables e below (s₁.setTop (mkF m 10 #[.val (.int p1), .val (.ref a2), .val (.int p3), .val (.int p4)] [(.ref a2), (.int ((31 : Int32) * p1))])) _
      refine XS.iloadN X0.here hx rfl (hb hby d1_10) rfl ?_
      show Steps p.tables e below (s₁.setTop (mkF m 11 #[.val (.int p1), .val (.ref a2), .val (.int p3), .val (.int p4)] [(.int p3), (.ref a2), (.int ((31 : Int32) * p1))])) _
      refine own_ldB A_a2 X0 hx hZ e0 hs0 (hs1 hc2_2) (gf := (mkF m 11 #[.val (.int p1), .val (.ref a2), .val (.int p3), .val (.int p4)] [(.int p3), (.ref a2), (.int ((31 : Int32) * p1))])) rfl rfl (hb hby d1_11) _ ?_
      show Steps p.tables e below (s₁.setTop (mkF m 12 #[.val (.int p1), .val (.ref a2), .val (.int p3), .val (.int p4)] [(.int (g_a2 p3.toInt.toNat)), (.int ((31 : Int32) * p1))])) _
      refine XS.iadd X0.here hx rfl (hb hby d1_12) rfl ?_
      show Steps p.tables e below (s₁.setTop (mkF m 13 #[.val (.int p1), .val (.ref a2), .val (.int p3), .val (.int p4)] [(.int (((31 : Int32) * p1) + (g_a2 p3.toInt.toNat)))])) _
      exact kt
    refine OwnG.st sg3 ?_
    have hv : (((31 : Int32) * p1) + (g_a2 p3.toInt.toNat)) = F1 p1 p3 p4 g_a2 := by simp only [F1, if_pos hc2_2]
    exact OwnG.retI X0 hx Bd.returns (BodyLoose.notSynchronized Bd) (hb hby d1_13) ⟨congrArg (fun w => some (Value.int w)) hv, N0, e0⟩ (by decide) (by decide)
  · have sg4 : ∀ tgt, Steps p.tables e below (s₁.setTop (mkF m 15 #[.val (.int p1), .val (.ref a2), .val (.int p3), .val (.int p4)] [(.int p1)])) tgt → Steps p.tables e below (s₁.setTop (mkF m 2 #[.val (.int p1), .val (.ref a2), .val (.int p3), .val (.int p4)] [(.int p4), (.int p3)])) tgt := by
      intro tgt kt
      refine XS.icmpYes X0.here hx rfl (pc0 := 2) (pc' := 14) rfl (hb hby d1_2) rfl (flt hc2_2).2.1 (by decide) (by decide) ?_
      show Steps p.tables e below (s₁.setTop (mkF m 14 #[.val (.int p1), .val (.ref a2), .val (.int p3), .val (.int p4)] [])) _
      refine XS.iloadN X0.here hx rfl (hb hby d1_14) rfl ?_
      show Steps p.tables e below (s₁.setTop (mkF m 15 #[.val (.int p1), .val (.ref a2), .val (.int p3), .val (.int p4)] [(.int p1)])) _
      exact kt
    refine OwnG.st sg4 ?_
    have hv : p1 = F1 p1 p3 p4 g_a2 := by simp only [F1, if_neg hc2_2]
    exact OwnG.retI X0 hx Bd.returns (BodyLoose.notSynchronized Bd) (hb hby d1_15) ⟨congrArg (fun w => some (Value.int w)) hv, N0, e0⟩ (by decide) (by decide)
def F2 (p1 p3 p4 : Int32) (g : Nat → Int32) : Int32 := own_hash g p1 p3.toInt.toNat (p4.toInt - p3.toInt).toNat
theorem d2_0 : decode prog_23_method_5_code 0 = .ok (.iload_n 2, 1) := by decide +kernel
theorem d2_1 : decode prog_23_method_5_code 1 = .ok (.istore 4, 2) := by decide +kernel
theorem d2_3 : decode prog_23_method_5_code 3 = .ok (.iload 4, 2) := by decide +kernel
theorem d2_5 : decode prog_23_method_5_code 5 = .ok (.iconst 4, 1) := by decide +kernel
theorem d2_6 : decode prog_23_method_5_code 6 = .ok (.iadd, 1) := by decide +kernel
theorem d2_7 : decode prog_23_method_5_code 7 = .ok (.iload_n 3, 1) := by decide +kernel
theorem d2_8 : decode prog_23_method_5_code 8 = .ok (.if_icmp .gt 51, 3) := by decide +kernel
theorem d2_11 : decode prog_23_method_5_code 11 = .ok (.ldc 33, 2) := by decide +kernel
theorem d2_13 : decode prog_23_method_5_code 13 = .ok (.iload_n 0, 1) := by decide +kernel
theorem d2_14 : decode prog_23_method_5_code 14 = .ok (.imul, 1) := by decide +kernel
theorem d2_15 : decode prog_23_method_5_code 15 = .ok (.sipush 29791, 3) := by decide +kernel
theorem d2_18 : decode prog_23_method_5_code 18 = .ok (.aload_n 1, 1) := by decide +kernel
theorem d2_19 : decode prog_23_method_5_code 19 = .ok (.iload 4, 2) := by decide +kernel
theorem d2_21 : decode prog_23_method_5_code 21 = .ok (.baload, 1) := by decide +kernel
theorem d2_22 : decode prog_23_method_5_code 22 = .ok (.imul, 1) := by decide +kernel
theorem d2_23 : decode prog_23_method_5_code 23 = .ok (.iadd, 1) := by decide +kernel
theorem d2_24 : decode prog_23_method_5_code 24 = .ok (.sipush 961, 3) := by decide +kernel
theorem d2_27 : decode prog_23_method_5_code 27 = .ok (.aload_n 1, 1) := by decide +kernel
theorem d2_28 : decode prog_23_method_5_code 28 = .ok (.iload 4, 2) := by decide +kernel
theorem d2_30 : decode prog_23_method_5_code 30 = .ok (.iconst 1, 1) := by decide +kernel
theorem d2_31 : decode prog_23_method_5_code 31 = .ok (.iadd, 1) := by decide +kernel
theorem d2_32 : decode prog_23_method_5_code 32 = .ok (.baload, 1) := by decide +kernel
theorem d2_33 : decode prog_23_method_5_code 33 = .ok (.imul, 1) := by decide +kernel
theorem d2_34 : decode prog_23_method_5_code 34 = .ok (.iadd, 1) := by decide +kernel
theorem d2_35 : decode prog_23_method_5_code 35 = .ok (.bipush 31, 2) := by decide +kernel
theorem d2_37 : decode prog_23_method_5_code 37 = .ok (.aload_n 1, 1) := by decide +kernel
theorem d2_38 : decode prog_23_method_5_code 38 = .ok (.iload 4, 2) := by decide +kernel
theorem d2_40 : decode prog_23_method_5_code 40 = .ok (.iconst 2, 1) := by decide +kernel
theorem d2_41 : decode prog_23_method_5_code 41 = .ok (.iadd, 1) := by decide +kernel
theorem d2_42 : decode prog_23_method_5_code 42 = .ok (.baload, 1) := by decide +kernel
theorem d2_43 : decode prog_23_method_5_code 43 = .ok (.imul, 1) := by decide +kernel
theorem d2_44 : decode prog_23_method_5_code 44 = .ok (.iadd, 1) := by decide +kernel
theorem d2_45 : decode prog_23_method_5_code 45 = .ok (.aload_n 1, 1) := by decide +kernel
theorem d2_46 : decode prog_23_method_5_code 46 = .ok (.iload 4, 2) := by decide +kernel
theorem d2_48 : decode prog_23_method_5_code 48 = .ok (.iconst 3, 1) := by decide +kernel
theorem d2_49 : decode prog_23_method_5_code 49 = .ok (.iadd, 1) := by decide +kernel
theorem d2_50 : decode prog_23_method_5_code 50 = .ok (.baload, 1) := by decide +kernel
theorem d2_51 : decode prog_23_method_5_code 51 = .ok (.iadd, 1) := by decide +kernel
theorem d2_52 : decode prog_23_method_5_code 52 = .ok (.istore_n 0, 1) := by decide +kernel
theorem d2_53 : decode prog_23_method_5_code 53 = .ok (.iinc 4 4, 3) := by decide +kernel
theorem d2_56 : decode prog_23_method_5_code 56 = .ok (.goto (-53), 3) := by decide +kernel
theorem d2_59 : decode prog_23_method_5_code 59 = .ok (.iload 4, 2) := by decide +kernel
theorem d2_61 : decode prog_23_method_5_code 61 = .ok (.iload_n 3, 1) := by decide +kernel
theorem d2_62 : decode prog_23_method_5_code 62 = .ok (.if_icmp .ge 19, 3) := by decide +kernel
theorem d2_65 : decode prog_23_method_5_code 65 = .ok (.bipush 31, 2) := by decide +kernel
theorem d2_67 : decode prog_23_method_5_code 67 = .ok (.iload_n 0, 1) := by decide +kernel
theorem d2_68 : decode prog_23_method_5_code 68 = .ok (.imul, 1) := by decide +kernel
theorem d2_69 : decode prog_23_method_5_code 69 = .ok (.aload_n 1, 1) := by decide +kernel
theorem d2_70 : decode prog_23_method_5_code 70 = .ok (.iload 4, 2) := by decide +kernel
theorem d2_72 : decode prog_23_method_5_code 72 = .ok (.baload, 1) := by decide +kernel
theorem d2_73 : decode prog_23_method_5_code 73 = .ok (.iadd, 1) := by decide +kernel
theorem d2_74 : decode prog_23_method_5_code 74 = .ok (.istore_n 0, 1) := by decide +kernel
theorem d2_75 : decode prog_23_method_5_code 75 = .ok (.iinc 4 1, 3) := by decide +kernel
theorem d2_78 : decode prog_23_method_5_code 78 = .ok (.goto (-19), 3) := by decide +kernel
theorem d2_81 : decode prog_23_method_5_code 81 = .ok (.iload_n 0, 1) := by decide +kernel
theorem d2_82 : decode prog_23_method_5_code 82 = .ok (.ireturn, 1) := by decide +kernel
theorem pn_2 : plainName "com/example/emberwire/emberwire/Ids" = true := by first | (simp [plainName, overriddenIn]; done) | decide +kernel
theorem ef_2 (m : MethodId) (p1 : Int32) (a2 : Addr) (p3 : Int32) (p4 : Int32) : entryFrame m #[(.int p1), (.ref a2), (.int p3), (.int p4)] 5 = mkF m 0 #[.val (.int p1), .val (.ref a2), .val (.int p3), .val (.int p4), .unset] [] := by first | (simp [entryFrame, mkF, argsToLocals, Value.category]; done) | rfl
def Q2 (Z : State) (p1 : Int32) (a2 : Addr) (p3 : Int32) (p4 : Int32) (n_a2 : Nat) (g_a2 : Nat → Int32) (h0 : Heap) (n0 : Nat) (v : Option Value) (h : Heap) (L : List Loc) : Prop := v = some (.int (F2 p1 p3 p4 g_a2)) ∧ Fr n0 L ∧ h = h0
set_option maxRecDepth 65536 in
set_option maxHeartbeats 40000000 in
theorem rm2 (l : Launch) (Z : State) (a0 : Array Value) (hw : ∀ d ∈ tables_1, d.before a0 Z = true) (ws : List Jvm.Cond) (p1 : Int32) (a2 : Addr) (p3 : Int32) (p4 : Int32) (n_a2 : Nat) (g_a2 : Nat → Int32) (h0 : Heap) (n0 : Nat) (Z0 : n0 ≤ h0.size) (A_a2 : OwnA Z h0 a2 .byte n_a2 (iv' g_a2)) (hs0 : 0 ≤ p3.toInt) (hs1 : p4.toInt ≤ n_a2) (hs2 : n_a2 ≤ 1000) (hs3 : p3.toInt ≤ 1000) :
    MetFree l (⟨"com/example/emberwire/emberwire/Ids", "hash", "(I[BII)I"⟩ : MethodName) (head1 (Jvm.Cond.code (⟨"com/example/emberwire/emberwire/Ids", "hash", "(I[BII)I"⟩ : MethodName) prog_23_method_5_code 5 (some .int) :: ws) ({ frames := 0, cells := 0, slots := 0, locals := 0 } : Room)) (fun a U => a = #[(.int p1), (.ref a2), (.int p3), (.int p4)] ∧ Z.Warmed39 U.vm ∧ U.heap = h0) (fun _ _ _ _ _ => True) (fun _ U o U' => ∃ v L, o = .returned v ∧ Q2 Z p1 a2 p3 p4 n_a2 g_a2 h0 n0 v U'.heap L ∧ FrameEnd U o U' L ({ frames := 0, cells := 0, slots := 0, locals := 0 } : Room).cells ({ frames := 0, cells := 0, slots := 0, locals := 0 } : Room).slots) := by
  refine MetFree.of_bodySF (plainFor_of_name pn_2) hisR ?_
  intro p e s m args below meth c s₁ Bd hml0 hP hK
  obtain ⟨rfl, hZ, hh⟩ := hP
  have hx := Bd.exec
  have hby := Bd.bytes
  have hml : c.maxLocals = 5 := hml0
  have hown : s.vm.findClass "com/example/emberwire/emberwire/Ids" = some m.cls := findClass_of_methodNamed Bd.named
  have hnm := (name_of_methodNamed Bd.named Bd.method).1
  have X0 : Stand p l e ({ frames := 0, cells := 0, slots := 0, locals := 0 } : Room) s m #[(.int p1), (.ref a2), (.int p3), (.int p4)] below meth c s₁ [] 0 0 := Stand.of_body Bd
  have e0 : s₁.heap = h0 := by rw [← hh, Bd.state]; rfl
  have N0 := Fr.nil n0
  suffices hG : OwnG p e below s (Q2 Z p1 a2 p3 p4 n_a2 g_a2 h0 n0) ({ frames := 0, cells := 0, slots := 0, locals := 0 } : Room).cells ({ frames := 0, cells := 0, slots := 0, locals := 0 } : Room).slots s₁ (mkF m 0 #[.val (.int p1), .val (.ref a2), .val (.int p3), .val (.int p4), .unset] []) by
    obtain ⟨s2, o2, g1, g2⟩ := hG
    exact ⟨s2, o2, castTop (ef_2 m p1 a2 p3 p4) g1, g2⟩
  have sg1 : ∀ tgt, Steps p.tables e below (s₁.setTop (mkF m 3 #[.val (.int p1), .val (.ref a2), .val (.int p3), .val (.int p4), .val (.int p3)] [])) tgt → Steps p.tables e below (s₁.setTop (mkF m 0 #[.val (.int p1), .val (.ref a2), .val (.int p3), .val (.int p4), .unset] [])) tgt := by
    intro tgt kt
    refine XS.iloadN X0.here hx rfl (hb hby d2_0) rfl ?_
    show Steps p.tables e below (s₁.setTop (mkF m 1 #[.val (.int p1), .val (.ref a2), .val (.int p3), .val (.int p4), .unset] [(.int p3)])) _
    refine XS.istore X0.here hx rfl (hb hby d2_1) rfl (l' := #[.val (.int p1), .val (.ref a2), .val (.int p3), .val (.int p4), .val (.int p3)]) rfl ?_
    show Steps p.tables e below (s₁.setTop (mkF m 3 #[.val (.int p1), .val (.ref a2), .val (.int p3), .val (.int p4), .val (.int p3)] [])) _
    exact kt
  refine OwnG.st sg1 ?_
  have lp2 : ∀ (k : Nat) (T : State) (lc : List Loc) (hh : Int32) (i : Int32) (X : Stand p l e ({ frames := 0, cells := 0, slots := 0, locals := 0 } : Room) s m #[(.int p1), (.ref a2), (.int p3), (.int p4)] below meth c T lc 0 0) (eT : T.heap = h0) (N : Fr n0 lc) (hI : own_hash g_a2 hh i.toInt.toNat (p4.toInt - i.toInt).toNat = F2 p1 p3 p4 g_a2) (hi0 : 0 ≤ i.toInt) (hi1 : i.toInt ≤ 1000), (p4.toInt - i.toInt).toNat = k → OwnG p e below s (Q2 Z p1 a2 p3 p4 n_a2 g_a2 h0 n0) ({ frames := 0, cells := 0, slots := 0, locals := 0 } : Room).cells ({ frames := 0, cells := 0, slots := 0, locals := 0 } : Room).slots T (mkF m 3 #[.val (.int hh), .val (.ref a2), .val (.int p3), .val (.int p4), .val (.int i)] []) := by
    intro k
    induction k using Nat.strongRecOn with
    | _ k ih =>
      intro T lc hh i X eT N hI hi0 hi1 hk
      have sg3 : ∀ tgt, Steps p.tables e below (T.setTop (mkF m 8 #[.val (.int hh), .val (.ref a2), .val (.int p3), .val (.int p4), .val (.int i)] [(.int p4), (.int (i + (4 : Int32)))])) tgt → Steps p.tables e below (T.setTop (mkF m 3 #[.val (.int hh), .val (.ref a2), .val (.int p3), .val (.int p4), .val (.int i)] [])) tgt := by
        intro tgt kt
        refine XS.iload X.here hx rfl (hb hby d2_3) rfl ?_
        show Steps p.tables e below (T.setTop (mkF m 5 #[.val (.int hh), .val (.ref a2), .val (.int p3), .val (.int p4), .val (.int i)] [(.int i)])) _
        refine XS.iconst X.here hx rfl (hb hby d2_5) ?_
        show Steps p.tables e below (T.setTop (mkF m 6 #[.val (.int hh), .val (.ref a2), .val (.int p3), .val (.int p4), .val (.int i)] [(.int (4 : Int32)), (.int i)])) _
        refine XS.iadd X.here hx rfl (hb hby d2_6) rfl ?_
        show Steps p.tables e below (T.setTop (mkF m 7 #[.val (.int hh), .val (.ref a2), .val (.int p3), .val (.int p4), .val (.int i)] [(.int (i + (4 : Int32)))])) _
        refine XS.iloadN X.here hx rfl (hb hby d2_7) rfl ?_
        show Steps p.tables e below (T.setTop (mkF m 8 #[.val (.int hh), .val (.ref a2), .val (.int p3), .val (.int p4), .val (.int i)] [(.int p4), (.int (i + (4 : Int32)))])) _
        exact kt
      refine OwnG.st sg3 ?_
      by_cases hc8_4 : p4 < (i + (4 : Int32))
      · have sg5 : ∀ tgt, Steps p.tables e below (T.setTop (mkF m 59 #[.val (.int hh), .val (.ref a2), .val (.int p3), .val (.int p4), .val (.int i)] [])) tgt → Steps p.tables e below (T.setTop (mkF m 8 #[.val (.int hh), .val (.ref a2), .val (.int p3), .val (.int p4), .val (.int i)] [(.int p4), (.int (i + (4 : Int32)))])) tgt := by
          intro tgt kt
          refine XS.icmpYes X.here hx rfl (pc0 := 8) (pc' := 59) rfl (hb hby d2_8) rfl (tlt hc8_4).2.2.1 (by decide) (by decide) ?_
          show Steps p.tables e below (T.setTop (mkF m 59 #[.val (.int hh), .val (.ref a2), .val (.int p3), .val (.int p4), .val (.int i)] [])) _
          exact kt
        refine OwnG.st sg5 ?_
        have lp6 : ∀ (k : Nat) (T : State) (lc : List Loc) (hh : Int32) (i : Int32) (X : Stand p l e ({ frames := 0, cells := 0, slots := 0, locals := 0 } : Room) s m #[(.int p1), (.ref a2), (.int p3), (.int p4)] below meth c T lc 0 0) (eT : T.heap = h0) (N : Fr n0 lc) (hI : own_hash g_a2 hh i.toInt.toNat (p4.toInt - i.toInt).toNat = F2 p1 p3 p4 g_a2) (hi0 : 0 ≤ i.toInt) (hi1 : i.toInt ≤ 1000), (p4.toInt - i.toInt).toNat = k → OwnG p e below s (Q2 Z p1 a2 p3 p4 n_a2 g_a2 h0 n0) ({ frames := 0, cells := 0, slots := 0, locals := 0 } : Room).cells ({ frames := 0, cells := 0, slots := 0, locals := 0 } : Room).slots T (mkF m 59 #[.val (.int hh), .val (.ref a2), .val (.int p3), .val (.int p4), .val (.int i)] []) := by
          intro k
          induction k using Nat.strongRecOn with
          | _ k ih =>
            intro T lc hh i X eT N hI hi0 hi1 hk
            have sg7 : ∀ tgt, Steps p.tables e below (T.setTop (mkF m 62 #[.val (.int hh), .val (.ref a2), .val (.int p3), .val (.int p4), .val (.int i)] [(.int p4), (.int i)])) tgt → Steps p.tables e below (T.setTop (mkF m 59 #[.val (.int hh), .val (.ref a2), .val (.int p3), .val (.int p4), .val (.int i)] [])) tgt := by
              intro tgt kt
              refine XS.iload X.here hx rfl (hb hby d2_59) rfl ?_
              show Steps p.tables e below (T.setTop (mkF m 61 #[.val (.int hh), .val (.ref a2), .val (.int p3), .val (.int p4), .val (.int i)] [(.int i)])) _
              refine XS.iloadN X.here hx rfl (hb hby d2_61) rfl ?_
              show Steps p.tables e below (T.setTop (mkF m 62 #[.val (.int hh), .val (.ref a2), .val (.int p3), .val (.int p4), .val (.int i)] [(.int p4), (.int i)])) _
              exact kt
            refine OwnG.st sg7 ?_
            by_cases hc62_8 : i < p4
            · have sg9 : ∀ tgt, Steps p.tables e below (T.setTop (mkF m 59 #[.val (.int (((31 : Int32) * hh) + (g_a2 i.toInt.toNat))), .val (.ref a2), .val (.int p3), .val (.int p4), .val (.int (i + (1 : Int32)))] [])) tgt → Steps p.tables e below (T.setTop (mkF m 62 #[.val (.int hh), .val (.ref a2), .val (.int p3), .val (.int p4), .val (.int i)] [(.int p4), (.int i)])) tgt := by
                intro tgt kt
                refine XS.icmpNo X.here hx rfl (hb hby d2_62) rfl (tlt hc62_8).2.1 ?_
                show Steps p.tables e below (T.setTop (mkF m 65 #[.val (.int hh), .val (.ref a2), .val (.int p3), .val (.int p4), .val (.int i)] [])) _
                refine XS.bipush X.here hx rfl (hb hby d2_65) ?_
                show Steps p.tables e below (T.setTop (mkF m 67 #[.val (.int hh), .val (.ref a2), .val (.int p3), .val (.int p4), .val (.int i)] [(.int (31 : Int32))])) _
                refine XS.iloadN X.here hx rfl (hb hby d2_67) rfl ?_
                show Steps p.tables e below (T.setTop (mkF m 68 #[.val (.int hh), .val (.ref a2), .val (.int p3), .val (.int p4), .val (.int i)] [(.int hh), (.int (31 : Int32))])) _
                refine XS.imul X.here hx rfl (hb hby d2_68) rfl ?_
                show Steps p.tables e below (T.setTop (mkF m 69 #[.val (.int hh), .val (.ref a2), .val (.int p3), .val (.int p4), .val (.int i)] [(.int ((31 : Int32) * hh))])) _
                refine XS.aloadN X.here hx rfl (hb hby d2_69) rfl rfl ?_
                show Steps p.tables e below (T.setTop (mkF m 70 #[.val (.int hh), .val (.ref a2), .val (.int p3), .val (.int p4), .val (.int i)] [(.ref a2), (.int ((31 : Int32) * hh))])) _
                refine XS.iload X.here hx rfl (hb hby d2_70) rfl ?_
                show Steps p.tables e below (T.setTop (mkF m 72 #[.val (.int hh), .val (.ref a2), .val (.int p3), .val (.int p4), .val (.int i)] [(.int i), (.ref a2), (.int ((31 : Int32) * hh))])) _
                refine own_ldB A_a2 X hx hZ eT (by omega) (by have q := Int32.lt_iff_toInt_lt.mp hc62_8; omega) (gf := (mkF m 72 #[.val (.int hh), .val (.ref a2), .val (.int p3), .val (.int p4), .val (.int i)] [(.int i), (.ref a2), (.int ((31 : Int32) * hh))])) rfl rfl (hb hby d2_72) _ ?_
                show Steps p.tables e below (T.setTop (mkF m 73 #[.val (.int hh), .val (.ref a2), .val (.int p3), .val (.int p4), .val (.int i)] [(.int (g_a2 i.toInt.toNat)), (.int ((31 : Int32) * hh))])) _
                refine XS.iadd X.here hx rfl (hb hby d2_73) rfl ?_
                show Steps p.tables e below (T.setTop (mkF m 74 #[.val (.int hh), .val (.ref a2), .val (.int p3), .val (.int p4), .val (.int i)] [(.int (((31 : Int32) * hh) + (g_a2 i.toInt.toNat)))])) _
                refine XS.istoreN X.here hx rfl (hb hby d2_74) rfl (l' := #[.val (.int (((31 : Int32) * hh) + (g_a2 i.toInt.toNat))), .val (.ref a2), .val (.int p3), .val (.int p4), .val (.int i)]) rfl ?_
                show Steps p.tables e below (T.setTop (mkF m 75 #[.val (.int (((31 : Int32) * hh) + (g_a2 i.toInt.toNat))), .val (.ref a2), .val (.int p3), .val (.int p4), .val (.int i)] [])) _
                refine XS.iinc X.here hx rfl (hb hby d2_75) rfl (l' := #[.val (.int (((31 : Int32) * hh) + (g_a2 i.toInt.toNat))), .val (.ref a2), .val (.int p3), .val (.int p4), .val (.int (i + (1 : Int32)))]) rfl ?_
                show Steps p.tables e below (T.setTop (mkF m 78 #[.val (.int (((31 : Int32) * hh) + (g_a2 i.toInt.toNat))), .val (.ref a2), .val (.int p3), .val (.int p4), .val (.int (i + (1 : Int32)))] [])) _
                refine XS.goto X.here hx rfl (pc0 := 78) (pc' := 59) rfl (hb hby d2_78) (by decide) (by decide) ?_
                show Steps p.tables e below (T.setTop (mkF m 59 #[.val (.int (((31 : Int32) * hh) + (g_a2 i.toInt.toNat))), .val (.ref a2), .val (.int p3), .val (.int p4), .val (.int (i + (1 : Int32)))] [])) _
                exact kt
              refine OwnG.st sg9 ?_
              have hlt := Int32.lt_iff_toInt_lt.mp hc62_8
              have ja1 := own_ip i 1 1 rfl hi0 (by omega)
              refine ih _ (by rw [← hk, ja1.1]; omega) T lc _ _ X eT N ?_ (by rw [ja1.1]; omega) (by rw [ja1.1]; omega) rfl
              rw [ja1.2, ja1.1, ← own_hs, show (p4.toInt - (i.toInt + (1 : Nat))).toNat + 1 = (p4.toInt - i.toInt).toNat by omega]; exact hI
            · have sg10 : ∀ tgt, Steps p.tables e below (T.setTop (mkF m 82 #[.val (.int hh), .val (.ref a2), .val (.int p3), .val (.int p4), .val (.int i)] [(.int hh)])) tgt → Steps p.tables e below (T.setTop (mkF m 62 #[.val (.int hh), .val (.ref a2), .val (.int p3), .val (.int p4), .val (.int i)] [(.int p4), (.int i)])) tgt := by
                intro tgt kt
                refine XS.icmpYes X.here hx rfl (pc0 := 62) (pc' := 81) rfl (hb hby d2_62) rfl (flt hc62_8).2.1 (by decide) (by decide) ?_
                show Steps p.tables e below (T.setTop (mkF m 81 #[.val (.int hh), .val (.ref a2), .val (.int p3), .val (.int p4), .val (.int i)] [])) _
                refine XS.iloadN X.here hx rfl (hb hby d2_81) rfl ?_
                show Steps p.tables e below (T.setTop (mkF m 82 #[.val (.int hh), .val (.ref a2), .val (.int p3), .val (.int p4), .val (.int i)] [(.int hh)])) _
                exact kt
              refine OwnG.st sg10 ?_
              have hv : hh = F2 p1 p3 p4 g_a2 := by have q := hc62_8; rw [Int32.lt_iff_toInt_lt] at q; rw [show (p4.toInt - i.toInt).toNat = 0 by omega, own_h0] at hI; exact hI
              exact OwnG.retI X hx Bd.returns (BodyLoose.notSynchronized Bd) (hb hby d2_82) ⟨congrArg (fun w => some (Value.int w)) hv, N, eT⟩ (by decide) (by decide)
        exact lp6 _ T _  _ _ X eT N hI hi0 hi1  rfl
      · have sg11 : ∀ tgt, Steps p.tables e below (T.setTop (mkF m 11 #[.val (.int hh), .val (.ref a2), .val (.int p3), .val (.int p4), .val (.int i)] [])) tgt → Steps p.tables e below (T.setTop (mkF m 8 #[.val (.int hh), .val (.ref a2), .val (.int p3), .val (.int p4), .val (.int i)] [(.int p4), (.int (i + (4 : Int32)))])) tgt := by
          intro tgt kt
          refine XS.icmpNo X.here hx rfl (hb hby d2_8) rfl (flt hc8_4).2.2.1 ?_
          show Steps p.tables e below (T.setTop (mkF m 11 #[.val (.int hh), .val (.ref a2), .val (.int p3), .val (.int p4), .val (.int i)] [])) _
          exact kt
        refine OwnG.st sg11 ?_
        have ja4 := own_ip i 4 4 rfl hi0 (by omega)
        have hle := hc8_4
        rw [Int32.lt_iff_toInt_lt, ja4.1] at hle
        have ja1 := own_ip i 1 1 rfl hi0 (by omega)
        have ja2 := own_ip i 2 2 rfl hi0 (by omega)
        have ja3 := own_ip i 3 3 rfl hi0 (by omega)
        have hn : own_hash g_a2 ((((((923521 : Int32) * hh) + ((29791 : Int32) * (g_a2 i.toInt.toNat))) + ((961 : Int32) * (g_a2 (i + (1 : Int32)).toInt.toNat))) + ((31 : Int32) * (g_a2 (i + (2 : Int32)).toInt.toNat))) + (g_a2 (i + (3 : Int32)).toInt.toNat)) (i + (4 : Int32)).toInt.toNat (p4.toInt - (i + (4 : Int32)).toInt).toNat = F2 p1 p3 p4 g_a2 := by
          rw [ja1.2, ja2.2, ja3.2, ja4.2, ja4.1, ← own_four, show (p4.toInt - (i.toInt + (4 : Nat))).toNat + 4 = (p4.toInt - i.toInt).toNat by omega]; exact hI
        have sg12 : ∀ tgt, Steps p.tables e below (T.setTop (mkF m 3 #[.val (.int ((((((923521 : Int32) * hh) + ((29791 : Int32) * (g_a2 i.toInt.toNat))) + ((961 : Int32) * (g_a2 (i + (1 : Int32)).toInt.toNat))) + ((31 : Int32) * (g_a2 (i + (2 : Int32)).toInt.toNat))) + (g_a2 (i + (3 : Int32)).toInt.toNat))), .val (.ref a2), .val (.int p3), .val (.int p4), .val (.int (i + (4 : Int32)))] [])) tgt → Steps p.tables e below (T.setTop (mkF m 11 #[.val (.int hh), .val (.ref a2), .val (.int p3), .val (.int p4), .val (.int i)] [])) tgt := by
          intro tgt kt
          refine X.ldcInt hx hown (mvT hZ (hw _ (List.mem_of_getElem? (i := 9) rfl))) (g := (mkF m 11 #[.val (.int hh), .val (.ref a2), .val (.int p3), .val (.int p4), .val (.int i)] [])) rfl (hb hby d2_11) _ ?_
          show Steps p.tables e below (T.setTop (mkF m 13 #[.val (.int hh), .val (.ref a2), .val (.int p3), .val (.int p4), .val (.int i)] [(.int (923521 : Int32))])) _
          refine XS.iloadN X.here hx rfl (hb hby d2_13) rfl ?_
          show Steps p.tables e below (T.setTop (mkF m 14 #[.val (.int hh), .val (.ref a2), .val (.int p3), .val (.int p4), .val (.int i)] [(.int hh), (.int (923521 : Int32))])) _
          refine XS.imul X.here hx rfl (hb hby d2_14) rfl ?_
          show Steps p.tables e below (T.setTop (mkF m 15 #[.val (.int hh), .val (.ref a2), .val (.int p3), .val (.int p4), .val (.int i)] [(.int ((923521 : Int32) * hh))])) _
          refine XS.sipush X.here hx rfl (hb hby d2_15) ?_
          show Steps p.tables e below (T.setTop (mkF m 18 #[.val (.int hh), .val (.ref a2), .val (.int p3), .val (.int p4), .val (.int i)] [(.int (29791 : Int32)), (.int ((923521 : Int32) * hh))])) _
          refine XS.aloadN X.here hx rfl (hb hby d2_18) rfl rfl ?_
          show Steps p.tables e below (T.setTop (mkF m 19 #[.val (.int hh), .val (.ref a2), .val (.int p3), .val (.int p4), .val (.int i)] [(.ref a2), (.int (29791 : Int32)), (.int ((923521 : Int32) * hh))])) _
          refine XS.iload X.here hx rfl (hb hby d2_19) rfl ?_
          show Steps p.tables e below (T.setTop (mkF m 21 #[.val (.int hh), .val (.ref a2), .val (.int p3), .val (.int p4), .val (.int i)] [(.int i), (.ref a2), (.int (29791 : Int32)), (.int ((923521 : Int32) * hh))])) _
          refine own_ldB A_a2 X hx hZ eT (by omega) (by omega) (gf := (mkF m 21 #[.val (.int hh), .val (.ref a2), .val (.int p3), .val (.int p4), .val (.int i)] [(.int i), (.ref a2), (.int (29791 : Int32)), (.int ((923521 : Int32) * hh))])) rfl rfl (hb hby d2_21) _ ?_
          show Steps p.tables e below (T.setTop (mkF m 22 #[.val (.int hh), .val (.ref a2), .val (.int p3), .val (.int p4), .val (.int i)] [(.int (g_a2 i.toInt.toNat)), (.int (29791 : Int32)), (.int ((923521 : Int32) * hh))])) _
          refine XS.imul X.here hx rfl (hb hby d2_22) rfl ?_
          show Steps p.tables e below (T.setTop (mkF m 23 #[.val (.int hh), .val (.ref a2), .val (.int p3), .val (.int p4), .val (.int i)] [(.int ((29791 : Int32) * (g_a2 i.toInt.toNat))), (.int ((923521 : Int32) * hh))])) _
          refine XS.iadd X.here hx rfl (hb hby d2_23) rfl ?_
          show Steps p.tables e below (T.setTop (mkF m 24 #[.val (.int hh), .val (.ref a2), .val (.int p3), .val (.int p4), .val (.int i)] [(.int (((923521 : Int32) * hh) + ((29791 : Int32) * (g_a2 i.toInt.toNat))))])) _
          refine XS.sipush X.here hx rfl (hb hby d2_24) ?_
          show Steps p.tables e below (T.setTop (mkF m 27 #[.val (.int hh), .val (.ref a2), .val (.int p3), .val (.int p4), .val (.int i)] [(.int (961 : Int32)), (.int (((923521 : Int32) * hh) + ((29791 : Int32) * (g_a2 i.toInt.toNat))))])) _
          refine XS.aloadN X.here hx rfl (hb hby d2_27) rfl rfl ?_
          show Steps p.tables e below (T.setTop (mkF m 28 #[.val (.int hh), .val (.ref a2), .val (.int p3), .val (.int p4), .val (.int i)] [(.ref a2), (.int (961 : Int32)), (.int (((923521 : Int32) * hh) + ((29791 : Int32) * (g_a2 i.toInt.toNat))))])) _
          refine XS.iload X.here hx rfl (hb hby d2_28) rfl ?_
          show Steps p.tables e below (T.setTop (mkF m 30 #[.val (.int hh), .val (.ref a2), .val (.int p3), .val (.int p4), .val (.int i)] [(.int i), (.ref a2), (.int (961 : Int32)), (.int (((923521 : Int32) * hh) + ((29791 : Int32) * (g_a2 i.toInt.toNat))))])) _
          refine XS.iconst X.here hx rfl (hb hby d2_30) ?_
          show Steps p.tables e below (T.setTop (mkF m 31 #[.val (.int hh), .val (.ref a2), .val (.int p3), .val (.int p4), .val (.int i)] [(.int (1 : Int32)), (.int i), (.ref a2), (.int (961 : Int32)), (.int (((923521 : Int32) * hh) + ((29791 : Int32) * (g_a2 i.toInt.toNat))))])) _
          refine XS.iadd X.here hx rfl (hb hby d2_31) rfl ?_
          show Steps p.tables e below (T.setTop (mkF m 32 #[.val (.int hh), .val (.ref a2), .val (.int p3), .val (.int p4), .val (.int i)] [(.int (i + (1 : Int32))), (.ref a2), (.int (961 : Int32)), (.int (((923521 : Int32) * hh) + ((29791 : Int32) * (g_a2 i.toInt.toNat))))])) _
          refine own_ldB A_a2 X hx hZ eT (by rw [ja1.1]; omega) (by rw [ja1.1]; omega) (gf := (mkF m 32 #[.val (.int hh), .val (.ref a2), .val (.int p3), .val (.int p4), .val (.int i)] [(.int (i + (1 : Int32))), (.ref a2), (.int (961 : Int32)), (.int (((923521 : Int32) * hh) + ((29791 : Int32) * (g_a2 i.toInt.toNat))))])) rfl rfl (hb hby d2_32) _ ?_
          show Steps p.tables e below (T.setTop (mkF m 33 #[.val (.int hh), .val (.ref a2), .val (.int p3), .val (.int p4), .val (.int i)] [(.int (g_a2 (i + (1 : Int32)).toInt.toNat)), (.int (961 : Int32)), (.int (((923521 : Int32) * hh) + ((29791 : Int32) * (g_a2 i.toInt.toNat))))])) _
          refine XS.imul X.here hx rfl (hb hby d2_33) rfl ?_
          show Steps p.tables e below (T.setTop (mkF m 34 #[.val (.int hh), .val (.ref a2), .val (.int p3), .val (.int p4), .val (.int i)] [(.int ((961 : Int32) * (g_a2 (i + (1 : Int32)).toInt.toNat))), (.int (((923521 : Int32) * hh) + ((29791 : Int32) * (g_a2 i.toInt.toNat))))])) _
          refine XS.iadd X.here hx rfl (hb hby d2_34) rfl ?_
          show Steps p.tables e below (T.setTop (mkF m 35 #[.val (.int hh), .val (.ref a2), .val (.int p3), .val (.int p4), .val (.int i)] [(.int ((((923521 : Int32) * hh) + ((29791 : Int32) * (g_a2 i.toInt.toNat))) + ((961 : Int32) * (g_a2 (i + (1 : Int32)).toInt.toNat))))])) _
          refine XS.bipush X.here hx rfl (hb hby d2_35) ?_
          show Steps p.tables e below (T.setTop (mkF m 37 #[.val (.int hh), .val (.ref a2), .val (.int p3), .val (.int p4), .val (.int i)] [(.int (31 : Int32)), (.int ((((923521 : Int32) * hh) + ((29791 : Int32) * (g_a2 i.toInt.toNat))) + ((961 : Int32) * (g_a2 (i + (1 : Int32)).toInt.toNat))))])) _
          refine XS.aloadN X.here hx rfl (hb hby d2_37) rfl rfl ?_
          show Steps p.tables e below (T.setTop (mkF m 38 #[.val (.int hh), .val (.ref a2), .val (.int p3), .val (.int p4), .val (.int i)] [(.ref a2), (.int (31 : Int32)), (.int ((((923521 : Int32) * hh) + ((29791 : Int32) * (g_a2 i.toInt.toNat))) + ((961 : Int32) * (g_a2 (i + (1 : Int32)).toInt.toNat))))])) _
          refine XS.iload X.here hx rfl (hb hby d2_38) rfl ?_
          show Steps p.tables e below (T.setTop (mkF m 40 #[.val (.int hh), .val (.ref a2), .val (.int p3), .val (.int p4), .val (.int i)] [(.int i), (.ref a2), (.int (31 : Int32)), (.int ((((923521 : Int32) * hh) + ((29791 : Int32) * (g_a2 i.toInt.toNat))) + ((961 : Int32) * (g_a2 (i + (1 : Int32)).toInt.toNat))))])) _
          refine XS.iconst X.here hx rfl (hb hby d2_40) ?_
          show Steps p.tables e below (T.setTop (mkF m 41 #[.val (.int hh), .val (.ref a2), .val (.int p3), .val (.int p4), .val (.int i)] [(.int (2 : Int32)), (.int i), (.ref a2), (.int (31 : Int32)), (.int ((((923521 : Int32) * hh) + ((29791 : Int32) * (g_a2 i.toInt.toNat))) + ((961 : Int32) * (g_a2 (i + (1 : Int32)).toInt.toNat))))])) _
          refine XS.iadd X.here hx rfl (hb hby d2_41) rfl ?_
          show Steps p.tables e below (T.setTop (mkF m 42 #[.val (.int hh), .val (.ref a2), .val (.int p3), .val (.int p4), .val (.int i)] [(.int (i + (2 : Int32))), (.ref a2), (.int (31 : Int32)), (.int ((((923521 : Int32) * hh) + ((29791 : Int32) * (g_a2 i.toInt.toNat))) + ((961 : Int32) * (g_a2 (i + (1 : Int32)).toInt.toNat))))])) _
          refine own_ldB A_a2 X hx hZ eT (by rw [ja2.1]; omega) (by rw [ja2.1]; omega) (gf := (mkF m 42 #[.val (.int hh), .val (.ref a2), .val (.int p3), .val (.int p4), .val (.int i)] [(.int (i + (2 : Int32))), (.ref a2), (.int (31 : Int32)), (.int ((((923521 : Int32) * hh) + ((29791 : Int32) * (g_a2 i.toInt.toNat))) + ((961 : Int32) * (g_a2 (i + (1 : Int32)).toInt.toNat))))])) rfl rfl (hb hby d2_42) _ ?_
          show Steps p.tables e below (T.setTop (mkF m 43 #[.val (.int hh), .val (.ref a2), .val (.int p3), .val (.int p4), .val (.int i)] [(.int (g_a2 (i + (2 : Int32)).toInt.toNat)), (.int (31 : Int32)), (.int ((((923521 : Int32) * hh) + ((29791 : Int32) * (g_a2 i.toInt.toNat))) + ((961 : Int32) * (g_a2 (i + (1 : Int32)).toInt.toNat))))])) _
          refine XS.imul X.here hx rfl (hb hby d2_43) rfl ?_
          show Steps p.tables e below (T.setTop (mkF m 44 #[.val (.int hh), .val (.ref a2), .val (.int p3), .val (.int p4), .val (.int i)] [(.int ((31 : Int32) * (g_a2 (i + (2 : Int32)).toInt.toNat))), (.int ((((923521 : Int32) * hh) + ((29791 : Int32) * (g_a2 i.toInt.toNat))) + ((961 : Int32) * (g_a2 (i + (1 : Int32)).toInt.toNat))))])) _
          refine XS.iadd X.here hx rfl (hb hby d2_44) rfl ?_
          show Steps p.tables e below (T.setTop (mkF m 45 #[.val (.int hh), .val (.ref a2), .val (.int p3), .val (.int p4), .val (.int i)] [(.int (((((923521 : Int32) * hh) + ((29791 : Int32) * (g_a2 i.toInt.toNat))) + ((961 : Int32) * (g_a2 (i + (1 : Int32)).toInt.toNat))) + ((31 : Int32) * (g_a2 (i + (2 : Int32)).toInt.toNat))))])) _
          refine XS.aloadN X.here hx rfl (hb hby d2_45) rfl rfl ?_
          show Steps p.tables e below (T.setTop (mkF m 46 #[.val (.int hh), .val (.ref a2), .val (.int p3), .val (.int p4), .val (.int i)] [(.ref a2), (.int (((((923521 : Int32) * hh) + ((29791 : Int32) * (g_a2 i.toInt.toNat))) + ((961 : Int32) * (g_a2 (i + (1 : Int32)).toInt.toNat))) + ((31 : Int32) * (g_a2 (i + (2 : Int32)).toInt.toNat))))])) _
          refine XS.iload X.here hx rfl (hb hby d2_46) rfl ?_
          show Steps p.tables e below (T.setTop (mkF m 48 #[.val (.int hh), .val (.ref a2), .val (.int p3), .val (.int p4), .val (.int i)] [(.int i), (.ref a2), (.int (((((923521 : Int32) * hh) + ((29791 : Int32) * (g_a2 i.toInt.toNat))) + ((961 : Int32) * (g_a2 (i + (1 : Int32)).toInt.toNat))) + ((31 : Int32) * (g_a2 (i + (2 : Int32)).toInt.toNat))))])) _
          refine XS.iconst X.here hx rfl (hb hby d2_48) ?_
          show Steps p.tables e below (T.setTop (mkF m 49 #[.val (.int hh), .val (.ref a2), .val (.int p3), .val (.int p4), .val (.int i)] [(.int (3 : Int32)), (.int i), (.ref a2), (.int (((((923521 : Int32) * hh) + ((29791 : Int32) * (g_a2 i.toInt.toNat))) + ((961 : Int32) * (g_a2 (i + (1 : Int32)).toInt.toNat))) + ((31 : Int32) * (g_a2 (i + (2 : Int32)).toInt.toNat))))])) _
          refine XS.iadd X.here hx rfl (hb hby d2_49) rfl ?_
          show Steps p.tables e below (T.setTop (mkF m 50 #[.val (.int hh), .val (.ref a2), .val (.int p3), .val (.int p4), .val (.int i)] [(.int (i + (3 : Int32))), (.ref a2), (.int (((((923521 : Int32) * hh) + ((29791 : Int32) * (g_a2 i.toInt.toNat))) + ((961 : Int32) * (g_a2 (i + (1 : Int32)).toInt.toNat))) + ((31 : Int32) * (g_a2 (i + (2 : Int32)).toInt.toNat))))])) _
          refine own_ldB A_a2 X hx hZ eT (by rw [ja3.1]; omega) (by rw [ja3.1]; omega) (gf := (mkF m 50 #[.val (.int hh), .val (.ref a2), .val (.int p3), .val (.int p4), .val (.int i)] [(.int (i + (3 : Int32))), (.ref a2), (.int (((((923521 : Int32) * hh) + ((29791 : Int32) * (g_a2 i.toInt.toNat))) + ((961 : Int32) * (g_a2 (i + (1 : Int32)).toInt.toNat))) + ((31 : Int32) * (g_a2 (i + (2 : Int32)).toInt.toNat))))])) rfl rfl (hb hby d2_50) _ ?_
          show Steps p.tables e below (T.setTop (mkF m 51 #[.val (.int hh), .val (.ref a2), .val (.int p3), .val (.int p4), .val (.int i)] [(.int (g_a2 (i + (3 : Int32)).toInt.toNat)), (.int (((((923521 : Int32) * hh) + ((29791 : Int32) * (g_a2 i.toInt.toNat))) + ((961 : Int32) * (g_a2 (i + (1 : Int32)).toInt.toNat))) + ((31 : Int32) * (g_a2 (i + (2 : Int32)).toInt.toNat))))])) _
          refine XS.iadd X.here hx rfl (hb hby d2_51) rfl ?_
          show Steps p.tables e below (T.setTop (mkF m 52 #[.val (.int hh), .val (.ref a2), .val (.int p3), .val (.int p4), .val (.int i)] [(.int ((((((923521 : Int32) * hh) + ((29791 : Int32) * (g_a2 i.toInt.toNat))) + ((961 : Int32) * (g_a2 (i + (1 : Int32)).toInt.toNat))) + ((31 : Int32) * (g_a2 (i + (2 : Int32)).toInt.toNat))) + (g_a2 (i + (3 : Int32)).toInt.toNat)))])) _
          refine XS.istoreN X.here hx rfl (hb hby d2_52) rfl (l' := #[.val (.int ((((((923521 : Int32) * hh) + ((29791 : Int32) * (g_a2 i.toInt.toNat))) + ((961 : Int32) * (g_a2 (i + (1 : Int32)).toInt.toNat))) + ((31 : Int32) * (g_a2 (i + (2 : Int32)).toInt.toNat))) + (g_a2 (i + (3 : Int32)).toInt.toNat))), .val (.ref a2), .val (.int p3), .val (.int p4), .val (.int i)]) rfl ?_
          show Steps p.tables e below (T.setTop (mkF m 53 #[.val (.int ((((((923521 : Int32) * hh) + ((29791 : Int32) * (g_a2 i.toInt.toNat))) + ((961 : Int32) * (g_a2 (i + (1 : Int32)).toInt.toNat))) + ((31 : Int32) * (g_a2 (i + (2 : Int32)).toInt.toNat))) + (g_a2 (i + (3 : Int32)).toInt.toNat))), .val (.ref a2), .val (.int p3), .val (.int p4), .val (.int i)] [])) _
          refine XS.iinc X.here hx rfl (hb hby d2_53) rfl (l' := #[.val (.int ((((((923521 : Int32) * hh) + ((29791 : Int32) * (g_a2 i.toInt.toNat))) + ((961 : Int32) * (g_a2 (i + (1 : Int32)).toInt.toNat))) + ((31 : Int32) * (g_a2 (i + (2 : Int32)).toInt.toNat))) + (g_a2 (i + (3 : Int32)).toInt.toNat))), .val (.ref a2), .val (.int p3), .val (.int p4), .val (.int (i + (4 : Int32)))]) rfl ?_
          show Steps p.tables e below (T.setTop (mkF m 56 #[.val (.int ((((((923521 : Int32) * hh) + ((29791 : Int32) * (g_a2 i.toInt.toNat))) + ((961 : Int32) * (g_a2 (i + (1 : Int32)).toInt.toNat))) + ((31 : Int32) * (g_a2 (i + (2 : Int32)).toInt.toNat))) + (g_a2 (i + (3 : Int32)).toInt.toNat))), .val (.ref a2), .val (.int p3), .val (.int p4), .val (.int (i + (4 : Int32)))] [])) _
          refine XS.goto X.here hx rfl (pc0 := 56) (pc' := 3) rfl (hb hby d2_56) (by decide) (by decide) ?_
          show Steps p.tables e below (T.setTop (mkF m 3 #[.val (.int ((((((923521 : Int32) * hh) + ((29791 : Int32) * (g_a2 i.toInt.toNat))) + ((961 : Int32) * (g_a2 (i + (1 : Int32)).toInt.toNat))) + ((31 : Int32) * (g_a2 (i + (2 : Int32)).toInt.toNat))) + (g_a2 (i + (3 : Int32)).toInt.toNat))), .val (.ref a2), .val (.int p3), .val (.int p4), .val (.int (i + (4 : Int32)))] [])) _
          exact kt
        refine OwnG.st sg12 ?_
        exact ih _ (by rw [← hk, ja4.1]; omega) T lc _ _ X eT N hn (by rw [ja4.1]; omega) (by rw [ja4.1]; omega) rfl
  exact lp2 _ s₁ _  _ _ X0 e0 N0 rfl hs0 hs3  rfl
theorem own_range (r : Int32) (f t : Int32) (hf : f = ((r &&& (15 : Int32)) - ((r &&& (15 : Int32)) / (13 : Int32)) * (13 : Int32))) (ht : t = (f + ((((r.toUInt32 >>> ((4 : Int32) &&& 31).toUInt32).toInt32) &&& (15 : Int32)) - ((((r.toUInt32 >>> ((4 : Int32) &&& 31).toUInt32).toInt32) &&& (15 : Int32)) / ((13 : Int32) - f)) * ((13 : Int32) - f)))) : 0 ≤ f.toInt ∧ f.toInt ≤ t.toInt ∧ t.toInt ≤ 12 := by
  have a1 := c_mask r 15 4 (by decide) (by decide)
  rw [own_irem] at hf
  have a2 := (c_irem (r &&& 15) 13 13 rfl).1 (by omega)
  rw [← hf] at a2
  have a3 := c_isub 13 f
  have e13 : (13 : Int32).toInt = 13 := rfl
  have r3 := rng32 (13 - f)
  have a4 := c_mask ((r.toUInt32 >>> ((4 : Int32) &&& 31).toUInt32).toInt32) 15 4 (by decide) (by decide)
  rw [own_irem] at ht
  obtain ⟨u, hu⟩ : ∃ u, u = (((r.toUInt32 >>> ((4 : Int32) &&& 31).toUInt32).toInt32) &&& (15 : Int32)) := ⟨_, rfl⟩
  rw [← hu] at a4 ht
  have a5 := (c_iremV u (13 - f)).1 (by omega) (by omega)
  have a6 := c_iadd f (u % (13 - f))
  rw [← ht] at a6
  have r6 := rng32 t
  omega
theorem own_step (g : Nat → Int32) (h f t k : Int32) (kk : Nat) (hk : k.toInt = kk) (hkk : kk ≤ 12) (hf : 0 ≤ f.toInt ∧ f.toInt ≤ t.toInt ∧ t.toInt ≤ 12) : F1 h (f + k) t g = if kk < (t.toInt - f.toInt).toNat then (31 : Int32) * h + g (f.toInt.toNat + kk) else h := by
  have a := own_ip f k kk hk hf.1 (by omega)
  unfold F1
  by_cases c : kk < (t.toInt - f.toInt).toNat
  · rw [if_pos c, if_pos (by rw [Int32.lt_iff_toInt_lt, a.1]; omega), a.2]
  · rw [if_neg c, if_neg (by rw [Int32.lt_iff_toInt_lt, a.1]; omega)]
def own_chain (g : Nat → Int32) (i n : Nat) : Int32 → Nat → Nat → Int32
  | h, _, 0 => h
  | h, j, k + 1 => own_chain g i n (if j < n then (31 : Int32) * h + g (i + j) else h) (j + 1) k
theorem own_ch (g : Nat → Int32) (i n : Nat) : ∀ (k : Nat) (h : Int32) (j : Nat), n ≤ j + k → own_chain g i n h j k = own_hash g h (i + j) (n - j) := by
  intro k
  induction k with
  | zero => intro h j hn; rw [show n - j = 0 by omega]; rfl
  | succ k ih =>
    intro h j hn
    show own_chain g i n (if j < n then (31 : Int32) * h + g (i + j) else h) (j + 1) k = _
    rw [ih _ _ (by omega)]
    by_cases c : j < n
    · rw [if_pos c, show n - j = (n - (j + 1)) + 1 by omega, own_hs, Nat.add_assoc]
    · rw [if_neg c, show n - j = 0 by omega, show n - (j + 1) = 0 by omega]; rfl
theorem own_law (g : Nat → Int32) (h f t : Int32) (hf : 0 ≤ f.toInt ∧ f.toInt ≤ t.toInt ∧ t.toInt ≤ 12) : F2 h f t g = F1 (F1 (F1 (F1 (F1 (F1 (F1 (F1 (F1 (F1 (F1 (F1 h f t g) (f + (1 : Int32)) t g) (f + (2 : Int32)) t g) (f + (3 : Int32)) t g) (f + (4 : Int32)) t g) (f + (5 : Int32)) t g) (f + (6 : Int32)) t g) (f + (7 : Int32)) t g) (f + (8 : Int32)) t g) (f + (9 : Int32)) t g) (f + (10 : Int32)) t g) (f + (11 : Int32)) t g := by
  have z := own_step g h f t 0 0 rfl (by omega) hf
  rw [Int32.add_zero] at z
  rw [z, own_step g _ f t 1 1 rfl (by omega) hf, own_step g _ f t 2 2 rfl (by omega) hf, own_step g _ f t 3 3 rfl (by omega) hf, own_step g _ f t 4 4 rfl (by omega) hf, own_step g _ f t 5 5 rfl (by omega) hf, own_step g _ f t 6 6 rfl (by omega) hf, own_step g _ f t 7 7 rfl (by omega) hf, own_step g _ f t 8 8 rfl (by omega) hf, own_step g _ f t 9 9 rfl (by omega) hf, own_step g _ f t 10 10 rfl (by omega) hf, own_step g _ f t 11 11 rfl (by omega) hf]
  have q := own_ch g f.toInt.toNat (t.toInt - f.toInt).toNat 12 h 0 (by omega)
  unfold F2
  rw [Nat.add_zero, Nat.sub_zero] at q
  rw [← q]
  rfl
theorem own_sd (f t k : Int32) (kk : Nat) (hk : k.toInt = kk) (hkk : kk ≤ 12) (hf : 0 ≤ f.toInt ∧ f.toInt ≤ t.toInt ∧ t.toInt ≤ 12) : 0 ≤ (f + k).toInt ∧ ((f + k) < t → (f + k).toInt < (12 : Nat)) := by
  have a := own_ip f k kk hk hf.1 (by omega)
  refine ⟨by omega, fun q => ?_⟩
  rw [Int32.lt_iff_toInt_lt] at q
  omega
theorem own_sd0 (f t : Int32) (hf : 0 ≤ f.toInt ∧ f.toInt ≤ t.toInt ∧ t.toInt ≤ 12) : 0 ≤ f.toInt ∧ (f < t → f.toInt < (12 : Nat)) := by
  refine ⟨hf.1, fun q => ?_⟩
  rw [Int32.lt_iff_toInt_lt] at q
  omega
theorem own_13 (r f : Int32) (hf : f = ((r &&& (15 : Int32)) - ((r &&& (15 : Int32)) / (13 : Int32)) * (13 : Int32))) : ¬ ((13 : Int32) - f) = (0 : Int32) := by
  have a1 := c_mask r 15 4 (by decide) (by decide)
  rw [own_irem] at hf
  have a2 := (c_irem (r &&& 15) 13 13 rfl).1 (by omega)
  rw [← hf] at a2
  have a3 := c_isub 13 f
  have e13 : (13 : Int32).toInt = 13 := rfl
  rw [← Int32.toInt_inj, show (0 : Int32).toInt = 0 from rfl]
  omega
theorem pn_0 : plainName "com/example/emberwire/emberwire/IdsHashPinLaw" = true := by first | (simp [plainName, overriddenIn]; done) | decide +kernel
theorem pd_0_0 : parseMethodDescriptor "(I[BII)I" = some ⟨[.int, (.array .byte), .int, .int], some .int⟩ := by decide +kernel
theorem ef_0 (m : MethodId) (p1 : Int32) (q2 : Int64) (p3 : Int32) (p4 : Int32) : entryFrame m #[(.int p1), (.long q2), (.int p3), (.int p4)] maxLocals = mkF m 0 #[.val (.int p1), .val (.long q2), .second, .val (.int p3), .val (.int p4), .unset, .unset, .unset, .unset] [] := by first | (simp [entryFrame, mkF, argsToLocals, Value.category, maxLocals]; done) | rfl
def Q0 (Z : State) (p1 : Int32) (q2 : Int64) (p3 : Int32) (p4 : Int32) (h0 : Heap) (n0 : Nat) (v : Option Value) (h : Heap) (L : List Loc) : Prop := v = some (.int 1) ∧ Fr n0 L
set_option maxRecDepth 65536 in
set_option maxHeartbeats 40000000 in
theorem rm0 (l : Launch) (Z : State) (a0 : Array Value) (hw : ∀ d ∈ tables_1, d.before a0 Z = true) (ws : List Jvm.Cond) (p1 : Int32) (q2 : Int64) (p3 : Int32) (p4 : Int32)  (h0 : Heap) (n0 : Nat) (Z0 : n0 ≤ h0.size)  :
    MetFree l x (head1 (Jvm.Cond.code x code maxLocals ret :: ws) room_1) (fun a U => a = #[(.int p1), (.long q2), (.int p3), (.int p4)] ∧ Z.Warmed39 U.vm ∧ U.heap = h0) (fun _ _ _ _ _ => True) (fun _ U o U' => ∃ v L, o = .returned v ∧ Q0 Z p1 q2 p3 p4 h0 n0 v U'.heap L ∧ FrameEnd U o U' L room_1.cells room_1.slots) := by
  refine MetFree.of_bodySF (plainFor_of_name pn_0) hisR ?_
  intro p e s m args below meth c s₁ Bd hml0 hP hK
  obtain ⟨rfl, hZ, hh⟩ := hP
  have hx := Bd.exec
  have hby := Bd.bytes
  have hml : c.maxLocals = 9 := hml0
  have hown : s.vm.findClass "com/example/emberwire/emberwire/IdsHashPinLaw" = some m.cls := findClass_of_methodNamed Bd.named
  have hnm := (name_of_methodNamed Bd.named Bd.method).1
  have X0 : Stand p l e room_1 s m #[(.int p1), (.long q2), (.int p3), (.int p4)] below meth c s₁ [] 0 0 := Stand.of_body Bd
  have e0 : s₁.heap = h0 := by rw [← hh, Bd.state]; rfl
  have N0 := Fr.nil n0
  suffices hG : OwnG p e below s (Q0 Z p1 q2 p3 p4 h0 n0) room_1.cells room_1.slots s₁ (mkF m 0 #[.val (.int p1), .val (.long q2), .second, .val (.int p3), .val (.int p4), .unset, .unset, .unset, .unset] []) by
    obtain ⟨s2, o2, g1, g2⟩ := hG
    exact ⟨s2, o2, castTop (ef_0 m p1 q2 p3 p4) g1, g2⟩
  have sg1 : ∀ tgt, Steps p.tables e below (s₁.setTop (mkF m 2 #[.val (.int p1), .val (.long q2), .second, .val (.int p3), .val (.int p4), .unset, .unset, .unset, .unset] [(.int (12 : Int32))])) tgt → Steps p.tables e below (s₁.setTop (mkF m 0 #[.val (.int p1), .val (.long q2), .second, .val (.int p3), .val (.int p4), .unset, .unset, .unset, .unset] [])) tgt := by
    intro tgt kt
    refine XS.bipush X0.here hx rfl (hb hby at_0) ?_
    show Steps p.tables e below (s₁.setTop (mkF m 2 #[.val (.int p1), .val (.long q2), .second, .val (.int p3), .val (.int p4), .unset, .unset, .unset, .unset] [(.int (12 : Int32))])) _
    exact kt
  refine OwnG.st sg1 ?_
  obtain ⟨T2, h2, k2, X2, e2, E2, A2, st2⟩ := newP X0 hx hZ (hw _ (List.mem_of_getElem? (i := 0) rfl)) e0 (g := (mkF m 2 #[.val (.int p1), .val (.long q2), .second, .val (.int p3), .val (.int p4), .unset, .unset, .unset, .unset] [(.int (12 : Int32))])) rfl (hb hby at_2) rfl (by decide) (cap := 12) (by decide) (by decide) (by decide) (by decide)
  obtain ⟨b2, g2⟩ : ∃ z, z = h0.size := ⟨_, rfl⟩
  rw [← g2] at A2 st2
  have V2 : OwnA Z h2 b2 .byte 12 (iv' fun _ => 0) := own_newA A2 (by decide)
  have gb_b2 : n0 ≤ b2 := Nat.le_trans Z0 (Nat.le_of_eq g2.symm)
  have Z2 : n0 ≤ h2.size := Nat.le_trans Z0 E2.1
  have X2 : Stand p l e room_1 s m #[(.int p1), (.long q2), (.int p3), (.int p4)] below meth c T2 _ 1 12 := X2
  refine OwnG.st st2 ?_
  show OwnG p e below s _ _ _ T2 (mkF m 4 #[.val (.int p1), .val (.long q2), .second, .val (.int p3), .val (.int p4), .unset, .unset, .unset, .unset] [(.ref b2)])
  have sg3 : ∀ tgt, Steps p.tables e below (T2.setTop (mkF m 12 #[.val (.int p1), .val (.long q2), .second, .val (.int p3), .val (.int p4), .val (.ref b2), .unset, .unset, .unset] [(.int ((q2.toInt32).toInt8.toInt32)), (.int (0 : Int32)), (.ref b2)])) tgt → Steps p.tables e below (T2.setTop (mkF m 4 #[.val (.int p1), .val (.long q2), .second, .val (.int p3), .val (.int p4), .unset, .unset, .unset, .unset] [(.ref b2)])) tgt := by
    intro tgt kt
    refine XS.astore X2.here hx rfl (hb hby at_4) rfl rfl (l' := #[.val (.int p1), .val (.long q2), .second, .val (.int p3), .val (.int p4), .val (.ref b2), .unset, .unset, .unset]) rfl ?_
    show Steps p.tables e below (T2.setTop (mkF m 6 #[.val (.int p1), .val (.long q2), .second, .val (.int p3), .val (.int p4), .val (.ref b2), .unset, .unset, .unset] [])) _
    refine XS.aload X2.here hx rfl (hb hby at_6) rfl rfl ?_
    show Steps p.tables e below (T2.setTop (mkF m 8 #[.val (.int p1), .val (.long q2), .second, .val (.int p3), .val (.int p4), .val (.ref b2), .unset, .unset, .unset] [(.ref b2)])) _
    refine XS.iconst X2.here hx rfl (hb hby at_8) ?_
    show Steps p.tables e below (T2.setTop (mkF m 9 #[.val (.int p1), .val (.long q2), .second, .val (.int p3), .val (.int p4), .val (.ref b2), .unset, .unset, .unset] [(.int (0 : Int32)), (.ref b2)])) _
    refine XS.lloadN X2.here hx rfl (hb hby at_9) rfl ?_
    show Steps p.tables e below (T2.setTop (mkF m 10 #[.val (.int p1), .val (.long q2), .second, .val (.int p3), .val (.int p4), .val (.ref b2), .unset, .unset, .unset] [(.long q2), (.int (0 : Int32)), (.ref b2)])) _
    refine XS.l2i X2.here hx rfl (hb hby at_10) rfl ?_
    show Steps p.tables e below (T2.setTop (mkF m 11 #[.val (.int p1), .val (.long q2), .second, .val (.int p3), .val (.int p4), .val (.ref b2), .unset, .unset, .unset] [(.int (q2.toInt32)), (.int (0 : Int32)), (.ref b2)])) _
    refine XS.i2b X2.here hx rfl (hb hby at_11) rfl ?_
    show Steps p.tables e below (T2.setTop (mkF m 12 #[.val (.int p1), .val (.long q2), .second, .val (.int p3), .val (.int p4), .val (.ref b2), .unset, .unset, .unset] [(.int ((q2.toInt32).toInt8.toInt32)), (.int (0 : Int32)), (.ref b2)])) _
    exact kt
  refine OwnG.st sg3 ?_
  obtain ⟨T4, h4, X4, e4, W4, V4, st4⟩ := own_stB V2 X2 hx hZ e2 (by decide) (by decide) (gf := (mkF m 12 #[.val (.int p1), .val (.long q2), .second, .val (.int p3), .val (.int p4), .val (.ref b2), .unset, .unset, .unset] [(.int ((q2.toInt32).toInt8.toInt32)), (.int (0 : Int32)), (.ref b2)])) rfl rfl (hb hby at_12)
  have V4' : OwnA Z h4 b2 .byte 12 (iv' (updv (fun _ => 0) 0 ((q2.toInt32).toInt8.toInt32))) := by have q := V4; rw [Int8.toInt8_toInt32] at q; exact q
  obtain ⟨gs4, hgs4⟩ : ∃ g : Nat → Int32, g = (updv (fun _ => 0) 0 ((q2.toInt32).toInt8.toInt32)) := ⟨_, rfl⟩
  have Vg4 : OwnA Z h4 b2 .byte 12 (iv' gs4) := by rw [hgs4]; exact V4'
  have N4 := Fr.snoc X4 N0 gb_b2
  have Z4 : n0 ≤ h4.size := by rw [W4.size]; exact Z2
  refine OwnG.st st4 ?_
  show OwnG p e below s _ _ _ T4 (mkF m 13 #[.val (.int p1), .val (.long q2), .second, .val (.int p3), .val (.int p4), .val (.ref b2), .unset, .unset, .unset] [])
  have sg5 : ∀ tgt, Steps p.tables e below (T4.setTop (mkF m 22 #[.val (.int p1), .val (.long q2), .second, .val (.int p3), .val (.int p4), .val (.ref b2), .unset, .unset, .unset] [(.int ((((q2.toUInt64 >>> ((8 : Int32) &&& 0x3f).toInt64.toUInt64).toInt64).toInt32).toInt8.toInt32)), (.int (1 : Int32)), (.ref b2)])) tgt → Steps p.tables e below (T4.setTop (mkF m 13 #[.val (.int p1), .val (.long q2), .second, .val (.int p3), .val (.int p4), .val (.ref b2), .unset, .unset, .unset] [])) tgt := by
    intro tgt kt
    refine XS.aload X4.here hx rfl (hb hby at_13) rfl rfl ?_
    show Steps p.tables e below (T4.setTop (mkF m 15 #[.val (.int p1), .val (.long q2), .second, .val (.int p3), .val (.int p4), .val (.ref b2), .unset, .unset, .unset] [(.ref b2)])) _
    refine XS.iconst X4.here hx rfl (hb hby at_15) ?_
    show Steps p.tables e below (T4.setTop (mkF m 16 #[.val (.int p1), .val (.long q2), .second, .val (.int p3), .val (.int p4), .val (.ref b2), .unset, .unset, .unset] [(.int (1 : Int32)), (.ref b2)])) _
    refine XS.lloadN X4.here hx rfl (hb hby at_16) rfl ?_
    show Steps p.tables e below (T4.setTop (mkF m 17 #[.val (.int p1), .val (.long q2), .second, .val (.int p3), .val (.int p4), .val (.ref b2), .unset, .unset, .unset] [(.long q2), (.int (1 : Int32)), (.ref b2)])) _
    refine XS.bipush X4.here hx rfl (hb hby at_17) ?_
    show Steps p.tables e below (T4.setTop (mkF m 19 #[.val (.int p1), .val (.long q2), .second, .val (.int p3), .val (.int p4), .val (.ref b2), .unset, .unset, .unset] [(.int (8 : Int32)), (.long q2), (.int (1 : Int32)), (.ref b2)])) _
    refine XS.lushr X4.here hx rfl (hb hby at_19) rfl ?_
    show Steps p.tables e below (T4.setTop (mkF m 20 #[.val (.int p1), .val (.long q2), .second, .val (.int p3), .val (.int p4), .val (.ref b2), .unset, .unset, .unset] [(.long ((q2.toUInt64 >>> ((8 : Int32) &&& 0x3f).toInt64.toUInt64).toInt64)), (.int (1 : Int32)), (.ref b2)])) _
    refine XS.l2i X4.here hx rfl (hb hby at_20) rfl ?_
    show Steps p.tables e below (T4.setTop (mkF m 21 #[.val (.int p1), .val (.long q2), .second, .val (.int p3), .val (.int p4), .val (.ref b2), .unset, .unset, .unset] [(.int (((q2.toUInt64 >>> ((8 : Int32) &&& 0x3f).toInt64.toUInt64).toInt64).toInt32)), (.int (1 : Int32)), (.ref b2)])) _
    refine XS.i2b X4.here hx rfl (hb hby at_21) rfl ?_
    show Steps p.tables e below (T4.setTop (mkF m 22 #[.val (.int p1), .val (.long q2), .second, .val (.int p3), .val (.int p4), .val (.ref b2), .unset, .unset, .unset] [(.int ((((q2.toUInt64 >>> ((8 : Int32) &&& 0x3f).toInt64.toUInt64).toInt64).toInt32).toInt8.toInt32)), (.int (1 : Int32)), (.ref b2)])) _
    exact kt
  refine OwnG.st sg5 ?_
  obtain ⟨T6, h6, X6, e6, W6, V6, st6⟩ := own_stB Vg4 X4 hx hZ e4 (by decide) (by decide) (gf := (mkF m 22 #[.val (.int p1), .val (.long q2), .second, .val (.int p3), .val (.int p4), .val (.ref b2), .unset, .unset, .unset] [(.int ((((q2.toUInt64 >>> ((8 : Int32) &&& 0x3f).toInt64.toUInt64).toInt64).toInt32).toInt8.toInt32)), (.int (1 : Int32)), (.ref b2)])) rfl rfl (hb hby at_22)
  have V6' : OwnA Z h6 b2 .byte 12 (iv' (updv gs4 1 ((((q2.toUInt64 >>> ((8 : Int32) &&& 0x3f).toInt64.toUInt64).toInt64).toInt32).toInt8.toInt32))) := by have q := V6; rw [Int8.toInt8_toInt32] at q; exact q
  obtain ⟨gs6, hgs6⟩ : ∃ g : Nat → Int32, g = (updv gs4 1 ((((q2.toUInt64 >>> ((8 : Int32) &&& 0x3f).toInt64.toUInt64).toInt64).toInt32).toInt8.toInt32)) := ⟨_, rfl⟩
  have Vg6 : OwnA Z h6 b2 .byte 12 (iv' gs6) := by rw [hgs6]; exact V6'
  have N6 := Fr.snoc X6 N4 gb_b2
  have Z6 : n0 ≤ h6.size := by rw [W6.size]; exact Z4
  refine OwnG.st st6 ?_
  show OwnG p e below s _ _ _ T6 (mkF m 23 #[.val (.int p1), .val (.long q2), .second, .val (.int p3), .val (.int p4), .val (.ref b2), .unset, .unset, .unset] [])
  have sg7 : ∀ tgt, Steps p.tables e below (T6.setTop (mkF m 32 #[.val (.int p1), .val (.long q2), .second, .val (.int p3), .val (.int p4), .val (.ref b2), .unset, .unset, .unset] [(.int ((((q2.toUInt64 >>> ((16 : Int32) &&& 0x3f).toInt64.toUInt64).toInt64).toInt32).toInt8.toInt32)), (.int (2 : Int32)), (.ref b2)])) tgt → Steps p.tables e below (T6.setTop (mkF m 23 #[.val (.int p1), .val (.long q2), .second, .val (.int p3), .val (.int p4), .val (.ref b2), .unset, .unset, .unset] [])) tgt := by
    intro tgt kt
    refine XS.aload X6.here hx rfl (hb hby at_23) rfl rfl ?_
    show Steps p.tables e below (T6.setTop (mkF m 25 #[.val (.int p1), .val (.long q2), .second, .val (.int p3), .val (.int p4), .val (.ref b2), .unset, .unset, .unset] [(.ref b2)])) _
    refine XS.iconst X6.here hx rfl (hb hby at_25) ?_
    show Steps p.tables e below (T6.setTop (mkF m 26 #[.val (.int p1), .val (.long q2), .second, .val (.int p3), .val (.int p4), .val (.ref b2), .unset, .unset, .unset] [(.int (2 : Int32)), (.ref b2)])) _
    refine XS.lloadN X6.here hx rfl (hb hby at_26) rfl ?_
    show Steps p.tables e below (T6.setTop (mkF m 27 #[.val (.int p1), .val (.long q2), .second, .val (.int p3), .val (.int p4), .val (.ref b2), .unset, .unset, .unset] [(.long q2), (.int (2 : Int32)), (.ref b2)])) _
    refine XS.bipush X6.here hx rfl (hb hby at_27) ?_
    show Steps p.tables e below (T6.setTop (mkF m 29 #[.val (.int p1), .val (.long q2), .second, .val (.int p3), .val (.int p4), .val (.ref b2), .unset, .unset, .unset] [(.int (16 : Int32)), (.long q2), (.int (2 : Int32)), (.ref b2)])) _
    refine XS.lushr X6.here hx rfl (hb hby at_29) rfl ?_
    show Steps p.tables e below (T6.setTop (mkF m 30 #[.val (.int p1), .val (.long q2), .second, .val (.int p3), .val (.int p4), .val (.ref b2), .unset, .unset, .unset] [(.long ((q2.toUInt64 >>> ((16 : Int32) &&& 0x3f).toInt64.toUInt64).toInt64)), (.int (2 : Int32)), (.ref b2)])) _
    refine XS.l2i X6.here hx rfl (hb hby at_30) rfl ?_
    show Steps p.tables e below (T6.setTop (mkF m 31 #[.val (.int p1), .val (.long q2), .second, .val (.int p3), .val (.int p4), .val (.ref b2), .unset, .unset, .unset] [(.int (((q2.toUInt64 >>> ((16 : Int32) &&& 0x3f).toInt64.toUInt64).toInt64).toInt32)), (.int (2 : Int32)), (.ref b2)])) _
    refine XS.i2b X6.here hx rfl (hb hby at_31) rfl ?_
    show Steps p.tables e below (T6.setTop (mkF m 32 #[.val (.int p1), .val (.long q2), .second, .val (.int p3), .val (.int p4), .val (.ref b2), .unset, .unset, .unset] [(.int ((((q2.toUInt64 >>> ((16 : Int32) &&& 0x3f).toInt64.toUInt64).toInt64).toInt32).toInt8.toInt32)), (.int (2 : Int32)), (.ref b2)])) _
    exact kt
  refine OwnG.st sg7 ?_
  obtain ⟨T8, h8, X8, e8, W8, V8, st8⟩ := own_stB Vg6 X6 hx hZ e6 (by decide) (by decide) (gf := (mkF m 32 #[.val (.int p1), .val (.long q2), .second, .val (.int p3), .val (.int p4), .val (.ref b2), .unset, .unset, .unset] [(.int ((((q2.toUInt64 >>> ((16 : Int32) &&& 0x3f).toInt64.toUInt64).toInt64).toInt32).toInt8.toInt32)), (.int (2 : Int32)), (.ref b2)])) rfl rfl (hb hby at_32)
  have V8' : OwnA Z h8 b2 .byte 12 (iv' (updv gs6 2 ((((q2.toUInt64 >>> ((16 : Int32) &&& 0x3f).toInt64.toUInt64).toInt64).toInt32).toInt8.toInt32))) := by have q := V8; rw [Int8.toInt8_toInt32] at q; exact q
  obtain ⟨gs8, hgs8⟩ : ∃ g : Nat → Int32, g = (updv gs6 2 ((((q2.toUInt64 >>> ((16 : Int32) &&& 0x3f).toInt64.toUInt64).toInt64).toInt32).toInt8.toInt32)) := ⟨_, rfl⟩
  have Vg8 : OwnA Z h8 b2 .byte 12 (iv' gs8) := by rw [hgs8]; exact V8'
  have N8 := Fr.snoc X8 N6 gb_b2
  have Z8 : n0 ≤ h8.size := by rw [W8.size]; exact Z6
  refine OwnG.st st8 ?_
  show OwnG p e below s _ _ _ T8 (mkF m 33 #[.val (.int p1), .val (.long q2), .second, .val (.int p3), .val (.int p4), .val (.ref b2), .unset, .unset, .unset] [])
  have sg9 : ∀ tgt, Steps p.tables e below (T8.setTop (mkF m 42 #[.val (.int p1), .val (.long q2), .second, .val (.int p3), .val (.int p4), .val (.ref b2), .unset, .unset, .unset] [(.int ((((q2.toUInt64 >>> ((24 : Int32) &&& 0x3f).toInt64.toUInt64).toInt64).toInt32).toInt8.toInt32)), (.int (3 : Int32)), (.ref b2)])) tgt → Steps p.tables e below (T8.setTop (mkF m 33 #[.val (.int p1), .val (.long q2), .second, .val (.int p3), .val (.int p4), .val (.ref b2), .unset, .unset, .unset] [])) tgt := by
    intro tgt kt
    refine XS.aload X8.here hx rfl (hb hby at_33) rfl rfl ?_
    show Steps p.tables e below (T8.setTop (mkF m 35 #[.val (.int p1), .val (.long q2), .second, .val (.int p3), .val (.int p4), .val (.ref b2), .unset, .unset, .unset] [(.ref b2)])) _
    refine XS.iconst X8.here hx rfl (hb hby at_35) ?_
    show Steps p.tables e below (T8.setTop (mkF m 36 #[.val (.int p1), .val (.long q2), .second, .val (.int p3), .val (.int p4), .val (.ref b2), .unset, .unset, .unset] [(.int (3 : Int32)), (.ref b2)])) _
    refine XS.lloadN X8.here hx rfl (hb hby at_36) rfl ?_
    show Steps p.tables e below (T8.setTop (mkF m 37 #[.val (.int p1), .val (.long q2), .second, .val (.int p3), .val (.int p4), .val (.ref b2), .unset, .unset, .unset] [(.long q2), (.int (3 : Int32)), (.ref b2)])) _
    refine XS.bipush X8.here hx rfl (hb hby at_37) ?_
    show Steps p.tables e below (T8.setTop (mkF m 39 #[.val (.int p1), .val (.long q2), .second, .val (.int p3), .val (.int p4), .val (.ref b2), .unset, .unset, .unset] [(.int (24 : Int32)), (.long q2), (.int (3 : Int32)), (.ref b2)])) _
    refine XS.lushr X8.here hx rfl (hb hby at_39) rfl ?_
    show Steps p.tables e below (T8.setTop (mkF m 40 #[.val (.int p1), .val (.long q2), .second, .val (.int p3), .val (.int p4), .val (.ref b2), .unset, .unset, .unset] [(.long ((q2.toUInt64 >>> ((24 : Int32) &&& 0x3f).toInt64.toUInt64).toInt64)), (.int (3 : Int32)), (.ref b2)])) _
    refine XS.l2i X8.here hx rfl (hb hby at_40) rfl ?_
    show Steps p.tables e below (T8.setTop (mkF m 41 #[.val (.int p1), .val (.long q2), .second, .val (.int p3), .val (.int p4), .val (.ref b2), .unset, .unset, .unset] [(.int (((q2.toUInt64 >>> ((24 : Int32) &&& 0x3f).toInt64.toUInt64).toInt64).toInt32)), (.int (3 : Int32)), (.ref b2)])) _
    refine XS.i2b X8.here hx rfl (hb hby at_41) rfl ?_
    show Steps p.tables e below (T8.setTop (mkF m 42 #[.val (.int p1), .val (.long q2), .second, .val (.int p3), .val (.int p4), .val (.ref b2), .unset, .unset, .unset] [(.int ((((q2.toUInt64 >>> ((24 : Int32) &&& 0x3f).toInt64.toUInt64).toInt64).toInt32).toInt8.toInt32)), (.int (3 : Int32)), (.ref b2)])) _
    exact kt
  refine OwnG.st sg9 ?_
  obtain ⟨T10, h10, X10, e10, W10, V10, st10⟩ := own_stB Vg8 X8 hx hZ e8 (by decide) (by decide) (gf := (mkF m 42 #[.val (.int p1), .val (.long q2), .second, .val (.int p3), .val (.int p4), .val (.ref b2), .unset, .unset, .unset] [(.int ((((q2.toUInt64 >>> ((24 : Int32) &&& 0x3f).toInt64.toUInt64).toInt64).toInt32).toInt8.toInt32)), (.int (3 : Int32)), (.ref b2)])) rfl rfl (hb hby at_42)
  have V10' : OwnA Z h10 b2 .byte 12 (iv' (updv gs8 3 ((((q2.toUInt64 >>> ((24 : Int32) &&& 0x3f).toInt64.toUInt64).toInt64).toInt32).toInt8.toInt32))) := by have q := V10; rw [Int8.toInt8_toInt32] at q; exact q
  obtain ⟨gs10, hgs10⟩ : ∃ g : Nat → Int32, g = (updv gs8 3 ((((q2.toUInt64 >>> ((24 : Int32) &&& 0x3f).toInt64.toUInt64).toInt64).toInt32).toInt8.toInt32)) := ⟨_, rfl⟩
  have Vg10 : OwnA Z h10 b2 .byte 12 (iv' gs10) := by rw [hgs10]; exact V10'
  have N10 := Fr.snoc X10 N8 gb_b2
  have Z10 : n0 ≤ h10.size := by rw [W10.size]; exact Z8
  refine OwnG.st st10 ?_
  show OwnG p e below s _ _ _ T10 (mkF m 43 #[.val (.int p1), .val (.long q2), .second, .val (.int p3), .val (.int p4), .val (.ref b2), .unset, .unset, .unset] [])
  have sg11 : ∀ tgt, Steps p.tables e below (T10.setTop (mkF m 52 #[.val (.int p1), .val (.long q2), .second, .val (.int p3), .val (.int p4), .val (.ref b2), .unset, .unset, .unset] [(.int ((((q2.toUInt64 >>> ((32 : Int32) &&& 0x3f).toInt64.toUInt64).toInt64).toInt32).toInt8.toInt32)), (.int (4 : Int32)), (.ref b2)])) tgt → Steps p.tables e below (T10.setTop (mkF m 43 #[.val (.int p1), .val (.long q2), .second, .val (.int p3), .val (.int p4), .val (.ref b2), .unset, .unset, .unset] [])) tgt := by
    intro tgt kt
    refine XS.aload X10.here hx rfl (hb hby at_43) rfl rfl ?_
    show Steps p.tables e below (T10.setTop (mkF m 45 #[.val (.int p1), .val (.long q2), .second, .val (.int p3), .val (.int p4), .val (.ref b2), .unset, .unset, .unset] [(.ref b2)])) _
    refine XS.iconst X10.here hx rfl (hb hby at_45) ?_
    show Steps p.tables e below (T10.setTop (mkF m 46 #[.val (.int p1), .val (.long q2), .second, .val (.int p3), .val (.int p4), .val (.ref b2), .unset, .unset, .unset] [(.int (4 : Int32)), (.ref b2)])) _
    refine XS.lloadN X10.here hx rfl (hb hby at_46) rfl ?_
    show Steps p.tables e below (T10.setTop (mkF m 47 #[.val (.int p1), .val (.long q2), .second, .val (.int p3), .val (.int p4), .val (.ref b2), .unset, .unset, .unset] [(.long q2), (.int (4 : Int32)), (.ref b2)])) _
    refine XS.bipush X10.here hx rfl (hb hby at_47) ?_
    show Steps p.tables e below (T10.setTop (mkF m 49 #[.val (.int p1), .val (.long q2), .second, .val (.int p3), .val (.int p4), .val (.ref b2), .unset, .unset, .unset] [(.int (32 : Int32)), (.long q2), (.int (4 : Int32)), (.ref b2)])) _
    refine XS.lushr X10.here hx rfl (hb hby at_49) rfl ?_
    show Steps p.tables e below (T10.setTop (mkF m 50 #[.val (.int p1), .val (.long q2), .second, .val (.int p3), .val (.int p4), .val (.ref b2), .unset, .unset, .unset] [(.long ((q2.toUInt64 >>> ((32 : Int32) &&& 0x3f).toInt64.toUInt64).toInt64)), (.int (4 : Int32)), (.ref b2)])) _
    refine XS.l2i X10.here hx rfl (hb hby at_50) rfl ?_
    show Steps p.tables e below (T10.setTop (mkF m 51 #[.val (.int p1), .val (.long q2), .second, .val (.int p3), .val (.int p4), .val (.ref b2), .unset, .unset, .unset] [(.int (((q2.toUInt64 >>> ((32 : Int32) &&& 0x3f).toInt64.toUInt64).toInt64).toInt32)), (.int (4 : Int32)), (.ref b2)])) _
    refine XS.i2b X10.here hx rfl (hb hby at_51) rfl ?_
    show Steps p.tables e below (T10.setTop (mkF m 52 #[.val (.int p1), .val (.long q2), .second, .val (.int p3), .val (.int p4), .val (.ref b2), .unset, .unset, .unset] [(.int ((((q2.toUInt64 >>> ((32 : Int32) &&& 0x3f).toInt64.toUInt64).toInt64).toInt32).toInt8.toInt32)), (.int (4 : Int32)), (.ref b2)])) _
    exact kt
  refine OwnG.st sg11 ?_
  obtain ⟨T12, h12, X12, e12, W12, V12, st12⟩ := own_stB Vg10 X10 hx hZ e10 (by decide) (by decide) (gf := (mkF m 52 #[.val (.int p1), .val (.long q2), .second, .val (.int p3), .val (.int p4), .val (.ref b2), .unset, .unset, .unset] [(.int ((((q2.toUInt64 >>> ((32 : Int32) &&& 0x3f).toInt64.toUInt64).toInt64).toInt32).toInt8.toInt32)), (.int (4 : Int32)), (.ref b2)])) rfl rfl (hb hby at_52)
  have V12' : OwnA Z h12 b2 .byte 12 (iv' (updv gs10 4 ((((q2.toUInt64 >>> ((32 : Int32) &&& 0x3f).toInt64.toUInt64).toInt64).toInt32).toInt8.toInt32))) := by have q := V12; rw [Int8.toInt8_toInt32] at q; exact q
  obtain ⟨gs12, hgs12⟩ : ∃ g : Nat → Int32, g = (updv gs10 4 ((((q2.toUInt64 >>> ((32 : Int32) &&& 0x3f).toInt64.toUInt64).toInt64).toInt32).toInt8.toInt32)) := ⟨_, rfl⟩
  have Vg12 : OwnA Z h12 b2 .byte 12 (iv' gs12) := by rw [hgs12]; exact V12'
  have N12 := Fr.snoc X12 N10 gb_b2
  have Z12 : n0 ≤ h12.size := by rw [W12.size]; exact Z10
  refine OwnG.st st12 ?_
  show OwnG p e below s _ _ _ T12 (mkF m 53 #[.val (.int p1), .val (.long q2), .second, .val (.int p3), .val (.int p4), .val (.ref b2), .unset, .unset, .unset] [])
  have sg13 : ∀ tgt, Steps p.tables e below (T12.setTop (mkF m 62 #[.val (.int p1), .val (.long q2), .second, .val (.int p3), .val (.int p4), .val (.ref b2), .unset, .unset, .unset] [(.int ((((q2.toUInt64 >>> ((40 : Int32) &&& 0x3f).toInt64.toUInt64).toInt64).toInt32).toInt8.toInt32)), (.int (5 : Int32)), (.ref b2)])) tgt → Steps p.tables e below (T12.setTop (mkF m 53 #[.val (.int p1), .val (.long q2), .second, .val (.int p3), .val (.int p4), .val (.ref b2), .unset, .unset, .unset] [])) tgt := by
    intro tgt kt
    refine XS.aload X12.here hx rfl (hb hby at_53) rfl rfl ?_
    show Steps p.tables e below (T12.setTop (mkF m 55 #[.val (.int p1), .val (.long q2), .second, .val (.int p3), .val (.int p4), .val (.ref b2), .unset, .unset, .unset] [(.ref b2)])) _
    refine XS.iconst X12.here hx rfl (hb hby at_55) ?_
    show Steps p.tables e below (T12.setTop (mkF m 56 #[.val (.int p1), .val (.long q2), .second, .val (.int p3), .val (.int p4), .val (.ref b2), .unset, .unset, .unset] [(.int (5 : Int32)), (.ref b2)])) _
    refine XS.lloadN X12.here hx rfl (hb hby at_56) rfl ?_
    show Steps p.tables e below (T12.setTop (mkF m 57 #[.val (.int p1), .val (.long q2), .second, .val (.int p3), .val (.int p4), .val (.ref b2), .unset, .unset, .unset] [(.long q2), (.int (5 : Int32)), (.ref b2)])) _
    refine XS.bipush X12.here hx rfl (hb hby at_57) ?_
    show Steps p.tables e below (T12.setTop (mkF m 59 #[.val (.int p1), .val (.long q2), .second, .val (.int p3), .val (.int p4), .val (.ref b2), .unset, .unset, .unset] [(.int (40 : Int32)), (.long q2), (.int (5 : Int32)), (.ref b2)])) _
    refine XS.lushr X12.here hx rfl (hb hby at_59) rfl ?_
    show Steps p.tables e below (T12.setTop (mkF m 60 #[.val (.int p1), .val (.long q2), .second, .val (.int p3), .val (.int p4), .val (.ref b2), .unset, .unset, .unset] [(.long ((q2.toUInt64 >>> ((40 : Int32) &&& 0x3f).toInt64.toUInt64).toInt64)), (.int (5 : Int32)), (.ref b2)])) _
    refine XS.l2i X12.here hx rfl (hb hby at_60) rfl ?_
    show Steps p.tables e below (T12.setTop (mkF m 61 #[.val (.int p1), .val (.long q2), .second, .val (.int p3), .val (.int p4), .val (.ref b2), .unset, .unset, .unset] [(.int (((q2.toUInt64 >>> ((40 : Int32) &&& 0x3f).toInt64.toUInt64).toInt64).toInt32)), (.int (5 : Int32)), (.ref b2)])) _
    refine XS.i2b X12.here hx rfl (hb hby at_61) rfl ?_
    show Steps p.tables e below (T12.setTop (mkF m 62 #[.val (.int p1), .val (.long q2), .second, .val (.int p3), .val (.int p4), .val (.ref b2), .unset, .unset, .unset] [(.int ((((q2.toUInt64 >>> ((40 : Int32) &&& 0x3f).toInt64.toUInt64).toInt64).toInt32).toInt8.toInt32)), (.int (5 : Int32)), (.ref b2)])) _
    exact kt
  refine OwnG.st sg13 ?_
  obtain ⟨T14, h14, X14, e14, W14, V14, st14⟩ := own_stB Vg12 X12 hx hZ e12 (by decide) (by decide) (gf := (mkF m 62 #[.val (.int p1), .val (.long q2), .second, .val (.int p3), .val (.int p4), .val (.ref b2), .unset, .unset, .unset] [(.int ((((q2.toUInt64 >>> ((40 : Int32) &&& 0x3f).toInt64.toUInt64).toInt64).toInt32).toInt8.toInt32)), (.int (5 : Int32)), (.ref b2)])) rfl rfl (hb hby at_62)
  have V14' : OwnA Z h14 b2 .byte 12 (iv' (updv gs12 5 ((((q2.toUInt64 >>> ((40 : Int32) &&& 0x3f).toInt64.toUInt64).toInt64).toInt32).toInt8.toInt32))) := by have q := V14; rw [Int8.toInt8_toInt32] at q; exact q
  obtain ⟨gs14, hgs14⟩ : ∃ g : Nat → Int32, g = (updv gs12 5 ((((q2.toUInt64 >>> ((40 : Int32) &&& 0x3f).toInt64.toUInt64).toInt64).toInt32).toInt8.toInt32)) := ⟨_, rfl⟩
  have Vg14 : OwnA Z h14 b2 .byte 12 (iv' gs14) := by rw [hgs14]; exact V14'
  have N14 := Fr.snoc X14 N12 gb_b2
  have Z14 : n0 ≤ h14.size := by rw [W14.size]; exact Z12
  refine OwnG.st st14 ?_
  show OwnG p e below s _ _ _ T14 (mkF m 63 #[.val (.int p1), .val (.long q2), .second, .val (.int p3), .val (.int p4), .val (.ref b2), .unset, .unset, .unset] [])
  have sg15 : ∀ tgt, Steps p.tables e below (T14.setTop (mkF m 73 #[.val (.int p1), .val (.long q2), .second, .val (.int p3), .val (.int p4), .val (.ref b2), .unset, .unset, .unset] [(.int ((((q2.toUInt64 >>> ((48 : Int32) &&& 0x3f).toInt64.toUInt64).toInt64).toInt32).toInt8.toInt32)), (.int (6 : Int32)), (.ref b2)])) tgt → Steps p.tables e below (T14.setTop (mkF m 63 #[.val (.int p1), .val (.long q2), .second, .val (.int p3), .val (.int p4), .val (.ref b2), .unset, .unset, .unset] [])) tgt := by
    intro tgt kt
    refine XS.aload X14.here hx rfl (hb hby at_63) rfl rfl ?_
    show Steps p.tables e below (T14.setTop (mkF m 65 #[.val (.int p1), .val (.long q2), .second, .val (.int p3), .val (.int p4), .val (.ref b2), .unset, .unset, .unset] [(.ref b2)])) _
    refine XS.bipush X14.here hx rfl (hb hby at_65) ?_
    show Steps p.tables e below (T14.setTop (mkF m 67 #[.val (.int p1), .val (.long q2), .second, .val (.int p3), .val (.int p4), .val (.ref b2), .unset, .unset, .unset] [(.int (6 : Int32)), (.ref b2)])) _
    refine XS.lloadN X14.here hx rfl (hb hby at_67) rfl ?_
    show Steps p.tables e below (T14.setTop (mkF m 68 #[.val (.int p1), .val (.long q2), .second, .val (.int p3), .val (.int p4), .val (.ref b2), .unset, .unset, .unset] [(.long q2), (.int (6 : Int32)), (.ref b2)])) _
    refine XS.bipush X14.here hx rfl (hb hby at_68) ?_
    show Steps p.tables e below (T14.setTop (mkF m 70 #[.val (.int p1), .val (.long q2), .second, .val (.int p3), .val (.int p4), .val (.ref b2), .unset, .unset, .unset] [(.int (48 : Int32)), (.long q2), (.int (6 : Int32)), (.ref b2)])) _
    refine XS.lushr X14.here hx rfl (hb hby at_70) rfl ?_
    show Steps p.tables e below (T14.setTop (mkF m 71 #[.val (.int p1), .val (.long q2), .second, .val (.int p3), .val (.int p4), .val (.ref b2), .unset, .unset, .unset] [(.long ((q2.toUInt64 >>> ((48 : Int32) &&& 0x3f).toInt64.toUInt64).toInt64)), (.int (6 : Int32)), (.ref b2)])) _
    refine XS.l2i X14.here hx rfl (hb hby at_71) rfl ?_
    show Steps p.tables e below (T14.setTop (mkF m 72 #[.val (.int p1), .val (.long q2), .second, .val (.int p3), .val (.int p4), .val (.ref b2), .unset, .unset, .unset] [(.int (((q2.toUInt64 >>> ((48 : Int32) &&& 0x3f).toInt64.toUInt64).toInt64).toInt32)), (.int (6 : Int32)), (.ref b2)])) _
    refine XS.i2b X14.here hx rfl (hb hby at_72) rfl ?_
    show Steps p.tables e below (T14.setTop (mkF m 73 #[.val (.int p1), .val (.long q2), .second, .val (.int p3), .val (.int p4), .val (.ref b2), .unset, .unset, .unset] [(.int ((((q2.toUInt64 >>> ((48 : Int32) &&& 0x3f).toInt64.toUInt64).toInt64).toInt32).toInt8.toInt32)), (.int (6 : Int32)), (.ref b2)])) _
    exact kt
  refine OwnG.st sg15 ?_
  obtain ⟨T16, h16, X16, e16, W16, V16, st16⟩ := own_stB Vg14 X14 hx hZ e14 (by decide) (by decide) (gf := (mkF m 73 #[.val (.int p1), .val (.long q2), .second, .val (.int p3), .val (.int p4), .val (.ref b2), .unset, .unset, .unset] [(.int ((((q2.toUInt64 >>> ((48 : Int32) &&& 0x3f).toInt64.toUInt64).toInt64).toInt32).toInt8.toInt32)), (.int (6 : Int32)), (.ref b2)])) rfl rfl (hb hby at_73)
  have V16' : OwnA Z h16 b2 .byte 12 (iv' (updv gs14 6 ((((q2.toUInt64 >>> ((48 : Int32) &&& 0x3f).toInt64.toUInt64).toInt64).toInt32).toInt8.toInt32))) := by have q := V16; rw [Int8.toInt8_toInt32] at q; exact q
  obtain ⟨gs16, hgs16⟩ : ∃ g : Nat → Int32, g = (updv gs14 6 ((((q2.toUInt64 >>> ((48 : Int32) &&& 0x3f).toInt64.toUInt64).toInt64).toInt32).toInt8.toInt32)) := ⟨_, rfl⟩
  have Vg16 : OwnA Z h16 b2 .byte 12 (iv' gs16) := by rw [hgs16]; exact V16'
  have N16 := Fr.snoc X16 N14 gb_b2
  have Z16 : n0 ≤ h16.size := by rw [W16.size]; exact Z14
  refine OwnG.st st16 ?_
  show OwnG p e below s _ _ _ T16 (mkF m 74 #[.val (.int p1), .val (.long q2), .second, .val (.int p3), .val (.int p4), .val (.ref b2), .unset, .unset, .unset] [])
  have sg17 : ∀ tgt, Steps p.tables e below (T16.setTop (mkF m 84 #[.val (.int p1), .val (.long q2), .second, .val (.int p3), .val (.int p4), .val (.ref b2), .unset, .unset, .unset] [(.int ((((q2.toUInt64 >>> ((56 : Int32) &&& 0x3f).toInt64.toUInt64).toInt64).toInt32).toInt8.toInt32)), (.int (7 : Int32)), (.ref b2)])) tgt → Steps p.tables e below (T16.setTop (mkF m 74 #[.val (.int p1), .val (.long q2), .second, .val (.int p3), .val (.int p4), .val (.ref b2), .unset, .unset, .unset] [])) tgt := by
    intro tgt kt
    refine XS.aload X16.here hx rfl (hb hby at_74) rfl rfl ?_
    show Steps p.tables e below (T16.setTop (mkF m 76 #[.val (.int p1), .val (.long q2), .second, .val (.int p3), .val (.int p4), .val (.ref b2), .unset, .unset, .unset] [(.ref b2)])) _
    refine XS.bipush X16.here hx rfl (hb hby at_76) ?_
    show Steps p.tables e below (T16.setTop (mkF m 78 #[.val (.int p1), .val (.long q2), .second, .val (.int p3), .val (.int p4), .val (.ref b2), .unset, .unset, .unset] [(.int (7 : Int32)), (.ref b2)])) _
    refine XS.lloadN X16.here hx rfl (hb hby at_78) rfl ?_
    show Steps p.tables e below (T16.setTop (mkF m 79 #[.val (.int p1), .val (.long q2), .second, .val (.int p3), .val (.int p4), .val (.ref b2), .unset, .unset, .unset] [(.long q2), (.int (7 : Int32)), (.ref b2)])) _
    refine XS.bipush X16.here hx rfl (hb hby at_79) ?_
    show Steps p.tables e below (T16.setTop (mkF m 81 #[.val (.int p1), .val (.long q2), .second, .val (.int p3), .val (.int p4), .val (.ref b2), .unset, .unset, .unset] [(.int (56 : Int32)), (.long q2), (.int (7 : Int32)), (.ref b2)])) _
    refine XS.lushr X16.here hx rfl (hb hby at_81) rfl ?_
    show Steps p.tables e below (T16.setTop (mkF m 82 #[.val (.int p1), .val (.long q2), .second, .val (.int p3), .val (.int p4), .val (.ref b2), .unset, .unset, .unset] [(.long ((q2.toUInt64 >>> ((56 : Int32) &&& 0x3f).toInt64.toUInt64).toInt64)), (.int (7 : Int32)), (.ref b2)])) _
    refine XS.l2i X16.here hx rfl (hb hby at_82) rfl ?_
    show Steps p.tables e below (T16.setTop (mkF m 83 #[.val (.int p1), .val (.long q2), .second, .val (.int p3), .val (.int p4), .val (.ref b2), .unset, .unset, .unset] [(.int (((q2.toUInt64 >>> ((56 : Int32) &&& 0x3f).toInt64.toUInt64).toInt64).toInt32)), (.int (7 : Int32)), (.ref b2)])) _
    refine XS.i2b X16.here hx rfl (hb hby at_83) rfl ?_
    show Steps p.tables e below (T16.setTop (mkF m 84 #[.val (.int p1), .val (.long q2), .second, .val (.int p3), .val (.int p4), .val (.ref b2), .unset, .unset, .unset] [(.int ((((q2.toUInt64 >>> ((56 : Int32) &&& 0x3f).toInt64.toUInt64).toInt64).toInt32).toInt8.toInt32)), (.int (7 : Int32)), (.ref b2)])) _
    exact kt
  refine OwnG.st sg17 ?_
  obtain ⟨T18, h18, X18, e18, W18, V18, st18⟩ := own_stB Vg16 X16 hx hZ e16 (by decide) (by decide) (gf := (mkF m 84 #[.val (.int p1), .val (.long q2), .second, .val (.int p3), .val (.int p4), .val (.ref b2), .unset, .unset, .unset] [(.int ((((q2.toUInt64 >>> ((56 : Int32) &&& 0x3f).toInt64.toUInt64).toInt64).toInt32).toInt8.toInt32)), (.int (7 : Int32)), (.ref b2)])) rfl rfl (hb hby at_84)
  have V18' : OwnA Z h18 b2 .byte 12 (iv' (updv gs16 7 ((((q2.toUInt64 >>> ((56 : Int32) &&& 0x3f).toInt64.toUInt64).toInt64).toInt32).toInt8.toInt32))) := by have q := V18; rw [Int8.toInt8_toInt32] at q; exact q
  obtain ⟨gs18, hgs18⟩ : ∃ g : Nat → Int32, g = (updv gs16 7 ((((q2.toUInt64 >>> ((56 : Int32) &&& 0x3f).toInt64.toUInt64).toInt64).toInt32).toInt8.toInt32)) := ⟨_, rfl⟩
  have Vg18 : OwnA Z h18 b2 .byte 12 (iv' gs18) := by rw [hgs18]; exact V18'
  have N18 := Fr.snoc X18 N16 gb_b2
  have Z18 : n0 ≤ h18.size := by rw [W18.size]; exact Z16
  refine OwnG.st st18 ?_
  show OwnG p e below s _ _ _ T18 (mkF m 85 #[.val (.int p1), .val (.long q2), .second, .val (.int p3), .val (.int p4), .val (.ref b2), .unset, .unset, .unset] [])
  have sg19 : ∀ tgt, Steps p.tables e below (T18.setTop (mkF m 91 #[.val (.int p1), .val (.long q2), .second, .val (.int p3), .val (.int p4), .val (.ref b2), .unset, .unset, .unset] [(.int (p3.toInt8.toInt32)), (.int (8 : Int32)), (.ref b2)])) tgt → Steps p.tables e below (T18.setTop (mkF m 85 #[.val (.int p1), .val (.long q2), .second, .val (.int p3), .val (.int p4), .val (.ref b2), .unset, .unset, .unset] [])) tgt := by
    intro tgt kt
    refine XS.aload X18.here hx rfl (hb hby at_85) rfl rfl ?_
    show Steps p.tables e below (T18.setTop (mkF m 87 #[.val (.int p1), .val (.long q2), .second, .val (.int p3), .val (.int p4), .val (.ref b2), .unset, .unset, .unset] [(.ref b2)])) _
    refine XS.bipush X18.here hx rfl (hb hby at_87) ?_
    show Steps p.tables e below (T18.setTop (mkF m 89 #[.val (.int p1), .val (.long q2), .second, .val (.int p3), .val (.int p4), .val (.ref b2), .unset, .unset, .unset] [(.int (8 : Int32)), (.ref b2)])) _
    refine XS.iloadN X18.here hx rfl (hb hby at_89) rfl ?_
    show Steps p.tables e below (T18.setTop (mkF m 90 #[.val (.int p1), .val (.long q2), .second, .val (.int p3), .val (.int p4), .val (.ref b2), .unset, .unset, .unset] [(.int p3), (.int (8 : Int32)), (.ref b2)])) _
    refine XS.i2b X18.here hx rfl (hb hby at_90) rfl ?_
    show Steps p.tables e below (T18.setTop (mkF m 91 #[.val (.int p1), .val (.long q2), .second, .val (.int p3), .val (.int p4), .val (.ref b2), .unset, .unset, .unset] [(.int (p3.toInt8.toInt32)), (.int (8 : Int32)), (.ref b2)])) _
    exact kt
  refine OwnG.st sg19 ?_
  obtain ⟨T20, h20, X20, e20, W20, V20, st20⟩ := own_stB Vg18 X18 hx hZ e18 (by decide) (by decide) (gf := (mkF m 91 #[.val (.int p1), .val (.long q2), .second, .val (.int p3), .val (.int p4), .val (.ref b2), .unset, .unset, .unset] [(.int (p3.toInt8.toInt32)), (.int (8 : Int32)), (.ref b2)])) rfl rfl (hb hby at_91)
  have V20' : OwnA Z h20 b2 .byte 12 (iv' (updv gs18 8 (p3.toInt8.toInt32))) := by have q := V20; rw [Int8.toInt8_toInt32] at q; exact q
  obtain ⟨gs20, hgs20⟩ : ∃ g : Nat → Int32, g = (updv gs18 8 (p3.toInt8.toInt32)) := ⟨_, rfl⟩
  have Vg20 : OwnA Z h20 b2 .byte 12 (iv' gs20) := by rw [hgs20]; exact V20'
  have N20 := Fr.snoc X20 N18 gb_b2
  have Z20 : n0 ≤ h20.size := by rw [W20.size]; exact Z18
  refine OwnG.st st20 ?_
  show OwnG p e below s _ _ _ T20 (mkF m 92 #[.val (.int p1), .val (.long q2), .second, .val (.int p3), .val (.int p4), .val (.ref b2), .unset, .unset, .unset] [])
  have sg21 : ∀ tgt, Steps p.tables e below (T20.setTop (mkF m 101 #[.val (.int p1), .val (.long q2), .second, .val (.int p3), .val (.int p4), .val (.ref b2), .unset, .unset, .unset] [(.int (((p3.toUInt32 >>> ((8 : Int32) &&& 31).toUInt32).toInt32).toInt8.toInt32)), (.int (9 : Int32)), (.ref b2)])) tgt → Steps p.tables e below (T20.setTop (mkF m 92 #[.val (.int p1), .val (.long q2), .second, .val (.int p3), .val (.int p4), .val (.ref b2), .unset, .unset, .unset] [])) tgt := by
    intro tgt kt
    refine XS.aload X20.here hx rfl (hb hby at_92) rfl rfl ?_
    show Steps p.tables e below (T20.setTop (mkF m 94 #[.val (.int p1), .val (.long q2), .second, .val (.int p3), .val (.int p4), .val (.ref b2), .unset, .unset, .unset] [(.ref b2)])) _
    refine XS.bipush X20.here hx rfl (hb hby at_94) ?_
    show Steps p.tables e below (T20.setTop (mkF m 96 #[.val (.int p1), .val (.long q2), .second, .val (.int p3), .val (.int p4), .val (.ref b2), .unset, .unset, .unset] [(.int (9 : Int32)), (.ref b2)])) _
    refine XS.iloadN X20.here hx rfl (hb hby at_96) rfl ?_
    show Steps p.tables e below (T20.setTop (mkF m 97 #[.val (.int p1), .val (.long q2), .second, .val (.int p3), .val (.int p4), .val (.ref b2), .unset, .unset, .unset] [(.int p3), (.int (9 : Int32)), (.ref b2)])) _
    refine XS.bipush X20.here hx rfl (hb hby at_97) ?_
    show Steps p.tables e below (T20.setTop (mkF m 99 #[.val (.int p1), .val (.long q2), .second, .val (.int p3), .val (.int p4), .val (.ref b2), .unset, .unset, .unset] [(.int (8 : Int32)), (.int p3), (.int (9 : Int32)), (.ref b2)])) _
    refine XS.iushr X20.here hx rfl (hb hby at_99) rfl ?_
    show Steps p.tables e below (T20.setTop (mkF m 100 #[.val (.int p1), .val (.long q2), .second, .val (.int p3), .val (.int p4), .val (.ref b2), .unset, .unset, .unset] [(.int ((p3.toUInt32 >>> ((8 : Int32) &&& 31).toUInt32).toInt32)), (.int (9 : Int32)), (.ref b2)])) _
    refine XS.i2b X20.here hx rfl (hb hby at_100) rfl ?_
    show Steps p.tables e below (T20.setTop (mkF m 101 #[.val (.int p1), .val (.long q2), .second, .val (.int p3), .val (.int p4), .val (.ref b2), .unset, .unset, .unset] [(.int (((p3.toUInt32 >>> ((8 : Int32) &&& 31).toUInt32).toInt32).toInt8.toInt32)), (.int (9 : Int32)), (.ref b2)])) _
    exact kt
  refine OwnG.st sg21 ?_
  obtain ⟨T22, h22, X22, e22, W22, V22, st22⟩ := own_stB Vg20 X20 hx hZ e20 (by decide) (by decide) (gf := (mkF m 101 #[.val (.int p1), .val (.long q2), .second, .val (.int p3), .val (.int p4), .val (.ref b2), .unset, .unset, .unset] [(.int (((p3.toUInt32 >>> ((8 : Int32) &&& 31).toUInt32).toInt32).toInt8.toInt32)), (.int (9 : Int32)), (.ref b2)])) rfl rfl (hb hby at_101)
  have V22' : OwnA Z h22 b2 .byte 12 (iv' (updv gs20 9 (((p3.toUInt32 >>> ((8 : Int32) &&& 31).toUInt32).toInt32).toInt8.toInt32))) := by have q := V22; rw [Int8.toInt8_toInt32] at q; exact q
  obtain ⟨gs22, hgs22⟩ : ∃ g : Nat → Int32, g = (updv gs20 9 (((p3.toUInt32 >>> ((8 : Int32) &&& 31).toUInt32).toInt32).toInt8.toInt32)) := ⟨_, rfl⟩
  have Vg22 : OwnA Z h22 b2 .byte 12 (iv' gs22) := by rw [hgs22]; exact V22'
  have N22 := Fr.snoc X22 N20 gb_b2
  have Z22 : n0 ≤ h22.size := by rw [W22.size]; exact Z20
  refine OwnG.st st22 ?_
  show OwnG p e below s _ _ _ T22 (mkF m 102 #[.val (.int p1), .val (.long q2), .second, .val (.int p3), .val (.int p4), .val (.ref b2), .unset, .unset, .unset] [])
  have sg23 : ∀ tgt, Steps p.tables e below (T22.setTop (mkF m 111 #[.val (.int p1), .val (.long q2), .second, .val (.int p3), .val (.int p4), .val (.ref b2), .unset, .unset, .unset] [(.int (((p3.toUInt32 >>> ((16 : Int32) &&& 31).toUInt32).toInt32).toInt8.toInt32)), (.int (10 : Int32)), (.ref b2)])) tgt → Steps p.tables e below (T22.setTop (mkF m 102 #[.val (.int p1), .val (.long q2), .second, .val (.int p3), .val (.int p4), .val (.ref b2), .unset, .unset, .unset] [])) tgt := by
    intro tgt kt
    refine XS.aload X22.here hx rfl (hb hby at_102) rfl rfl ?_
    show Steps p.tables e below (T22.setTop (mkF m 104 #[.val (.int p1), .val (.long q2), .second, .val (.int p3), .val (.int p4), .val (.ref b2), .unset, .unset, .unset] [(.ref b2)])) _
    refine XS.bipush X22.here hx rfl (hb hby at_104) ?_
    show Steps p.tables e below (T22.setTop (mkF m 106 #[.val (.int p1), .val (.long q2), .second, .val (.int p3), .val (.int p4), .val (.ref b2), .unset, .unset, .unset] [(.int (10 : Int32)), (.ref b2)])) _
    refine XS.iloadN X22.here hx rfl (hb hby at_106) rfl ?_
    show Steps p.tables e below (T22.setTop (mkF m 107 #[.val (.int p1), .val (.long q2), .second, .val (.int p3), .val (.int p4), .val (.ref b2), .unset, .unset, .unset] [(.int p3), (.int (10 : Int32)), (.ref b2)])) _
    refine XS.bipush X22.here hx rfl (hb hby at_107) ?_
    show Steps p.tables e below (T22.setTop (mkF m 109 #[.val (.int p1), .val (.long q2), .second, .val (.int p3), .val (.int p4), .val (.ref b2), .unset, .unset, .unset] [(.int (16 : Int32)), (.int p3), (.int (10 : Int32)), (.ref b2)])) _
    refine XS.iushr X22.here hx rfl (hb hby at_109) rfl ?_
    show Steps p.tables e below (T22.setTop (mkF m 110 #[.val (.int p1), .val (.long q2), .second, .val (.int p3), .val (.int p4), .val (.ref b2), .unset, .unset, .unset] [(.int ((p3.toUInt32 >>> ((16 : Int32) &&& 31).toUInt32).toInt32)), (.int (10 : Int32)), (.ref b2)])) _
    refine XS.i2b X22.here hx rfl (hb hby at_110) rfl ?_
    show Steps p.tables e below (T22.setTop (mkF m 111 #[.val (.int p1), .val (.long q2), .second, .val (.int p3), .val (.int p4), .val (.ref b2), .unset, .unset, .unset] [(.int (((p3.toUInt32 >>> ((16 : Int32) &&& 31).toUInt32).toInt32).toInt8.toInt32)), (.int (10 : Int32)), (.ref b2)])) _
    exact kt
  refine OwnG.st sg23 ?_
  obtain ⟨T24, h24, X24, e24, W24, V24, st24⟩ := own_stB Vg22 X22 hx hZ e22 (by decide) (by decide) (gf := (mkF m 111 #[.val (.int p1), .val (.long q2), .second, .val (.int p3), .val (.int p4), .val (.ref b2), .unset, .unset, .unset] [(.int (((p3.toUInt32 >>> ((16 : Int32) &&& 31).toUInt32).toInt32).toInt8.toInt32)), (.int (10 : Int32)), (.ref b2)])) rfl rfl (hb hby at_111)
  have V24' : OwnA Z h24 b2 .byte 12 (iv' (updv gs22 10 (((p3.toUInt32 >>> ((16 : Int32) &&& 31).toUInt32).toInt32).toInt8.toInt32))) := by have q := V24; rw [Int8.toInt8_toInt32] at q; exact q
  obtain ⟨gs24, hgs24⟩ : ∃ g : Nat → Int32, g = (updv gs22 10 (((p3.toUInt32 >>> ((16 : Int32) &&& 31).toUInt32).toInt32).toInt8.toInt32)) := ⟨_, rfl⟩
  have Vg24 : OwnA Z h24 b2 .byte 12 (iv' gs24) := by rw [hgs24]; exact V24'
  have N24 := Fr.snoc X24 N22 gb_b2
  have Z24 : n0 ≤ h24.size := by rw [W24.size]; exact Z22
  refine OwnG.st st24 ?_
  show OwnG p e below s _ _ _ T24 (mkF m 112 #[.val (.int p1), .val (.long q2), .second, .val (.int p3), .val (.int p4), .val (.ref b2), .unset, .unset, .unset] [])
  have sg25 : ∀ tgt, Steps p.tables e below (T24.setTop (mkF m 121 #[.val (.int p1), .val (.long q2), .second, .val (.int p3), .val (.int p4), .val (.ref b2), .unset, .unset, .unset] [(.int (((p3.toUInt32 >>> ((24 : Int32) &&& 31).toUInt32).toInt32).toInt8.toInt32)), (.int (11 : Int32)), (.ref b2)])) tgt → Steps p.tables e below (T24.setTop (mkF m 112 #[.val (.int p1), .val (.long q2), .second, .val (.int p3), .val (.int p4), .val (.ref b2), .unset, .unset, .unset] [])) tgt := by
    intro tgt kt
    refine XS.aload X24.here hx rfl (hb hby at_112) rfl rfl ?_
    show Steps p.tables e below (T24.setTop (mkF m 114 #[.val (.int p1), .val (.long q2), .second, .val (.int p3), .val (.int p4), .val (.ref b2), .unset, .unset, .unset] [(.ref b2)])) _
    refine XS.bipush X24.here hx rfl (hb hby at_114) ?_
    show Steps p.tables e below (T24.setTop (mkF m 116 #[.val (.int p1), .val (.long q2), .second, .val (.int p3), .val (.int p4), .val (.ref b2), .unset, .unset, .unset] [(.int (11 : Int32)), (.ref b2)])) _
    refine XS.iloadN X24.here hx rfl (hb hby at_116) rfl ?_
    show Steps p.tables e below (T24.setTop (mkF m 117 #[.val (.int p1), .val (.long q2), .second, .val (.int p3), .val (.int p4), .val (.ref b2), .unset, .unset, .unset] [(.int p3), (.int (11 : Int32)), (.ref b2)])) _
    refine XS.bipush X24.here hx rfl (hb hby at_117) ?_
    show Steps p.tables e below (T24.setTop (mkF m 119 #[.val (.int p1), .val (.long q2), .second, .val (.int p3), .val (.int p4), .val (.ref b2), .unset, .unset, .unset] [(.int (24 : Int32)), (.int p3), (.int (11 : Int32)), (.ref b2)])) _
    refine XS.iushr X24.here hx rfl (hb hby at_119) rfl ?_
    show Steps p.tables e below (T24.setTop (mkF m 120 #[.val (.int p1), .val (.long q2), .second, .val (.int p3), .val (.int p4), .val (.ref b2), .unset, .unset, .unset] [(.int ((p3.toUInt32 >>> ((24 : Int32) &&& 31).toUInt32).toInt32)), (.int (11 : Int32)), (.ref b2)])) _
    refine XS.i2b X24.here hx rfl (hb hby at_120) rfl ?_
    show Steps p.tables e below (T24.setTop (mkF m 121 #[.val (.int p1), .val (.long q2), .second, .val (.int p3), .val (.int p4), .val (.ref b2), .unset, .unset, .unset] [(.int (((p3.toUInt32 >>> ((24 : Int32) &&& 31).toUInt32).toInt32).toInt8.toInt32)), (.int (11 : Int32)), (.ref b2)])) _
    exact kt
  refine OwnG.st sg25 ?_
  obtain ⟨T26, h26, X26, e26, W26, V26, st26⟩ := own_stB Vg24 X24 hx hZ e24 (by decide) (by decide) (gf := (mkF m 121 #[.val (.int p1), .val (.long q2), .second, .val (.int p3), .val (.int p4), .val (.ref b2), .unset, .unset, .unset] [(.int (((p3.toUInt32 >>> ((24 : Int32) &&& 31).toUInt32).toInt32).toInt8.toInt32)), (.int (11 : Int32)), (.ref b2)])) rfl rfl (hb hby at_121)
  have V26' : OwnA Z h26 b2 .byte 12 (iv' (updv gs24 11 (((p3.toUInt32 >>> ((24 : Int32) &&& 31).toUInt32).toInt32).toInt8.toInt32))) := by have q := V26; rw [Int8.toInt8_toInt32] at q; exact q
  obtain ⟨gs26, hgs26⟩ : ∃ g : Nat → Int32, g = (updv gs24 11 (((p3.toUInt32 >>> ((24 : Int32) &&& 31).toUInt32).toInt32).toInt8.toInt32)) := ⟨_, rfl⟩
  have Vg26 : OwnA Z h26 b2 .byte 12 (iv' gs26) := by rw [hgs26]; exact V26'
  have N26 := Fr.snoc X26 N24 gb_b2
  have Z26 : n0 ≤ h26.size := by rw [W26.size]; exact Z24
  refine OwnG.st st26 ?_
  show OwnG p e below s _ _ _ T26 (mkF m 122 #[.val (.int p1), .val (.long q2), .second, .val (.int p3), .val (.int p4), .val (.ref b2), .unset, .unset, .unset] [])
  have sg27 : ∀ tgt, Steps p.tables e below (T26.setTop (mkF m 132 #[.val (.int p1), .val (.long q2), .second, .val (.int p3), .val (.int p4), .val (.ref b2), .val (.int ((p4 &&& (15 : Int32)) - ((p4 &&& (15 : Int32)) / (13 : Int32)) * (13 : Int32))), .unset, .unset] [])) tgt → Steps p.tables e below (T26.setTop (mkF m 122 #[.val (.int p1), .val (.long q2), .second, .val (.int p3), .val (.int p4), .val (.ref b2), .unset, .unset, .unset] [])) tgt := by
    intro tgt kt
    refine XS.iload X26.here hx rfl (hb hby at_122) rfl ?_
    show Steps p.tables e below (T26.setTop (mkF m 124 #[.val (.int p1), .val (.long q2), .second, .val (.int p3), .val (.int p4), .val (.ref b2), .unset, .unset, .unset] [(.int p4)])) _
    refine XS.bipush X26.here hx rfl (hb hby at_124) ?_
    show Steps p.tables e below (T26.setTop (mkF m 126 #[.val (.int p1), .val (.long q2), .second, .val (.int p3), .val (.int p4), .val (.ref b2), .unset, .unset, .unset] [(.int (15 : Int32)), (.int p4)])) _
    refine XS.iand X26.here hx rfl (hb hby at_126) rfl ?_
    show Steps p.tables e below (T26.setTop (mkF m 127 #[.val (.int p1), .val (.long q2), .second, .val (.int p3), .val (.int p4), .val (.ref b2), .unset, .unset, .unset] [(.int (p4 &&& (15 : Int32)))])) _
    refine XS.bipush X26.here hx rfl (hb hby at_127) ?_
    show Steps p.tables e below (T26.setTop (mkF m 129 #[.val (.int p1), .val (.long q2), .second, .val (.int p3), .val (.int p4), .val (.ref b2), .unset, .unset, .unset] [(.int (13 : Int32)), (.int (p4 &&& (15 : Int32)))])) _
    refine XS.irem X26.here hx rfl (hb hby at_129) rfl (by decide) ?_
    show Steps p.tables e below (T26.setTop (mkF m 130 #[.val (.int p1), .val (.long q2), .second, .val (.int p3), .val (.int p4), .val (.ref b2), .unset, .unset, .unset] [(.int ((p4 &&& (15 : Int32)) - ((p4 &&& (15 : Int32)) / (13 : Int32)) * (13 : Int32)))])) _
    refine XS.istore X26.here hx rfl (hb hby at_130) rfl (l' := #[.val (.int p1), .val (.long q2), .second, .val (.int p3), .val (.int p4), .val (.ref b2), .val (.int ((p4 &&& (15 : Int32)) - ((p4 &&& (15 : Int32)) / (13 : Int32)) * (13 : Int32))), .unset, .unset]) rfl ?_
    show Steps p.tables e below (T26.setTop (mkF m 132 #[.val (.int p1), .val (.long q2), .second, .val (.int p3), .val (.int p4), .val (.ref b2), .val (.int ((p4 &&& (15 : Int32)) - ((p4 &&& (15 : Int32)) / (13 : Int32)) * (13 : Int32))), .unset, .unset] [])) _
    exact kt
  refine OwnG.st sg27 ?_
  obtain ⟨z6_28, hz6_28⟩ : ∃ w : Int32, w = ((p4 &&& (15 : Int32)) - ((p4 &&& (15 : Int32)) / (13 : Int32)) * (13 : Int32)) := ⟨_, rfl⟩
  rw [← hz6_28]
  show OwnG p e below s _ _ _ T26 (mkF m 132 #[.val (.int p1), .val (.long q2), .second, .val (.int p3), .val (.int p4), .val (.ref b2), .val (.int z6_28), .unset, .unset] [])
  have sg29 : ∀ tgt, Steps p.tables e below (T26.setTop (mkF m 150 #[.val (.int p1), .val (.long q2), .second, .val (.int p3), .val (.int p4), .val (.ref b2), .val (.int z6_28), .val (.int (z6_28 + ((((p4.toUInt32 >>> ((4 : Int32) &&& 31).toUInt32).toInt32) &&& (15 : Int32)) - ((((p4.toUInt32 >>> ((4 : Int32) &&& 31).toUInt32).toInt32) &&& (15 : Int32)) / ((13 : Int32) - z6_28)) * ((13 : Int32) - z6_28)))), .unset] [])) tgt → Steps p.tables e below (T26.setTop (mkF m 132 #[.val (.int p1), .val (.long q2), .second, .val (.int p3), .val (.int p4), .val (.ref b2), .val (.int z6_28), .unset, .unset] [])) tgt := by
    intro tgt kt
    refine XS.iload X26.here hx rfl (hb hby at_132) rfl ?_
    show Steps p.tables e below (T26.setTop (mkF m 134 #[.val (.int p1), .val (.long q2), .second, .val (.int p3), .val (.int p4), .val (.ref b2), .val (.int z6_28), .unset, .unset] [(.int z6_28)])) _
    refine XS.iload X26.here hx rfl (hb hby at_134) rfl ?_
    show Steps p.tables e below (T26.setTop (mkF m 136 #[.val (.int p1), .val (.long q2), .second, .val (.int p3), .val (.int p4), .val (.ref b2), .val (.int z6_28), .unset, .unset] [(.int p4), (.int z6_28)])) _
    refine XS.iconst X26.here hx rfl (hb hby at_136) ?_
    show Steps p.tables e below (T26.setTop (mkF m 137 #[.val (.int p1), .val (.long q2), .second, .val (.int p3), .val (.int p4), .val (.ref b2), .val (.int z6_28), .unset, .unset] [(.int (4 : Int32)), (.int p4), (.int z6_28)])) _
    refine XS.iushr X26.here hx rfl (hb hby at_137) rfl ?_
    show Steps p.tables e below (T26.setTop (mkF m 138 #[.val (.int p1), .val (.long q2), .second, .val (.int p3), .val (.int p4), .val (.ref b2), .val (.int z6_28), .unset, .unset] [(.int ((p4.toUInt32 >>> ((4 : Int32) &&& 31).toUInt32).toInt32)), (.int z6_28)])) _
    refine XS.bipush X26.here hx rfl (hb hby at_138) ?_
    show Steps p.tables e below (T26.setTop (mkF m 140 #[.val (.int p1), .val (.long q2), .second, .val (.int p3), .val (.int p4), .val (.ref b2), .val (.int z6_28), .unset, .unset] [(.int (15 : Int32)), (.int ((p4.toUInt32 >>> ((4 : Int32) &&& 31).toUInt32).toInt32)), (.int z6_28)])) _
    refine XS.iand X26.here hx rfl (hb hby at_140) rfl ?_
    show Steps p.tables e below (T26.setTop (mkF m 141 #[.val (.int p1), .val (.long q2), .second, .val (.int p3), .val (.int p4), .val (.ref b2), .val (.int z6_28), .unset, .unset] [(.int (((p4.toUInt32 >>> ((4 : Int32) &&& 31).toUInt32).toInt32) &&& (15 : Int32))), (.int z6_28)])) _
    refine XS.bipush X26.here hx rfl (hb hby at_141) ?_
    show Steps p.tables e below (T26.setTop (mkF m 143 #[.val (.int p1), .val (.long q2), .second, .val (.int p3), .val (.int p4), .val (.ref b2), .val (.int z6_28), .unset, .unset] [(.int (13 : Int32)), (.int (((p4.toUInt32 >>> ((4 : Int32) &&& 31).toUInt32).toInt32) &&& (15 : Int32))), (.int z6_28)])) _
    refine XS.iload X26.here hx rfl (hb hby at_143) rfl ?_
    show Steps p.tables e below (T26.setTop (mkF m 145 #[.val (.int p1), .val (.long q2), .second, .val (.int p3), .val (.int p4), .val (.ref b2), .val (.int z6_28), .unset, .unset] [(.int z6_28), (.int (13 : Int32)), (.int (((p4.toUInt32 >>> ((4 : Int32) &&& 31).toUInt32).toInt32) &&& (15 : Int32))), (.int z6_28)])) _
    refine XS.isub X26.here hx rfl (hb hby at_145) rfl ?_
    show Steps p.tables e below (T26.setTop (mkF m 146 #[.val (.int p1), .val (.long q2), .second, .val (.int p3), .val (.int p4), .val (.ref b2), .val (.int z6_28), .unset, .unset] [(.int ((13 : Int32) - z6_28)), (.int (((p4.toUInt32 >>> ((4 : Int32) &&& 31).toUInt32).toInt32) &&& (15 : Int32))), (.int z6_28)])) _
    refine XS.irem X26.here hx rfl (hb hby at_146) rfl (own_13 _ _ hz6_28) ?_
    show Steps p.tables e below (T26.setTop (mkF m 147 #[.val (.int p1), .val (.long q2), .second, .val (.int p3), .val (.int p4), .val (.ref b2), .val (.int z6_28), .unset, .unset] [(.int ((((p4.toUInt32 >>> ((4 : Int32) &&& 31).toUInt32).toInt32) &&& (15 : Int32)) - ((((p4.toUInt32 >>> ((4 : Int32) &&& 31).toUInt32).toInt32) &&& (15 : Int32)) / ((13 : Int32) - z6_28)) * ((13 : Int32) - z6_28))), (.int z6_28)])) _
    refine XS.iadd X26.here hx rfl (hb hby at_147) rfl ?_
    show Steps p.tables e below (T26.setTop (mkF m 148 #[.val (.int p1), .val (.long q2), .second, .val (.int p3), .val (.int p4), .val (.ref b2), .val (.int z6_28), .unset, .unset] [(.int (z6_28 + ((((p4.toUInt32 >>> ((4 : Int32) &&& 31).toUInt32).toInt32) &&& (15 : Int32)) - ((((p4.toUInt32 >>> ((4 : Int32) &&& 31).toUInt32).toInt32) &&& (15 : Int32)) / ((13 : Int32) - z6_28)) * ((13 : Int32) - z6_28))))])) _
    refine XS.istore X26.here hx rfl (hb hby at_148) rfl (l' := #[.val (.int p1), .val (.long q2), .second, .val (.int p3), .val (.int p4), .val (.ref b2), .val (.int z6_28), .val (.int (z6_28 + ((((p4.toUInt32 >>> ((4 : Int32) &&& 31).toUInt32).toInt32) &&& (15 : Int32)) - ((((p4.toUInt32 >>> ((4 : Int32) &&& 31).toUInt32).toInt32) &&& (15 : Int32)) / ((13 : Int32) - z6_28)) * ((13 : Int32) - z6_28)))), .unset]) rfl ?_
    show Steps p.tables e below (T26.setTop (mkF m 150 #[.val (.int p1), .val (.long q2), .second, .val (.int p3), .val (.int p4), .val (.ref b2), .val (.int z6_28), .val (.int (z6_28 + ((((p4.toUInt32 >>> ((4 : Int32) &&& 31).toUInt32).toInt32) &&& (15 : Int32)) - ((((p4.toUInt32 >>> ((4 : Int32) &&& 31).toUInt32).toInt32) &&& (15 : Int32)) / ((13 : Int32) - z6_28)) * ((13 : Int32) - z6_28)))), .unset] [])) _
    exact kt
  refine OwnG.st sg29 ?_
  obtain ⟨z7_30, hz7_30⟩ : ∃ w : Int32, w = (z6_28 + ((((p4.toUInt32 >>> ((4 : Int32) &&& 31).toUInt32).toInt32) &&& (15 : Int32)) - ((((p4.toUInt32 >>> ((4 : Int32) &&& 31).toUInt32).toInt32) &&& (15 : Int32)) / ((13 : Int32) - z6_28)) * ((13 : Int32) - z6_28))) := ⟨_, rfl⟩
  rw [← hz7_30]
  show OwnG p e below s _ _ _ T26 (mkF m 150 #[.val (.int p1), .val (.long q2), .second, .val (.int p3), .val (.int p4), .val (.ref b2), .val (.int z6_28), .val (.int z7_30), .unset] [])
  have sg31 : ∀ tgt, Steps p.tables e below (T26.setTop (mkF m 153 #[.val (.int p1), .val (.long q2), .second, .val (.int p3), .val (.int p4), .val (.ref b2), .val (.int z6_28), .val (.int z7_30), .val (.int p1)] [])) tgt → Steps p.tables e below (T26.setTop (mkF m 150 #[.val (.int p1), .val (.long q2), .second, .val (.int p3), .val (.int p4), .val (.ref b2), .val (.int z6_28), .val (.int z7_30), .unset] [])) tgt := by
    intro tgt kt
    refine XS.iloadN X26.here hx rfl (hb hby at_150) rfl ?_
    show Steps p.tables e below (T26.setTop (mkF m 151 #[.val (.int p1), .val (.long q2), .second, .val (.int p3), .val (.int p4), .val (.ref b2), .val (.int z6_28), .val (.int z7_30), .unset] [(.int p1)])) _
    refine XS.istore X26.here hx rfl (hb hby at_151) rfl (l' := #[.val (.int p1), .val (.long q2), .second, .val (.int p3), .val (.int p4), .val (.ref b2), .val (.int z6_28), .val (.int z7_30), .val (.int p1)]) rfl ?_
    show Steps p.tables e below (T26.setTop (mkF m 153 #[.val (.int p1), .val (.long q2), .second, .val (.int p3), .val (.int p4), .val (.ref b2), .val (.int z6_28), .val (.int z7_30), .val (.int p1)] [])) _
    exact kt
  refine OwnG.st sg31 ?_
  obtain ⟨gB, hgB⟩ : ∃ g : Nat → Int32, g = gs26 := ⟨_, rfl⟩
  rw [hgs26, hgs24, hgs22, hgs20, hgs18, hgs16, hgs14, hgs12, hgs10, hgs8, hgs6, hgs4] at hgB
  have VgB : OwnA Z h26 b2 .byte 12 (iv' gB) := by rw [hgB]; exact (by have q := Vg26; rw [hgs26, hgs24, hgs22, hgs20, hgs18, hgs16, hgs14, hgs12, hgs10, hgs8, hgs6, hgs4] at q; exact q)
  have hrange := own_range _ _ _ hz6_28 hz7_30
  have sg32 : ∀ tgt, Steps p.tables e below (T26.setTop (mkF m 161 #[.val (.int p1), .val (.long q2), .second, .val (.int p3), .val (.int p4), .val (.ref b2), .val (.int z6_28), .val (.int z7_30), .val (.int p1)] [(.int z7_30), (.int z6_28), (.ref b2), (.int p1)])) tgt → Steps p.tables e below (T26.setTop (mkF m 153 #[.val (.int p1), .val (.long q2), .second, .val (.int p3), .val (.int p4), .val (.ref b2), .val (.int z6_28), .val (.int z7_30), .val (.int p1)] [])) tgt := by
    intro tgt kt
    refine XS.iload X26.here hx rfl (hb hby at_153) rfl ?_
    show Steps p.tables e below (T26.setTop (mkF m 155 #[.val (.int p1), .val (.long q2), .second, .val (.int p3), .val (.int p4), .val (.ref b2), .val (.int z6_28), .val (.int z7_30), .val (.int p1)] [(.int p1)])) _
    refine XS.aload X26.here hx rfl (hb hby at_155) rfl rfl ?_
    show Steps p.tables e below (T26.setTop (mkF m 157 #[.val (.int p1), .val (.long q2), .second, .val (.int p3), .val (.int p4), .val (.ref b2), .val (.int z6_28), .val (.int z7_30), .val (.int p1)] [(.ref b2), (.int p1)])) _
    refine XS.iload X26.here hx rfl (hb hby at_157) rfl ?_
    show Steps p.tables e below (T26.setTop (mkF m 159 #[.val (.int p1), .val (.long q2), .second, .val (.int p3), .val (.int p4), .val (.ref b2), .val (.int z6_28), .val (.int z7_30), .val (.int p1)] [(.int z6_28), (.ref b2), (.int p1)])) _
    refine XS.iload X26.here hx rfl (hb hby at_159) rfl ?_
    show Steps p.tables e below (T26.setTop (mkF m 161 #[.val (.int p1), .val (.long q2), .second, .val (.int p3), .val (.int p4), .val (.ref b2), .val (.int z6_28), .val (.int z7_30), .val (.int p1)] [(.int z7_30), (.int z6_28), (.ref b2), (.int p1)])) _
    exact kt
  refine OwnG.st sg32 ?_
  obtain ⟨vb33, _, B33, -, Xb33, hb33, sb33⟩ := Jvm.LawKit.callS X26 hx (y := (⟨"com/example/emberwire/emberwire/IdsHashPinLaw", "step", "(I[BII)I"⟩ : MethodName)) hown (mvT hZ (hw _ (List.mem_of_getElem? (i := 1) rfl))) (mvT hZ (hw _ (List.mem_of_getElem? (i := 2) rfl))) (mvT hZ (hw _ (List.mem_of_getElem? (i := 3) rfl))) (mvT hZ (hw _ (List.mem_of_getElem? (i := 4) rfl))) (by decide) (backOf (W := 0) (rm1 l Z a0 hw [] p1 b2 z6_28 z7_30 12 gB h26 n0 Z26 VgB ((own_sd0 _ _ hrange).1) ((own_sd0 _ _ hrange).2)) hZ (hw _ (List.mem_of_getElem? (i := 4) rfl)) (hw _ (List.mem_of_getElem? (i := 3) rfl)) (by decide) (by decide)) (g := (mkF m 161 #[.val (.int p1), .val (.long q2), .second, .val (.int p3), .val (.int p4), .val (.ref b2), .val (.int z6_28), .val (.int z7_30), .val (.int p1)] [(.int z7_30), (.int z6_28), (.ref b2), (.int p1)])) rfl (by rw [hml]; rfl) (argsL := [(.int p1), (.ref b2), (.int z6_28), (.int z7_30)]) (rest := []) (lenOf pd_0_0 rfl) rfl (by show 2 * 0 + _ ≤ _; exact Nat.le_of_eq rfl) (hb hby at_161) (fun _ _ => ⟨rfl, e26, (by decide : 1 + 0 ≤ _), (by decide : 12 + 0 ≤ _)⟩)
  obtain ⟨T33, Lc33, vc33, X33, hQ33, st33⟩ := own_bk (F' := fun v => { ((mkF m 161 #[.val (.int p1), .val (.long q2), .second, .val (.int p3), .val (.int p4), .val (.ref b2), .val (.int z6_28), .val (.int z7_30), .val (.int p1)] [(.int z7_30), (.int z6_28), (.ref b2), (.int p1)]) : JFrame) with pc := 164, stack := v.toList ++ [] }) (ck := 1) (sn := 12) Xb33 hb33 sb33 rfl rfl
  obtain ⟨hv33, N33q, e33⟩ := hQ33
  have N33 := Fr.app N26 N33q
  refine OwnG.st (F' := (mkF m 164 #[.val (.int p1), .val (.long q2), .second, .val (.int p3), .val (.int p4), .val (.ref b2), .val (.int z6_28), .val (.int z7_30), .val (.int p1)] [(.int (F1 p1 z6_28 z7_30 gB))])) (fun t k => st33 t (by rw [hv33]; exact k)) ?_
  clear Xb33 hb33 sb33 st33 hv33
  have sg34 : ∀ tgt, Steps p.tables e below (T33.setTop (mkF m 166 #[.val (.int p1), .val (.long q2), .second, .val (.int p3), .val (.int p4), .val (.ref b2), .val (.int z6_28), .val (.int z7_30), .val (.int (F1 p1 z6_28 z7_30 gB))] [])) tgt → Steps p.tables e below (T33.setTop (mkF m 164 #[.val (.int p1), .val (.long q2), .second, .val (.int p3), .val (.int p4), .val (.ref b2), .val (.int z6_28), .val (.int z7_30), .val (.int p1)] [(.int (F1 p1 z6_28 z7_30 gB))])) tgt := by
    intro tgt kt
    refine XS.istore X33.here hx rfl (hb hby at_164) rfl (l' := #[.val (.int p1), .val (.long q2), .second, .val (.int p3), .val (.int p4), .val (.ref b2), .val (.int z6_28), .val (.int z7_30), .val (.int (F1 p1 z6_28 z7_30 gB))]) rfl ?_
    show Steps p.tables e below (T33.setTop (mkF m 166 #[.val (.int p1), .val (.long q2), .second, .val (.int p3), .val (.int p4), .val (.ref b2), .val (.int z6_28), .val (.int z7_30), .val (.int (F1 p1 z6_28 z7_30 gB))] [])) _
    exact kt
  refine OwnG.st sg34 ?_
  obtain ⟨z8_35, hz8_35⟩ : ∃ w : Int32, w = (F1 p1 z6_28 z7_30 gB) := ⟨_, rfl⟩
  rw [← hz8_35]
  show OwnG p e below s _ _ _ T33 (mkF m 166 #[.val (.int p1), .val (.long q2), .second, .val (.int p3), .val (.int p4), .val (.ref b2), .val (.int z6_28), .val (.int z7_30), .val (.int z8_35)] [])
  have sg36 : ∀ tgt, Steps p.tables e below (T33.setTop (mkF m 176 #[.val (.int p1), .val (.long q2), .second, .val (.int p3), .val (.int p4), .val (.ref b2), .val (.int z6_28), .val (.int z7_30), .val (.int z8_35)] [(.int z7_30), (.int (z6_28 + (1 : Int32))), (.ref b2), (.int z8_35)])) tgt → Steps p.tables e below (T33.setTop (mkF m 166 #[.val (.int p1), .val (.long q2), .second, .val (.int p3), .val (.int p4), .val (.ref b2), .val (.int z6_28), .val (.int z7_30), .val (.int z8_35)] [])) tgt := by
    intro tgt kt
    refine XS.iload X33.here hx rfl (hb hby at_166) rfl ?_
    show Steps p.tables e below (T33.setTop (mkF m 168 #[.val (.int p1), .val (.long q2), .second, .val (.int p3), .val (.int p4), .val (.ref b2), .val (.int z6_28), .val (.int z7_30), .val (.int z8_35)] [(.int z8_35)])) _
    refine XS.aload X33.here hx rfl (hb hby at_168) rfl rfl ?_
    show Steps p.tables e below (T33.setTop (mkF m 170 #[.val (.int p1), .val (.long q2), .second, .val (.int p3), .val (.int p4), .val (.ref b2), .val (.int z6_28), .val (.int z7_30), .val (.int z8_35)] [(.ref b2), (.int z8_35)])) _
    refine XS.iload X33.here hx rfl (hb hby at_170) rfl ?_
    show Steps p.tables e below (T33.setTop (mkF m 172 #[.val (.int p1), .val (.long q2), .second, .val (.int p3), .val (.int p4), .val (.ref b2), .val (.int z6_28), .val (.int z7_30), .val (.int z8_35)] [(.int z6_28), (.ref b2), (.int z8_35)])) _
    refine XS.iconst X33.here hx rfl (hb hby at_172) ?_
    show Steps p.tables e below (T33.setTop (mkF m 173 #[.val (.int p1), .val (.long q2), .second, .val (.int p3), .val (.int p4), .val (.ref b2), .val (.int z6_28), .val (.int z7_30), .val (.int z8_35)] [(.int (1 : Int32)), (.int z6_28), (.ref b2), (.int z8_35)])) _
    refine XS.iadd X33.here hx rfl (hb hby at_173) rfl ?_
    show Steps p.tables e below (T33.setTop (mkF m 174 #[.val (.int p1), .val (.long q2), .second, .val (.int p3), .val (.int p4), .val (.ref b2), .val (.int z6_28), .val (.int z7_30), .val (.int z8_35)] [(.int (z6_28 + (1 : Int32))), (.ref b2), (.int z8_35)])) _
    refine XS.iload X33.here hx rfl (hb hby at_174) rfl ?_
    show Steps p.tables e below (T33.setTop (mkF m 176 #[.val (.int p1), .val (.long q2), .second, .val (.int p3), .val (.int p4), .val (.ref b2), .val (.int z6_28), .val (.int z7_30), .val (.int z8_35)] [(.int z7_30), (.int (z6_28 + (1 : Int32))), (.ref b2), (.int z8_35)])) _
    exact kt
  refine OwnG.st sg36 ?_
  obtain ⟨vb37, _, B37, -, Xb37, hb37, sb37⟩ := Jvm.LawKit.callS X33 hx (y := (⟨"com/example/emberwire/emberwire/IdsHashPinLaw", "step", "(I[BII)I"⟩ : MethodName)) hown (mvT hZ (hw _ (List.mem_of_getElem? (i := 1) rfl))) (mvT hZ (hw _ (List.mem_of_getElem? (i := 2) rfl))) (mvT hZ (hw _ (List.mem_of_getElem? (i := 3) rfl))) (mvT hZ (hw _ (List.mem_of_getElem? (i := 4) rfl))) (by decide) (backOf (W := 0) (rm1 l Z a0 hw [] z8_35 b2 (z6_28 + (1 : Int32)) z7_30 12 gB h26 n0 Z26 VgB ((own_sd _ _ 1 1 rfl (by decide) hrange).1) ((own_sd _ _ 1 1 rfl (by decide) hrange).2)) hZ (hw _ (List.mem_of_getElem? (i := 4) rfl)) (hw _ (List.mem_of_getElem? (i := 3) rfl)) (by decide) (by decide)) (g := (mkF m 176 #[.val (.int p1), .val (.long q2), .second, .val (.int p3), .val (.int p4), .val (.ref b2), .val (.int z6_28), .val (.int z7_30), .val (.int z8_35)] [(.int z7_30), (.int (z6_28 + (1 : Int32))), (.ref b2), (.int z8_35)])) rfl (by rw [hml]; rfl) (argsL := [(.int z8_35), (.ref b2), (.int (z6_28 + (1 : Int32))), (.int z7_30)]) (rest := []) (lenOf pd_0_0 rfl) rfl (by show 2 * 0 + _ ≤ _; exact Nat.le_of_eq rfl) (hb hby at_176) (fun _ _ => ⟨rfl, e33, (by decide : 1 + 0 ≤ _), (by decide : 12 + 0 ≤ _)⟩)
  obtain ⟨T37, Lc37, vc37, X37, hQ37, st37⟩ := own_bk (F' := fun v => { ((mkF m 176 #[.val (.int p1), .val (.long q2), .second, .val (.int p3), .val (.int p4), .val (.ref b2), .val (.int z6_28), .val (.int z7_30), .val (.int z8_35)] [(.int z7_30), (.int (z6_28 + (1 : Int32))), (.ref b2), (.int z8_35)]) : JFrame) with pc := 179, stack := v.toList ++ [] }) (ck := 1) (sn := 12) Xb37 hb37 sb37 rfl rfl
  obtain ⟨hv37, N37q, e37⟩ := hQ37
  have N37 := Fr.app N33 N37q
  refine OwnG.st (F' := (mkF m 179 #[.val (.int p1), .val (.long q2), .second, .val (.int p3), .val (.int p4), .val (.ref b2), .val (.int z6_28), .val (.int z7_30), .val (.int z8_35)] [(.int (F1 z8_35 (z6_28 + (1 : Int32)) z7_30 gB))])) (fun t k => st37 t (by rw [hv37]; exact k)) ?_
  clear Xb37 hb37 sb37 st37 hv37
  have sg38 : ∀ tgt, Steps p.tables e below (T37.setTop (mkF m 181 #[.val (.int p1), .val (.long q2), .second, .val (.int p3), .val (.int p4), .val (.ref b2), .val (.int z6_28), .val (.int z7_30), .val (.int (F1 z8_35 (z6_28 + (1 : Int32)) z7_30 gB))] [])) tgt → Steps p.tables e below (T37.setTop (mkF m 179 #[.val (.int p1), .val (.long q2), .second, .val (.int p3), .val (.int p4), .val (.ref b2), .val (.int z6_28), .val (.int z7_30), .val (.int z8_35)] [(.int (F1 z8_35 (z6_28 + (1 : Int32)) z7_30 gB))])) tgt := by
    intro tgt kt
    refine XS.istore X37.here hx rfl (hb hby at_179) rfl (l' := #[.val (.int p1), .val (.long q2), .second, .val (.int p3), .val (.int p4), .val (.ref b2), .val (.int z6_28), .val (.int z7_30), .val (.int (F1 z8_35 (z6_28 + (1 : Int32)) z7_30 gB))]) rfl ?_
    show Steps p.tables e below (T37.setTop (mkF m 181 #[.val (.int p1), .val (.long q2), .second, .val (.int p3), .val (.int p4), .val (.ref b2), .val (.int z6_28), .val (.int z7_30), .val (.int (F1 z8_35 (z6_28 + (1 : Int32)) z7_30 gB))] [])) _
    exact kt
  refine OwnG.st sg38 ?_
  obtain ⟨z8_39, hz8_39⟩ : ∃ w : Int32, w = (F1 z8_35 (z6_28 + (1 : Int32)) z7_30 gB) := ⟨_, rfl⟩
  rw [← hz8_39]
  show OwnG p e below s _ _ _ T37 (mkF m 181 #[.val (.int p1), .val (.long q2), .second, .val (.int p3), .val (.int p4), .val (.ref b2), .val (.int z6_28), .val (.int z7_30), .val (.int z8_39)] [])
  have sg40 : ∀ tgt, Steps p.tables e below (T37.setTop (mkF m 191 #[.val (.int p1), .val (.long q2), .second, .val (.int p3), .val (.int p4), .val (.ref b2), .val (.int z6_28), .val (.int z7_30), .val (.int z8_39)] [(.int z7_30), (.int (z6_28 + (2 : Int32))), (.ref b2), (.int z8_39)])) tgt → Steps p.tables e below (T37.setTop (mkF m 181 #[.val (.int p1), .val (.long q2), .second, .val (.int p3), .val (.int p4), .val (.ref b2), .val (.int z6_28), .val (.int z7_30), .val (.int z8_39)] [])) tgt := by
    intro tgt kt
    refine XS.iload X37.here hx rfl (hb hby at_181) rfl ?_
    show Steps p.tables e below (T37.setTop (mkF m 183 #[.val (.int p1), .val (.long q2), .second, .val (.int p3), .val (.int p4), .val (.ref b2), .val (.int z6_28), .val (.int z7_30), .val (.int z8_39)] [(.int z8_39)])) _
    refine XS.aload X37.here hx rfl (hb hby at_183) rfl rfl ?_
    show Steps p.tables e below (T37.setTop (mkF m 185 #[.val (.int p1), .val (.long q2), .second, .val (.int p3), .val (.int p4), .val (.ref b2), .val (.int z6_28), .val (.int z7_30), .val (.int z8_39)] [(.ref b2), (.int z8_39)])) _
    refine XS.iload X37.here hx rfl (hb hby at_185) rfl ?_
    show Steps p.tables e below (T37.setTop (mkF m 187 #[.val (.int p1), .val (.long q2), .second, .val (.int p3), .val (.int p4), .val (.ref b2), .val (.int z6_28), .val (.int z7_30), .val (.int z8_39)] [(.int z6_28), (.ref b2), (.int z8_39)])) _
    refine XS.iconst X37.here hx rfl (hb hby at_187) ?_
    show Steps p.tables e below (T37.setTop (mkF m 188 #[.val (.int p1), .val (.long q2), .second, .val (.int p3), .val (.int p4), .val (.ref b2), .val (.int z6_28), .val (.int z7_30), .val (.int z8_39)] [(.int (2 : Int32)), (.int z6_28), (.ref b2), (.int z8_39)])) _
    refine XS.iadd X37.here hx rfl (hb hby at_188) rfl ?_
    show Steps p.tables e below (T37.setTop (mkF m 189 #[.val (.int p1), .val (.long q2), .second, .val (.int p3), .val (.int p4), .val (.ref b2), .val (.int z6_28), .val (.int z7_30), .val (.int z8_39)] [(.int (z6_28 + (2 : Int32))), (.ref b2), (.int z8_39)])) _
    refine XS.iload X37.here hx rfl (hb hby at_189) rfl ?_
    show Steps p.tables e below (T37.setTop (mkF m 191 #[.val (.int p1), .val (.long q2), .second, .val (.int p3), .val (.int p4), .val (.ref b2), .val (.int z6_28), .val (.int z7_30), .val (.int z8_39)] [(.int z7_30), (.int (z6_28 + (2 : Int32))), (.ref b2), (.int z8_39)])) _
    exact kt
  refine OwnG.st sg40 ?_
  obtain ⟨vb41, _, B41, -, Xb41, hb41, sb41⟩ := Jvm.LawKit.callS X37 hx (y := (⟨"com/example/emberwire/emberwire/IdsHashPinLaw", "step", "(I[BII)I"⟩ : MethodName)) hown (mvT hZ (hw _ (List.mem_of_getElem? (i := 1) rfl))) (mvT hZ (hw _ (List.mem_of_getElem? (i := 2) rfl))) (mvT hZ (hw _ (List.mem_of_getElem? (i := 3) rfl))) (mvT hZ (hw _ (List.mem_of_getElem? (i := 4) rfl))) (by decide) (backOf (W := 0) (rm1 l Z a0 hw [] z8_39 b2 (z6_28 + (2 : Int32)) z7_30 12 gB h26 n0 Z26 VgB ((own_sd _ _ 2 2 rfl (by decide) hrange).1) ((own_sd _ _ 2 2 rfl (by decide) hrange).2)) hZ (hw _ (List.mem_of_getElem? (i := 4) rfl)) (hw _ (List.mem_of_getElem? (i := 3) rfl)) (by decide) (by decide)) (g := (mkF m 191 #[.val (.int p1), .val (.long q2), .second, .val (.int p3), .val (.int p4), .val (.ref b2), .val (.int z6_28), .val (.int z7_30), .val (.int z8_39)] [(.int z7_30), (.int (z6_28 + (2 : Int32))), (.ref b2), (.int z8_39)])) rfl (by rw [hml]; rfl) (argsL := [(.int z8_39), (.ref b2), (.int (z6_28 + (2 : Int32))), (.int z7_30)]) (rest := []) (lenOf pd_0_0 rfl) rfl (by show 2 * 0 + _ ≤ _; exact Nat.le_of_eq rfl) (hb hby at_191) (fun _ _ => ⟨rfl, e37, (by decide : 1 + 0 ≤ _), (by decide : 12 + 0 ≤ _)⟩)
  obtain ⟨T41, Lc41, vc41, X41, hQ41, st41⟩ := own_bk (F' := fun v => { ((mkF m 191 #[.val (.int p1), .val (.long q2), .second, .val (.int p3), .val (.int p4), .val (.ref b2), .val (.int z6_28), .val (.int z7_30), .val (.int z8_39)] [(.int z7_30), (.int (z6_28 + (2 : Int32))), (.ref b2), (.int z8_39)]) : JFrame) with pc := 194, stack := v.toList ++ [] }) (ck := 1) (sn := 12) Xb41 hb41 sb41 rfl rfl
  obtain ⟨hv41, N41q, e41⟩ := hQ41
  have N41 := Fr.app N37 N41q
  refine OwnG.st (F' := (mkF m 194 #[.val (.int p1), .val (.long q2), .second, .val (.int p3), .val (.int p4), .val (.ref b2), .val (.int z6_28), .val (.int z7_30), .val (.int z8_39)] [(.int (F1 z8_39 (z6_28 + (2 : Int32)) z7_30 gB))])) (fun t k => st41 t (by rw [hv41]; exact k)) ?_
  clear Xb41 hb41 sb41 st41 hv41
  have sg42 : ∀ tgt, Steps p.tables e below (T41.setTop (mkF m 196 #[.val (.int p1), .val (.long q2), .second, .val (.int p3), .val (.int p4), .val (.ref b2), .val (.int z6_28), .val (.int z7_30), .val (.int (F1 z8_39 (z6_28 + (2 : Int32)) z7_30 gB))] [])) tgt → Steps p.tables e below (T41.setTop (mkF m 194 #[.val (.int p1), .val (.long q2), .second, .val (.int p3), .val (.int p4), .val (.ref b2), .val (.int z6_28), .val (.int z7_30), .val (.int z8_39)] [(.int (F1 z8_39 (z6_28 + (2 : Int32)) z7_30 gB))])) tgt := by
    intro tgt kt
    refine XS.istore X41.here hx rfl (hb hby at_194) rfl (l' := #[.val (.int p1), .val (.long q2), .second, .val (.int p3), .val (.int p4), .val (.ref b2), .val (.int z6_28), .val (.int z7_30), .val (.int (F1 z8_39 (z6_28 + (2 : Int32)) z7_30 gB))]) rfl ?_
    show Steps p.tables e below (T41.setTop (mkF m 196 #[.val (.int p1), .val (.long q2), .second, .val (.int p3), .val (.int p4), .val (.ref b2), .val (.int z6_28), .val (.int z7_30), .val (.int (F1 z8_39 (z6_28 + (2 : Int32)) z7_30 gB))] [])) _
    exact kt
  refine OwnG.st sg42 ?_
  obtain ⟨z8_43, hz8_43⟩ : ∃ w : Int32, w = (F1 z8_39 (z6_28 + (2 : Int32)) z7_30 gB) := ⟨_, rfl⟩
  rw [← hz8_43]
  show OwnG p e below s _ _ _ T41 (mkF m 196 #[.val (.int p1), .val (.long q2), .second, .val (.int p3), .val (.int p4), .val (.ref b2), .val (.int z6_28), .val (.int z7_30), .val (.int z8_43)] [])
  have sg44 : ∀ tgt, Steps p.tables e below (T41.setTop (mkF m 206 #[.val (.int p1), .val (.long q2), .second, .val (.int p3), .val (.int p4), .val (.ref b2), .val (.int z6_28), .val (.int z7_30), .val (.int z8_43)] [(.int z7_30), (.int (z6_28 + (3 : Int32))), (.ref b2), (.int z8_43)])) tgt → Steps p.tables e below (T41.setTop (mkF m 196 #[.val (.int p1), .val (.long q2), .second, .val (.int p3), .val (.int p4), .val (.ref b2), .val (.int z6_28), .val (.int z7_30), .val (.int z8_43)] [])) tgt := by
    intro tgt kt
    refine XS.iload X41.here hx rfl (hb hby at_196) rfl ?_
    show Steps p.tables e below (T41.setTop (mkF m 198 #[.val (.int p1), .val (.long q2), .second, .val (.int p3), .val (.int p4), .val (.ref b2), .val (.int z6_28), .val (.int z7_30), .val (.int z8_43)] [(.int z8_43)])) _
    refine XS.aload X41.here hx rfl (hb hby at_198) rfl rfl ?_
    show Steps p.tables e below (T41.setTop (mkF m 200 #[.val (.int p1), .val (.long q2), .second, .val (.int p3), .val (.int p4), .val (.ref b2), .val (.int z6_28), .val (.int z7_30), .val (.int z8_43)] [(.ref b2), (.int z8_43)])) _
    refine XS.iload X41.here hx rfl (hb hby at_200) rfl ?_
    show Steps p.tables e below (T41.setTop (mkF m 202 #[.val (.int p1), .val (.long q2), .second, .val (.int p3), .val (.int p4), .val (.ref b2), .val (.int z6_28), .val (.int z7_30), .val (.int z8_43)] [(.int z6_28), (.ref b2), (.int z8_43)])) _
    refine XS.iconst X41.here hx rfl (hb hby at_202) ?_
    show Steps p.tables e below (T41.setTop (mkF m 203 #[.val (.int p1), .val (.long q2), .second, .val (.int p3), .val (.int p4), .val (.ref b2), .val (.int z6_28), .val (.int z7_30), .val (.int z8_43)] [(.int (3 : Int32)), (.int z6_28), (.ref b2), (.int z8_43)])) _
    refine XS.iadd X41.here hx rfl (hb hby at_203) rfl ?_
    show Steps p.tables e below (T41.setTop (mkF m 204 #[.val (.int p1), .val (.long q2), .second, .val (.int p3), .val (.int p4), .val (.ref b2), .val (.int z6_28), .val (.int z7_30), .val (.int z8_43)] [(.int (z6_28 + (3 : Int32))), (.ref b2), (.int z8_43)])) _
    refine XS.iload X41.here hx rfl (hb hby at_204) rfl ?_
    show Steps p.tables e below (T41.setTop (mkF m 206 #[.val (.int p1), .val (.long q2), .second, .val (.int p3), .val (.int p4), .val (.ref b2), .val (.int z6_28), .val (.int z7_30), .val (.int z8_43)] [(.int z7_30), (.int (z6_28 + (3 : Int32))), (.ref b2), (.int z8_43)])) _
    exact kt
  refine OwnG.st sg44 ?_
  obtain ⟨vb45, _, B45, -, Xb45, hb45, sb45⟩ := Jvm.LawKit.callS X41 hx (y := (⟨"com/example/emberwire/emberwire/IdsHashPinLaw", "step", "(I[BII)I"⟩ : MethodName)) hown (mvT hZ (hw _ (List.mem_of_getElem? (i := 1) rfl))) (mvT hZ (hw _ (List.mem_of_getElem? (i := 2) rfl))) (mvT hZ (hw _ (List.mem_of_getElem? (i := 3) rfl))) (mvT hZ (hw _ (List.mem_of_getElem? (i := 4) rfl))) (by decide) (backOf (W := 0) (rm1 l Z a0 hw [] z8_43 b2 (z6_28 + (3 : Int32)) z7_30 12 gB h26 n0 Z26 VgB ((own_sd _ _ 3 3 rfl (by decide) hrange).1) ((own_sd _ _ 3 3 rfl (by decide) hrange).2)) hZ (hw _ (List.mem_of_getElem? (i := 4) rfl)) (hw _ (List.mem_of_getElem? (i := 3) rfl)) (by decide) (by decide)) (g := (mkF m 206 #[.val (.int p1), .val (.long q2), .second, .val (.int p3), .val (.int p4), .val (.ref b2), .val (.int z6_28), .val (.int z7_30), .val (.int z8_43)] [(.int z7_30), (.int (z6_28 + (3 : Int32))), (.ref b2), (.int z8_43)])) rfl (by rw [hml]; rfl) (argsL := [(.int z8_43), (.ref b2), (.int (z6_28 + (3 : Int32))), (.int z7_30)]) (rest := []) (lenOf pd_0_0 rfl) rfl (by show 2 * 0 + _ ≤ _; exact Nat.le_of_eq rfl) (hb hby at_206) (fun _ _ => ⟨rfl, e41, (by decide : 1 + 0 ≤ _), (by decide : 12 + 0 ≤ _)⟩)
  obtain ⟨T45, Lc45, vc45, X45, hQ45, st45⟩ := own_bk (F' := fun v => { ((mkF m 206 #[.val (.int p1), .val (.long q2), .second, .val (.int p3), .val (.int p4), .val (.ref b2), .val (.int z6_28), .val (.int z7_30), .val (.int z8_43)] [(.int z7_30), (.int (z6_28 + (3 : Int32))), (.ref b2), (.int z8_43)]) : JFrame) with pc := 209, stack := v.toList ++ [] }) (ck := 1) (sn := 12) Xb45 hb45 sb45 rfl rfl
  obtain ⟨hv45, N45q, e45⟩ := hQ45
  have N45 := Fr.app N41 N45q
  refine OwnG.st (F' := (mkF m 209 #[.val (.int p1), .val (.long q2), .second, .val (.int p3), .val (.int p4), .val (.ref b2), .val (.int z6_28), .val (.int z7_30), .val (.int z8_43)] [(.int (F1 z8_43 (z6_28 + (3 : Int32)) z7_30 gB))])) (fun t k => st45 t (by rw [hv45]; exact k)) ?_
  clear Xb45 hb45 sb45 st45 hv45
  have sg46 : ∀ tgt, Steps p.tables e below (T45.setTop (mkF m 211 #[.val (.int p1), .val (.long q2), .second, .val (.int p3), .val (.int p4), .val (.ref b2), .val (.int z6_28), .val (.int z7_30), .val (.int (F1 z8_43 (z6_28 + (3 : Int32)) z7_30 gB))] [])) tgt → Steps p.tables e below (T45.setTop (mkF m 209 #[.val (.int p1), .val (.long q2), .second, .val (.int p3), .val (.int p4), .val (.ref b2), .val (.int z6_28), .val (.int z7_30), .val (.int z8_43)] [(.int (F1 z8_43 (z6_28 + (3 : Int32)) z7_30 gB))])) tgt := by
    intro tgt kt
    refine XS.istore X45.here hx rfl (hb hby at_209) rfl (l' := #[.val (.int p1), .val (.long q2), .second, .val (.int p3), .val (.int p4), .val (.ref b2), .val (.int z6_28), .val (.int z7_30), .val (.int (F1 z8_43 (z6_28 + (3 : Int32)) z7_30 gB))]) rfl ?_
    show Steps p.tables e below (T45.setTop (mkF m 211 #[.val (.int p1), .val (.long q2), .second, .val (.int p3), .val (.int p4), .val (.ref b2), .val (.int z6_28), .val (.int z7_30), .val (.int (F1 z8_43 (z6_28 + (3 : Int32)) z7_30 gB))] [])) _
    exact kt
  refine OwnG.st sg46 ?_
  obtain ⟨z8_47, hz8_47⟩ : ∃ w : Int32, w = (F1 z8_43 (z6_28 + (3 : Int32)) z7_30 gB) := ⟨_, rfl⟩
  rw [← hz8_47]
  show OwnG p e below s _ _ _ T45 (mkF m 211 #[.val (.int p1), .val (.long q2), .second, .val (.int p3), .val (.int p4), .val (.ref b2), .val (.int z6_28), .val (.int z7_30), .val (.int z8_47)] [])
  have sg48 : ∀ tgt, Steps p.tables e below (T45.setTop (mkF m 221 #[.val (.int p1), .val (.long q2), .second, .val (.int p3), .val (.int p4), .val (.ref b2), .val (.int z6_28), .val (.int z7_30), .val (.int z8_47)] [(.int z7_30), (.int (z6_28 + (4 : Int32))), (.ref b2), (.int z8_47)])) tgt → Steps p.tables e below (T45.setTop (mkF m 211 #[.val (.int p1), .val (.long q2), .second, .val (.int p3), .val (.int p4), .val (.ref b2), .val (.int z6_28), .val (.int z7_30), .val (.int z8_47)] [])) tgt := by
    intro tgt kt
    refine XS.iload X45.here hx rfl (hb hby at_211) rfl ?_
    show Steps p.tables e below (T45.setTop (mkF m 213 #[.val (.int p1), .val (.long q2), .second, .val (.int p3), .val (.int p4), .val (.ref b2), .val (.int z6_28), .val (.int z7_30), .val (.int z8_47)] [(.int z8_47)])) _
    refine XS.aload X45.here hx rfl (hb hby at_213) rfl rfl ?_
    show Steps p.tables e below (T45.setTop (mkF m 215 #[.val (.int p1), .val (.long q2), .second, .val (.int p3), .val (.int p4), .val (.ref b2), .val (.int z6_28), .val (.int z7_30), .val (.int z8_47)] [(.ref b2), (.int z8_47)])) _
    refine XS.iload X45.here hx rfl (hb hby at_215) rfl ?_
    show Steps p.tables e below (T45.setTop (mkF m 217 #[.val (.int p1), .val (.long q2), .second, .val (.int p3), .val (.int p4), .val (.ref b2), .val (.int z6_28), .val (.int z7_30), .val (.int z8_47)] [(.int z6_28), (.ref b2), (.int z8_47)])) _
    refine XS.iconst X45.here hx rfl (hb hby at_217) ?_
    show Steps p.tables e below (T45.setTop (mkF m 218 #[.val (.int p1), .val (.long q2), .second, .val (.int p3), .val (.int p4), .val (.ref b2), .val (.int z6_28), .val (.int z7_30), .val (.int z8_47)] [(.int (4 : Int32)), (.int z6_28), (.ref b2), (.int z8_47)])) _
    refine XS.iadd X45.here hx rfl (hb hby at_218) rfl ?_
    show Steps p.tables e below (T45.setTop (mkF m 219 #[.val (.int p1), .val (.long q2), .second, .val (.int p3), .val (.int p4), .val (.ref b2), .val (.int z6_28), .val (.int z7_30), .val (.int z8_47)] [(.int (z6_28 + (4 : Int32))), (.ref b2), (.int z8_47)])) _
    refine XS.iload X45.here hx rfl (hb hby at_219) rfl ?_
    show Steps p.tables e below (T45.setTop (mkF m 221 #[.val (.int p1), .val (.long q2), .second, .val (.int p3), .val (.int p4), .val (.ref b2), .val (.int z6_28), .val (.int z7_30), .val (.int z8_47)] [(.int z7_30), (.int (z6_28 + (4 : Int32))), (.ref b2), (.int z8_47)])) _
    exact kt
  refine OwnG.st sg48 ?_
  obtain ⟨vb49, _, B49, -, Xb49, hb49, sb49⟩ := Jvm.LawKit.callS X45 hx (y := (⟨"com/example/emberwire/emberwire/IdsHashPinLaw", "step", "(I[BII)I"⟩ : MethodName)) hown (mvT hZ (hw _ (List.mem_of_getElem? (i := 1) rfl))) (mvT hZ (hw _ (List.mem_of_getElem? (i := 2) rfl))) (mvT hZ (hw _ (List.mem_of_getElem? (i := 3) rfl))) (mvT hZ (hw _ (List.mem_of_getElem? (i := 4) rfl))) (by decide) (backOf (W := 0) (rm1 l Z a0 hw [] z8_47 b2 (z6_28 + (4 : Int32)) z7_30 12 gB h26 n0 Z26 VgB ((own_sd _ _ 4 4 rfl (by decide) hrange).1) ((own_sd _ _ 4 4 rfl (by decide) hrange).2)) hZ (hw _ (List.mem_of_getElem? (i := 4) rfl)) (hw _ (List.mem_of_getElem? (i := 3) rfl)) (by decide) (by decide)) (g := (mkF m 221 #[.val (.int p1), .val (.long q2), .second, .val (.int p3), .val (.int p4), .val (.ref b2), .val (.int z6_28), .val (.int z7_30), .val (.int z8_47)] [(.int z7_30), (.int (z6_28 + (4 : Int32))), (.ref b2), (.int z8_47)])) rfl (by rw [hml]; rfl) (argsL := [(.int z8_47), (.ref b2), (.int (z6_28 + (4 : Int32))), (.int z7_30)]) (rest := []) (lenOf pd_0_0 rfl) rfl (by show 2 * 0 + _ ≤ _; exact Nat.le_of_eq rfl) (hb hby at_221) (fun _ _ => ⟨rfl, e45, (by decide : 1 + 0 ≤ _), (by decide : 12 + 0 ≤ _)⟩)
  obtain ⟨T49, Lc49, vc49, X49, hQ49, st49⟩ := own_bk (F' := fun v => { ((mkF m 221 #[.val (.int p1), .val (.long q2), .second, .val (.int p3), .val (.int p4), .val (.ref b2), .val (.int z6_28), .val (.int z7_30), .val (.int z8_47)] [(.int z7_30), (.int (z6_28 + (4 : Int32))), (.ref b2), (.int z8_47)]) : JFrame) with pc := 224, stack := v.toList ++ [] }) (ck := 1) (sn := 12) Xb49 hb49 sb49 rfl rfl
  obtain ⟨hv49, N49q, e49⟩ := hQ49
  have N49 := Fr.app N45 N49q
  refine OwnG.st (F' := (mkF m 224 #[.val (.int p1), .val (.long q2), .second, .val (.int p3), .val (.int p4), .val (.ref b2), .val (.int z6_28), .val (.int z7_30), .val (.int z8_47)] [(.int (F1 z8_47 (z6_28 + (4 : Int32)) z7_30 gB))])) (fun t k => st49 t (by rw [hv49]; exact k)) ?_
  clear Xb49 hb49 sb49 st49 hv49
  have sg50 : ∀ tgt, Steps p.tables e below (T49.setTop (mkF m 226 #[.val (.int p1), .val (.long q2), .second, .val (.int p3), .val (.int p4), .val (.ref b2), .val (.int z6_28), .val (.int z7_30), .val (.int (F1 z8_47 (z6_28 + (4 : Int32)) z7_30 gB))] [])) tgt → Steps p.tables e below (T49.setTop (mkF m 224 #[.val (.int p1), .val (.long q2), .second, .val (.int p3), .val (.int p4), .val (.ref b2), .val (.int z6_28), .val (.int z7_30), .val (.int z8_47)] [(.int (F1 z8_47 (z6_28 + (4 : Int32)) z7_30 gB))])) tgt := by
    intro tgt kt
    refine XS.istore X49.here hx rfl (hb hby at_224) rfl (l' := #[.val (.int p1), .val (.long q2), .second, .val (.int p3), .val (.int p4), .val (.ref b2), .val (.int z6_28), .val (.int z7_30), .val (.int (F1 z8_47 (z6_28 + (4 : Int32)) z7_30 gB))]) rfl ?_
    show Steps p.tables e below (T49.setTop (mkF m 226 #[.val (.int p1), .val (.long q2), .second, .val (.int p3), .val (.int p4), .val (.ref b2), .val (.int z6_28), .val (.int z7_30), .val (.int (F1 z8_47 (z6_28 + (4 : Int32)) z7_30 gB))] [])) _
    exact kt
  refine OwnG.st sg50 ?_
  obtain ⟨z8_51, hz8_51⟩ : ∃ w : Int32, w = (F1 z8_47 (z6_28 + (4 : Int32)) z7_30 gB) := ⟨_, rfl⟩
  rw [← hz8_51]
  show OwnG p e below s _ _ _ T49 (mkF m 226 #[.val (.int p1), .val (.long q2), .second, .val (.int p3), .val (.int p4), .val (.ref b2), .val (.int z6_28), .val (.int z7_30), .val (.int z8_51)] [])
  have sg52 : ∀ tgt, Steps p.tables e below (T49.setTop (mkF m 236 #[.val (.int p1), .val (.long q2), .second, .val (.int p3), .val (.int p4), .val (.ref b2), .val (.int z6_28), .val (.int z7_30), .val (.int z8_51)] [(.int z7_30), (.int (z6_28 + (5 : Int32))), (.ref b2), (.int z8_51)])) tgt → Steps p.tables e below (T49.setTop (mkF m 226 #[.val (.int p1), .val (.long q2), .second, .val (.int p3), .val (.int p4), .val (.ref b2), .val (.int z6_28), .val (.int z7_30), .val (.int z8_51)] [])) tgt := by
    intro tgt kt
    refine XS.iload X49.here hx rfl (hb hby at_226) rfl ?_
    show Steps p.tables e below (T49.setTop (mkF m 228 #[.val (.int p1), .val (.long q2), .second, .val (.int p3), .val (.int p4), .val (.ref b2), .val (.int z6_28), .val (.int z7_30), .val (.int z8_51)] [(.int z8_51)])) _
    refine XS.aload X49.here hx rfl (hb hby at_228) rfl rfl ?_
    show Steps p.tables e below (T49.setTop (mkF m 230 #[.val (.int p1), .val (.long q2), .second, .val (.int p3), .val (.int p4), .val (.ref b2), .val (.int z6_28), .val (.int z7_30), .val (.int z8_51)] [(.ref b2), (.int z8_51)])) _
    refine XS.iload X49.here hx rfl (hb hby at_230) rfl ?_
    show Steps p.tables e below (T49.setTop (mkF m 232 #[.val (.int p1), .val (.long q2), .second, .val (.int p3), .val (.int p4), .val (.ref b2), .val (.int z6_28), .val (.int z7_30), .val (.int z8_51)] [(.int z6_28), (.ref b2), (.int z8_51)])) _
    refine XS.iconst X49.here hx rfl (hb hby at_232) ?_
    show Steps p.tables e below (T49.setTop (mkF m 233 #[.val (.int p1), .val (.long q2), .second, .val (.int p3), .val (.int p4), .val (.ref b2), .val (.int z6_28), .val (.int z7_30), .val (.int z8_51)] [(.int (5 : Int32)), (.int z6_28), (.ref b2), (.int z8_51)])) _
    refine XS.iadd X49.here hx rfl (hb hby at_233) rfl ?_
    show Steps p.tables e below (T49.setTop (mkF m 234 #[.val (.int p1), .val (.long q2), .second, .val (.int p3), .val (.int p4), .val (.ref b2), .val (.int z6_28), .val (.int z7_30), .val (.int z8_51)] [(.int (z6_28 + (5 : Int32))), (.ref b2), (.int z8_51)])) _
    refine XS.iload X49.here hx rfl (hb hby at_234) rfl ?_
    show Steps p.tables e below (T49.setTop (mkF m 236 #[.val (.int p1), .val (.long q2), .second, .val (.int p3), .val (.int p4), .val (.ref b2), .val (.int z6_28), .val (.int z7_30), .val (.int z8_51)] [(.int z7_30), (.int (z6_28 + (5 : Int32))), (.ref b2), (.int z8_51)])) _
    exact kt
  refine OwnG.st sg52 ?_
  obtain ⟨vb53, _, B53, -, Xb53, hb53, sb53⟩ := Jvm.LawKit.callS X49 hx (y := (⟨"com/example/emberwire/emberwire/IdsHashPinLaw", "step", "(I[BII)I"⟩ : MethodName)) hown (mvT hZ (hw _ (List.mem_of_getElem? (i := 1) rfl))) (mvT hZ (hw _ (List.mem_of_getElem? (i := 2) rfl))) (mvT hZ (hw _ (List.mem_of_getElem? (i := 3) rfl))) (mvT hZ (hw _ (List.mem_of_getElem? (i := 4) rfl))) (by decide) (backOf (W := 0) (rm1 l Z a0 hw [] z8_51 b2 (z6_28 + (5 : Int32)) z7_30 12 gB h26 n0 Z26 VgB ((own_sd _ _ 5 5 rfl (by decide) hrange).1) ((own_sd _ _ 5 5 rfl (by decide) hrange).2)) hZ (hw _ (List.mem_of_getElem? (i := 4) rfl)) (hw _ (List.mem_of_getElem? (i := 3) rfl)) (by decide) (by decide)) (g := (mkF m 236 #[.val (.int p1), .val (.long q2), .second, .val (.int p3), .val (.int p4), .val (.ref b2), .val (.int z6_28), .val (.int z7_30), .val (.int z8_51)] [(.int z7_30), (.int (z6_28 + (5 : Int32))), (.ref b2), (.int z8_51)])) rfl (by rw [hml]; rfl) (argsL := [(.int z8_51), (.ref b2), (.int (z6_28 + (5 : Int32))), (.int z7_30)]) (rest := []) (lenOf pd_0_0 rfl) rfl (by show 2 * 0 + _ ≤ _; exact Nat.le_of_eq rfl) (hb hby at_236) (fun _ _ => ⟨rfl, e49, (by decide : 1 + 0 ≤ _), (by decide : 12 + 0 ≤ _)⟩)
  obtain ⟨T53, Lc53, vc53, X53, hQ53, st53⟩ := own_bk (F' := fun v => { ((mkF m 236 #[.val (.int p1), .val (.long q2), .second, .val (.int p3), .val (.int p4), .val (.ref b2), .val (.int z6_28), .val (.int z7_30), .val (.int z8_51)] [(.int z7_30), (.int (z6_28 + (5 : Int32))), (.ref b2), (.int z8_51)]) : JFrame) with pc := 239, stack := v.toList ++ [] }) (ck := 1) (sn := 12) Xb53 hb53 sb53 rfl rfl
  obtain ⟨hv53, N53q, e53⟩ := hQ53
  have N53 := Fr.app N49 N53q
  refine OwnG.st (F' := (mkF m 239 #[.val (.int p1), .val (.long q2), .second, .val (.int p3), .val (.int p4), .val (.ref b2), .val (.int z6_28), .val (.int z7_30), .val (.int z8_51)] [(.int (F1 z8_51 (z6_28 + (5 : Int32)) z7_30 gB))])) (fun t k => st53 t (by rw [hv53]; exact k)) ?_
  clear Xb53 hb53 sb53 st53 hv53
  have sg54 : ∀ tgt, Steps p.tables e below (T53.setTop (mkF m 241 #[.val (.int p1), .val (.long q2), .second, .val (.int p3), .val (.int p4), .val (.ref b2), .val (.int z6_28), .val (.int z7_30), .val (.int (F1 z8_51 (z6_28 + (5 : Int32)) z7_30 gB))] [])) tgt → Steps p.tables e below (T53.setTop (mkF m 239 #[.val (.int p1), .val (.long q2), .second, .val (.int p3), .val (.int p4), .val (.ref b2), .val (.int z6_28), .val (.int z7_30), .val (.int z8_51)] [(.int (F1 z8_51 (z6_28 + (5 : Int32)) z7_30 gB))])) tgt := by
    intro tgt kt
    refine XS.istore X53.here hx rfl (hb hby at_239) rfl (l' := #[.val (.int p1), .val (.long q2), .second, .val (.int p3), .val (.int p4), .val (.ref b2), .val (.int z6_28), .val (.int z7_30), .val (.int (F1 z8_51 (z6_28 + (5 : Int32)) z7_30 gB))]) rfl ?_
    show Steps p.tables e below (T53.setTop (mkF m 241 #[.val (.int p1), .val (.long q2), .second, .val (.int p3), .val (.int p4), .val (.ref b2), .val (.int z6_28), .val (.int z7_30), .val (.int (F1 z8_51 (z6_28 + (5 : Int32)) z7_30 gB))] [])) _
    exact kt
  refine OwnG.st sg54 ?_
  obtain ⟨z8_55, hz8_55⟩ : ∃ w : Int32, w = (F1 z8_51 (z6_28 + (5 : Int32)) z7_30 gB) := ⟨_, rfl⟩
  rw [← hz8_55]
  show OwnG p e below s _ _ _ T53 (mkF m 241 #[.val (.int p1), .val (.long q2), .second, .val (.int p3), .val (.int p4), .val (.ref b2), .val (.int z6_28), .val (.int z7_30), .val (.int z8_55)] [])
  have sg56 : ∀ tgt, Steps p.tables e below (T53.setTop (mkF m 252 #[.val (.int p1), .val (.long q2), .second, .val (.int p3), .val (.int p4), .val (.ref b2), .val (.int z6_28), .val (.int z7_30), .val (.int z8_55)] [(.int z7_30), (.int (z6_28 + (6 : Int32))), (.ref b2), (.int z8_55)])) tgt → Steps p.tables e below (T53.setTop (mkF m 241 #[.val (.int p1), .val (.long q2), .second, .val (.int p3), .val (.int p4), .val (.ref b2), .val (.int z6_28), .val (.int z7_30), .val (.int z8_55)] [])) tgt := by
    intro tgt kt
    refine XS.iload X53.here hx rfl (hb hby at_241) rfl ?_
    show Steps p.tables e below (T53.setTop (mkF m 243 #[.val (.int p1), .val (.long q2), .second, .val (.int p3), .val (.int p4), .val (.ref b2), .val (.int z6_28), .val (.int z7_30), .val (.int z8_55)] [(.int z8_55)])) _
    refine XS.aload X53.here hx rfl (hb hby at_243) rfl rfl ?_
    show Steps p.tables e below (T53.setTop (mkF m 245 #[.val (.int p1), .val (.long q2), .second, .val (.int p3), .val (.int p4), .val (.ref b2), .val (.int z6_28), .val (.int z7_30), .val (.int z8_55)] [(.ref b2), (.int z8_55)])) _
    refine XS.iload X53.here hx rfl (hb hby at_245) rfl ?_
    show Steps p.tables e below (T53.setTop (mkF m 247 #[.val (.int p1), .val (.long q2), .second, .val (.int p3), .val (.int p4), .val (.ref b2), .val (.int z6_28), .val (.int z7_30), .val (.int z8_55)] [(.int z6_28), (.ref b2), (.int z8_55)])) _
    refine XS.bipush X53.here hx rfl (hb hby at_247) ?_
    show Steps p.tables e below (T53.setTop (mkF m 249 #[.val (.int p1), .val (.long q2), .second, .val (.int p3), .val (.int p4), .val (.ref b2), .val (.int z6_28), .val (.int z7_30), .val (.int z8_55)] [(.int (6 : Int32)), (.int z6_28), (.ref b2), (.int z8_55)])) _
    refine XS.iadd X53.here hx rfl (hb hby at_249) rfl ?_
    show Steps p.tables e below (T53.setTop (mkF m 250 #[.val (.int p1), .val (.long q2), .second, .val (.int p3), .val (.int p4), .val (.ref b2), .val (.int z6_28), .val (.int z7_30), .val (.int z8_55)] [(.int (z6_28 + (6 : Int32))), (.ref b2), (.int z8_55)])) _
    refine XS.iload X53.here hx rfl (hb hby at_250) rfl ?_
    show Steps p.tables e below (T53.setTop (mkF m 252 #[.val (.int p1), .val (.long q2), .second, .val (.int p3), .val (.int p4), .val (.ref b2), .val (.int z6_28), .val (.int z7_30), .val (.int z8_55)] [(.int z7_30), (.int (z6_28 + (6 : Int32))), (.ref b2), (.int z8_55)])) _
    exact kt
  refine OwnG.st sg56 ?_
  obtain ⟨vb57, _, B57, -, Xb57, hb57, sb57⟩ := Jvm.LawKit.callS X53 hx (y := (⟨"com/example/emberwire/emberwire/IdsHashPinLaw", "step", "(I[BII)I"⟩ : MethodName)) hown (mvT hZ (hw _ (List.mem_of_getElem? (i := 1) rfl))) (mvT hZ (hw _ (List.mem_of_getElem? (i := 2) rfl))) (mvT hZ (hw _ (List.mem_of_getElem? (i := 3) rfl))) (mvT hZ (hw _ (List.mem_of_getElem? (i := 4) rfl))) (by decide) (backOf (W := 0) (rm1 l Z a0 hw [] z8_55 b2 (z6_28 + (6 : Int32)) z7_30 12 gB h26 n0 Z26 VgB ((own_sd _ _ 6 6 rfl (by decide) hrange).1) ((own_sd _ _ 6 6 rfl (by decide) hrange).2)) hZ (hw _ (List.mem_of_getElem? (i := 4) rfl)) (hw _ (List.mem_of_getElem? (i := 3) rfl)) (by decide) (by decide)) (g := (mkF m 252 #[.val (.int p1), .val (.long q2), .second, .val (.int p3), .val (.int p4), .val (.ref b2), .val (.int z6_28), .val (.int z7_30), .val (.int z8_55)] [(.int z7_30), (.int (z6_28 + (6 : Int32))), (.ref b2), (.int z8_55)])) rfl (by rw [hml]; rfl) (argsL := [(.int z8_55), (.ref b2), (.int (z6_28 + (6 : Int32))), (.int z7_30)]) (rest := []) (lenOf pd_0_0 rfl) rfl (by show 2 * 0 + _ ≤ _; exact Nat.le_of_eq rfl) (hb hby at_252) (fun _ _ => ⟨rfl, e53, (by decide : 1 + 0 ≤ _), (by decide : 12 + 0 ≤ _)⟩)
  obtain ⟨T57, Lc57, vc57, X57, hQ57, st57⟩ := own_bk (F' := fun v => { ((mkF m 252 #[.val (.int p1), .val (.long q2), .second, .val (.int p3), .val (.int p4), .val (.ref b2), .val (.int z6_28), .val (.int z7_30), .val (.int z8_55)] [(.int z7_30), (.int (z6_28 + (6 : Int32))), (.ref b2), (.int z8_55)]) : JFrame) with pc := 255, stack := v.toList ++ [] }) (ck := 1) (sn := 12) Xb57 hb57 sb57 rfl rfl
  obtain ⟨hv57, N57q, e57⟩ := hQ57
  have N57 := Fr.app N53 N57q
  refine OwnG.st (F' := (mkF m 255 #[.val (.int p1), .val (.long q2), .second, .val (.int p3), .val (.int p4), .val (.ref b2), .val (.int z6_28), .val (.int z7_30), .val (.int z8_55)] [(.int (F1 z8_55 (z6_28 + (6 : Int32)) z7_30 gB))])) (fun t k => st57 t (by rw [hv57]; exact k)) ?_
  clear Xb57 hb57 sb57 st57 hv57
  have sg58 : ∀ tgt, Steps p.tables e below (T57.setTop (mkF m 257 #[.val (.int p1), .val (.long q2), .second, .val (.int p3), .val (.int p4), .val (.ref b2), .val (.int z6_28), .val (.int z7_30), .val (.int (F1 z8_55 (z6_28 + (6 : Int32)) z7_30 gB))] [])) tgt → Steps p.tables e below (T57.setTop (mkF m 255 #[.val (.int p1), .val (.long q2), .second, .val (.int p3), .val (.int p4), .val (.ref b2), .val (.int z6_28), .val (.int z7_30), .val (.int z8_55)] [(.int (F1 z8_55 (z6_28 + (6 : Int32)) z7_30 gB))])) tgt := by
    intro tgt kt
    refine XS.istore X57.here hx rfl (hb hby at_255) rfl (l' := #[.val (.int p1), .val (.long q2), .second, .val (.int p3), .val (.int p4), .val (.ref b2), .val (.int z6_28), .val (.int z7_30), .val (.int (F1 z8_55 (z6_28 + (6 : Int32)) z7_30 gB))]) rfl ?_
    show Steps p.tables e below (T57.setTop (mkF m 257 #[.val (.int p1), .val (.long q2), .second, .val (.int p3), .val (.int p4), .val (.ref b2), .val (.int z6_28), .val (.int z7_30), .val (.int (F1 z8_55 (z6_28 + (6 : Int32)) z7_30 gB))] [])) _
    exact kt
  refine OwnG.st sg58 ?_
  obtain ⟨z8_59, hz8_59⟩ : ∃ w : Int32, w = (F1 z8_55 (z6_28 + (6 : Int32)) z7_30 gB) := ⟨_, rfl⟩
  rw [← hz8_59]
  show OwnG p e below s _ _ _ T57 (mkF m 257 #[.val (.int p1), .val (.long q2), .second, .val (.int p3), .val (.int p4), .val (.ref b2), .val (.int z6_28), .val (.int z7_30), .val (.int z8_59)] [])
  have sg60 : ∀ tgt, Steps p.tables e below (T57.setTop (mkF m 268 #[.val (.int p1), .val (.long q2), .second, .val (.int p3), .val (.int p4), .val (.ref b2), .val (.int z6_28), .val (.int z7_30), .val (.int z8_59)] [(.int z7_30), (.int (z6_28 + (7 : Int32))), (.ref b2), (.int z8_59)])) tgt → Steps p.tables e below (T57.setTop (mkF m 257 #[.val (.int p1), .val (.long q2), .second, .val (.int p3), .val (.int p4), .val (.ref b2), .val (.int z6_28), .val (.int z7_30), .val (.int z8_59)] [])) tgt := by
    intro tgt kt
    refine XS.iload X57.here hx rfl (hb hby at_257) rfl ?_
    show Steps p.tables e below (T57.setTop (mkF m 259 #[.val (.int p1), .val (.long q2), .second, .val (.int p3), .val (.int p4), .val (.ref b2), .val (.int z6_28), .val (.int z7_30), .val (.int z8_59)] [(.int z8_59)])) _
    refine XS.aload X57.here hx rfl (hb hby at_259) rfl rfl ?_
    show Steps p.tables e below (T57.setTop (mkF m 261 #[.val (.int p1), .val (.long q2), .second, .val (.int p3), .val (.int p4), .val (.ref b2), .val (.int z6_28), .val (.int z7_30), .val (.int z8_59)] [(.ref b2), (.int z8_59)])) _
    refine XS.iload X57.here hx rfl (hb hby at_261) rfl ?_
    show Steps p.tables e below (T57.setTop (mkF m 263 #[.val (.int p1), .val (.long q2), .second, .val (.int p3), .val (.int p4), .val (.ref b2), .val (.int z6_28), .val (.int z7_30), .val (.int z8_59)] [(.int z6_28), (.ref b2), (.int z8_59)])) _
    refine XS.bipush X57.here hx rfl (hb hby at_263) ?_
    show Steps p.tables e below (T57.setTop (mkF m 265 #[.val (.int p1), .val (.long q2), .second, .val (.int p3), .val (.int p4), .val (.ref b2), .val (.int z6_28), .val (.int z7_30), .val (.int z8_59)] [(.int (7 : Int32)), (.int z6_28), (.ref b2), (.int z8_59)])) _
    refine XS.iadd X57.here hx rfl (hb hby at_265) rfl ?_
    show Steps p.tables e below (T57.setTop (mkF m 266 #[.val (.int p1), .val (.long q2), .second, .val (.int p3), .val (.int p4), .val (.ref b2), .val (.int z6_28), .val (.int z7_30), .val (.int z8_59)] [(.int (z6_28 + (7 : Int32))), (.ref b2), (.int z8_59)])) _
    refine XS.iload X57.here hx rfl (hb hby at_266) rfl ?_
    show Steps p.tables e below (T57.setTop (mkF m 268 #[.val (.int p1), .val (.long q2), .second, .val (.int p3), .val (.int p4), .val (.ref b2), .val (.int z6_28), .val (.int z7_30), .val (.int z8_59)] [(.int z7_30), (.int (z6_28 + (7 : Int32))), (.ref b2), (.int z8_59)])) _
    exact kt
  refine OwnG.st sg60 ?_
  obtain ⟨vb61, _, B61, -, Xb61, hb61, sb61⟩ := Jvm.LawKit.callS X57 hx (y := (⟨"com/example/emberwire/emberwire/IdsHashPinLaw", "step", "(I[BII)I"⟩ : MethodName)) hown (mvT hZ (hw _ (List.mem_of_getElem? (i := 1) rfl))) (mvT hZ (hw _ (List.mem_of_getElem? (i := 2) rfl))) (mvT hZ (hw _ (List.mem_of_getElem? (i := 3) rfl))) (mvT hZ (hw _ (List.mem_of_getElem? (i := 4) rfl))) (by decide) (backOf (W := 0) (rm1 l Z a0 hw [] z8_59 b2 (z6_28 + (7 : Int32)) z7_30 12 gB h26 n0 Z26 VgB ((own_sd _ _ 7 7 rfl (by decide) hrange).1) ((own_sd _ _ 7 7 rfl (by decide) hrange).2)) hZ (hw _ (List.mem_of_getElem? (i := 4) rfl)) (hw _ (List.mem_of_getElem? (i := 3) rfl)) (by decide) (by decide)) (g := (mkF m 268 #[.val (.int p1), .val (.long q2), .second, .val (.int p3), .val (.int p4), .val (.ref b2), .val (.int z6_28), .val (.int z7_30), .val (.int z8_59)] [(.int z7_30), (.int (z6_28 + (7 : Int32))), (.ref b2), (.int z8_59)])) rfl (by rw [hml]; rfl) (argsL := [(.int z8_59), (.ref b2), (.int (z6_28 + (7 : Int32))), (.int z7_30)]) (rest := []) (lenOf pd_0_0 rfl) rfl (by show 2 * 0 + _ ≤ _; exact Nat.le_of_eq rfl) (hb hby at_268) (fun _ _ => ⟨rfl, e57, (by decide : 1 + 0 ≤ _), (by decide : 12 + 0 ≤ _)⟩)
  obtain ⟨T61, Lc61, vc61, X61, hQ61, st61⟩ := own_bk (F' := fun v => { ((mkF m 268 #[.val (.int p1), .val (.long q2), .second, .val (.int p3), .val (.int p4), .val (.ref b2), .val (.int z6_28), .val (.int z7_30), .val (.int z8_59)] [(.int z7_30), (.int (z6_28 + (7 : Int32))), (.ref b2), (.int z8_59)]) : JFrame) with pc := 271, stack := v.toList ++ [] }) (ck := 1) (sn := 12) Xb61 hb61 sb61 rfl rfl
  obtain ⟨hv61, N61q, e61⟩ := hQ61
  have N61 := Fr.app N57 N61q
  refine OwnG.st (F' := (mkF m 271 #[.val (.int p1), .val (.long q2), .second, .val (.int p3), .val (.int p4), .val (.ref b2), .val (.int z6_28), .val (.int z7_30), .val (.int z8_59)] [(.int (F1 z8_59 (z6_28 + (7 : Int32)) z7_30 gB))])) (fun t k => st61 t (by rw [hv61]; exact k)) ?_
  clear Xb61 hb61 sb61 st61 hv61
  have sg62 : ∀ tgt, Steps p.tables e below (T61.setTop (mkF m 273 #[.val (.int p1), .val (.long q2), .second, .val (.int p3), .val (.int p4), .val (.ref b2), .val (.int z6_28), .val (.int z7_30), .val (.int (F1 z8_59 (z6_28 + (7 : Int32)) z7_30 gB))] [])) tgt → Steps p.tables e below (T61.setTop (mkF m 271 #[.val (.int p1), .val (.long q2), .second, .val (.int p3), .val (.int p4), .val (.ref b2), .val (.int z6_28), .val (.int z7_30), .val (.int z8_59)] [(.int (F1 z8_59 (z6_28 + (7 : Int32)) z7_30 gB))])) tgt := by
    intro tgt kt
    refine XS.istore X61.here hx rfl (hb hby at_271) rfl (l' := #[.val (.int p1), .val (.long q2), .second, .val (.int p3), .val (.int p4), .val (.ref b2), .val (.int z6_28), .val (.int z7_30), .val (.int (F1 z8_59 (z6_28 + (7 : Int32)) z7_30 gB))]) rfl ?_
    show Steps p.tables e below (T61.setTop (mkF m 273 #[.val (.int p1), .val (.long q2), .second, .val (.int p3), .val (.int p4), .val (.ref b2), .val (.int z6_28), .val (.int z7_30), .val (.int (F1 z8_59 (z6_28 + (7 : Int32)) z7_30 gB))] [])) _
    exact kt
  refine OwnG.st sg62 ?_
  obtain ⟨z8_63, hz8_63⟩ : ∃ w : Int32, w = (F1 z8_59 (z6_28 + (7 : Int32)) z7_30 gB) := ⟨_, rfl⟩
  rw [← hz8_63]
  show OwnG p e below s _ _ _ T61 (mkF m 273 #[.val (.int p1), .val (.long q2), .second, .val (.int p3), .val (.int p4), .val (.ref b2), .val (.int z6_28), .val (.int z7_30), .val (.int z8_63)] [])
  have sg64 : ∀ tgt, Steps p.tables e below (T61.setTop (mkF m 284 #[.val (.int p1), .val (.long q2), .second, .val (.int p3), .val (.int p4), .val (.ref b2), .val (.int z6_28), .val (.int z7_30), .val (.int z8_63)] [(.int z7_30), (.int (z6_28 + (8 : Int32))), (.ref b2), (.int z8_63)])) tgt → Steps p.tables e below (T61.setTop (mkF m 273 #[.val (.int p1), .val (.long q2), .second, .val (.int p3), .val (.int p4), .val (.ref b2), .val (.int z6_28), .val (.int z7_30), .val (.int z8_63)] [])) tgt := by
    intro tgt kt
    refine XS.iload X61.here hx rfl (hb hby at_273) rfl ?_
    show Steps p.tables e below (T61.setTop (mkF m 275 #[.val (.int p1), .val (.long q2), .second, .val (.int p3), .val (.int p4), .val (.ref b2), .val (.int z6_28), .val (.int z7_30), .val (.int z8_63)] [(.int z8_63)])) _
    refine XS.aload X61.here hx rfl (hb hby at_275) rfl rfl ?_
    show Steps p.tables e below (T61.setTop (mkF m 277 #[.val (.int p1), .val (.long q2), .second, .val (.int p3), .val (.int p4), .val (.ref b2), .val (.int z6_28), .val (.int z7_30), .val (.int z8_63)] [(.ref b2), (.int z8_63)])) _
    refine XS.iload X61.here hx rfl (hb hby at_277) rfl ?_
    show Steps p.tables e below (T61.setTop (mkF m 279 #[.val (.int p1), .val (.long q2), .second, .val (.int p3), .val (.int p4), .val (.ref b2), .val (.int z6_28), .val (.int z7_30), .val (.int z8_63)] [(.int z6_28), (.ref b2), (.int z8_63)])) _
    refine XS.bipush X61.here hx rfl (hb hby at_279) ?_
    show Steps p.tables e below (T61.setTop (mkF m 281 #[.val (.int p1), .val (.long q2), .second, .val (.int p3), .val (.int p4), .val (.ref b2), .val (.int z6_28), .val (.int z7_30), .val (.int z8_63)] [(.int (8 : Int32)), (.int z6_28), (.ref b2), (.int z8_63)])) _
    refine XS.iadd X61.here hx rfl (hb hby at_281) rfl ?_
    show Steps p.tables e below (T61.setTop (mkF m 282 #[.val (.int p1), .val (.long q2), .second, .val (.int p3), .val (.int p4), .val (.ref b2), .val (.int z6_28), .val (.int z7_30), .val (.int z8_63)] [(.int (z6_28 + (8 : Int32))), (.ref b2), (.int z8_63)])) _
    refine XS.iload X61.here hx rfl (hb hby at_282) rfl ?_
    show Steps p.tables e below (T61.setTop (mkF m 284 #[.val (.int p1), .val (.long q2), .second, .val (.int p3), .val (.int p4), .val (.ref b2), .val (.int z6_28), .val (.int z7_30), .val (.int z8_63)] [(.int z7_30), (.int (z6_28 + (8 : Int32))), (.ref b2), (.int z8_63)])) _
    exact kt
  refine OwnG.st sg64 ?_
  obtain ⟨vb65, _, B65, -, Xb65, hb65, sb65⟩ := Jvm.LawKit.callS X61 hx (y := (⟨"com/example/emberwire/emberwire/IdsHashPinLaw", "step", "(I[BII)I"⟩ : MethodName)) hown (mvT hZ (hw _ (List.mem_of_getElem? (i := 1) rfl))) (mvT hZ (hw _ (List.mem_of_getElem? (i := 2) rfl))) (mvT hZ (hw _ (List.mem_of_getElem? (i := 3) rfl))) (mvT hZ (hw _ (List.mem_of_getElem? (i := 4) rfl))) (by decide) (backOf (W := 0) (rm1 l Z a0 hw [] z8_63 b2 (z6_28 + (8 : Int32)) z7_30 12 gB h26 n0 Z26 VgB ((own_sd _ _ 8 8 rfl (by decide) hrange).1) ((own_sd _ _ 8 8 rfl (by decide) hrange).2)) hZ (hw _ (List.mem_of_getElem? (i := 4) rfl)) (hw _ (List.mem_of_getElem? (i := 3) rfl)) (by decide) (by decide)) (g := (mkF m 284 #[.val (.int p1), .val (.long q2), .second, .val (.int p3), .val (.int p4), .val (.ref b2), .val (.int z6_28), .val (.int z7_30), .val (.int z8_63)] [(.int z7_30), (.int (z6_28 + (8 : Int32))), (.ref b2), (.int z8_63)])) rfl (by rw [hml]; rfl) (argsL := [(.int z8_63), (.ref b2), (.int (z6_28 + (8 : Int32))), (.int z7_30)]) (rest := []) (lenOf pd_0_0 rfl) rfl (by show 2 * 0 + _ ≤ _; exact Nat.le_of_eq rfl) (hb hby at_284) (fun _ _ => ⟨rfl, e61, (by decide : 1 + 0 ≤ _), (by decide : 12 + 0 ≤ _)⟩)
  obtain ⟨T65, Lc65, vc65, X65, hQ65, st65⟩ := own_bk (F' := fun v => { ((mkF m 284 #[.val (.int p1), .val (.long q2), .second, .val (.int p3), .val (.int p4), .val (.ref b2), .val (.int z6_28), .val (.int z7_30), .val (.int z8_63)] [(.int z7_30), (.int (z6_28 + (8 : Int32))), (.ref b2), (.int z8_63)]) : JFrame) with pc := 287, stack := v.toList ++ [] }) (ck := 1) (sn := 12) Xb65 hb65 sb65 rfl rfl
  obtain ⟨hv65, N65q, e65⟩ := hQ65
  have N65 := Fr.app N61 N65q
  refine OwnG.st (F' := (mkF m 287 #[.val (.int p1), .val (.long q2), .second, .val (.int p3), .val (.int p4), .val (.ref b2), .val (.int z6_28), .val (.int z7_30), .val (.int z8_63)] [(.int (F1 z8_63 (z6_28 + (8 : Int32)) z7_30 gB))])) (fun t k => st65 t (by rw [hv65]; exact k)) ?_
  clear Xb65 hb65 sb65 st65 hv65
  have sg66 : ∀ tgt, Steps p.tables e below (T65.setTop (mkF m 289 #[.val (.int p1), .val (.long q2), .second, .val (.int p3), .val (.int p4), .val (.ref b2), .val (.int z6_28), .val (.int z7_30), .val (.int (F1 z8_63 (z6_28 + (8 : Int32)) z7_30 gB))] [])) tgt → Steps p.tables e below (T65.setTop (mkF m 287 #[.val (.int p1), .val (.long q2), .second, .val (.int p3), .val (.int p4), .val (.ref b2), .val (.int z6_28), .val (.int z7_30), .val (.int z8_63)] [(.int (F1 z8_63 (z6_28 + (8 : Int32)) z7_30 gB))])) tgt := by
    intro tgt kt
    refine XS.istore X65.here hx rfl (hb hby at_287) rfl (l' := #[.val (.int p1), .val (.long q2), .second, .val (.int p3), .val (.int p4), .val (.ref b2), .val (.int z6_28), .val (.int z7_30), .val (.int (F1 z8_63 (z6_28 + (8 : Int32)) z7_30 gB))]) rfl ?_
    show Steps p.tables e below (T65.setTop (mkF m 289 #[.val (.int p1), .val (.long q2), .second, .val (.int p3), .val (.int p4), .val (.ref b2), .val (.int z6_28), .val (.int z7_30), .val (.int (F1 z8_63 (z6_28 + (8 : Int32)) z7_30 gB))] [])) _
    exact kt
  refine OwnG.st sg66 ?_
  obtain ⟨z8_67, hz8_67⟩ : ∃ w : Int32, w = (F1 z8_63 (z6_28 + (8 : Int32)) z7_30 gB) := ⟨_, rfl⟩
  rw [← hz8_67]
  show OwnG p e below s _ _ _ T65 (mkF m 289 #[.val (.int p1), .val (.long q2), .second, .val (.int p3), .val (.int p4), .val (.ref b2), .val (.int z6_28), .val (.int z7_30), .val (.int z8_67)] [])
  have sg68 : ∀ tgt, Steps p.tables e below (T65.setTop (mkF m 300 #[.val (.int p1), .val (.long q2), .second, .val (.int p3), .val (.int p4), .val (.ref b2), .val (.int z6_28), .val (.int z7_30), .val (.int z8_67)] [(.int z7_30), (.int (z6_28 + (9 : Int32))), (.ref b2), (.int z8_67)])) tgt → Steps p.tables e below (T65.setTop (mkF m 289 #[.val (.int p1), .val (.long q2), .second, .val (.int p3), .val (.int p4), .val (.ref b2), .val (.int z6_28), .val (.int z7_30), .val (.int z8_67)] [])) tgt := by
    intro tgt kt
    refine XS.iload X65.here hx rfl (hb hby at_289) rfl ?_
    show Steps p.tables e below (T65.setTop (mkF m 291 #[.val (.int p1), .val (.long q2), .second, .val (.int p3), .val (.int p4), .val (.ref b2), .val (.int z6_28), .val (.int z7_30), .val (.int z8_67)] [(.int z8_67)])) _
    refine XS.aload X65.here hx rfl (hb hby at_291) rfl rfl ?_
    show Steps p.tables e below (T65.setTop (mkF m 293 #[.val (.int p1), .val (.long q2), .second, .val (.int p3), .val (.int p4), .val (.ref b2), .val (.int z6_28), .val (.int z7_30), .val (.int z8_67)] [(.ref b2), (.int z8_67)])) _
    refine XS.iload X65.here hx rfl (hb hby at_293) rfl ?_
    show Steps p.tables e below (T65.setTop (mkF m 295 #[.val (.int p1), .val (.long q2), .second, .val (.int p3), .val (.int p4), .val (.ref b2), .val (.int z6_28), .val (.int z7_30), .val (.int z8_67)] [(.int z6_28), (.ref b2), (.int z8_67)])) _
    refine XS.bipush X65.here hx rfl (hb hby at_295) ?_
    show Steps p.tables e below (T65.setTop (mkF m 297 #[.val (.int p1), .val (.long q2), .second, .val (.int p3), .val (.int p4), .val (.ref b2), .val (.int z6_28), .val (.int z7_30), .val (.int z8_67)] [(.int (9 : Int32)), (.int z6_28), (.ref b2), (.int z8_67)])) _
    refine XS.iadd X65.here hx rfl (hb hby at_297) rfl ?_
    show Steps p.tables e below (T65.setTop (mkF m 298 #[.val (.int p1), .val (.long q2), .second, .val (.int p3), .val (.int p4), .val (.ref b2), .val (.int z6_28), .val (.int z7_30), .val (.int z8_67)] [(.int (z6_28 + (9 : Int32))), (.ref b2), (.int z8_67)])) _
    refine XS.iload X65.here hx rfl (hb hby at_298) rfl ?_
    show Steps p.tables e below (T65.setTop (mkF m 300 #[.val (.int p1), .val (.long q2), .second, .val (.int p3), .val (.int p4), .val (.ref b2), .val (.int z6_28), .val (.int z7_30), .val (.int z8_67)] [(.int z7_30), (.int (z6_28 + (9 : Int32))), (.ref b2), (.int z8_67)])) _
    exact kt
  refine OwnG.st sg68 ?_
  obtain ⟨vb69, _, B69, -, Xb69, hb69, sb69⟩ := Jvm.LawKit.callS X65 hx (y := (⟨"com/example/emberwire/emberwire/IdsHashPinLaw", "step", "(I[BII)I"⟩ : MethodName)) hown (mvT hZ (hw _ (List.mem_of_getElem? (i := 1) rfl))) (mvT hZ (hw _ (List.mem_of_getElem? (i := 2) rfl))) (mvT hZ (hw _ (List.mem_of_getElem? (i := 3) rfl))) (mvT hZ (hw _ (List.mem_of_getElem? (i := 4) rfl))) (by decide) (backOf (W := 0) (rm1 l Z a0 hw [] z8_67 b2 (z6_28 + (9 : Int32)) z7_30 12 gB h26 n0 Z26 VgB ((own_sd _ _ 9 9 rfl (by decide) hrange).1) ((own_sd _ _ 9 9 rfl (by decide) hrange).2)) hZ (hw _ (List.mem_of_getElem? (i := 4) rfl)) (hw _ (List.mem_of_getElem? (i := 3) rfl)) (by decide) (by decide)) (g := (mkF m 300 #[.val (.int p1), .val (.long q2), .second, .val (.int p3), .val (.int p4), .val (.ref b2), .val (.int z6_28), .val (.int z7_30), .val (.int z8_67)] [(.int z7_30), (.int (z6_28 + (9 : Int32))), (.ref b2), (.int z8_67)])) rfl (by rw [hml]; rfl) (argsL := [(.int z8_67), (.ref b2), (.int (z6_28 + (9 : Int32))), (.int z7_30)]) (rest := []) (lenOf pd_0_0 rfl) rfl (by show 2 * 0 + _ ≤ _; exact Nat.le_of_eq rfl) (hb hby at_300) (fun _ _ => ⟨rfl, e65, (by decide : 1 + 0 ≤ _), (by decide : 12 + 0 ≤ _)⟩)
  obtain ⟨T69, Lc69, vc69, X69, hQ69, st69⟩ := own_bk (F' := fun v => { ((mkF m 300 #[.val (.int p1), .val (.long q2), .second, .val (.int p3), .val (.int p4), .val (.ref b2), .val (.int z6_28), .val (.int z7_30), .val (.int z8_67)] [(.int z7_30), (.int (z6_28 + (9 : Int32))), (.ref b2), (.int z8_67)]) : JFrame) with pc := 303, stack := v.toList ++ [] }) (ck := 1) (sn := 12) Xb69 hb69 sb69 rfl rfl
  obtain ⟨hv69, N69q, e69⟩ := hQ69
  have N69 := Fr.app N65 N69q
  refine OwnG.st (F' := (mkF m 303 #[.val (.int p1), .val (.long q2), .second, .val (.int p3), .val (.int p4), .val (.ref b2), .val (.int z6_28), .val (.int z7_30), .val (.int z8_67)] [(.int (F1 z8_67 (z6_28 + (9 : Int32)) z7_30 gB))])) (fun t k => st69 t (by rw [hv69]; exact k)) ?_
  clear Xb69 hb69 sb69 st69 hv69
  have sg70 : ∀ tgt, Steps p.tables e below (T69.setTop (mkF m 305 #[.val (.int p1), .val (.long q2), .second, .val (.int p3), .val (.int p4), .val (.ref b2), .val (.int z6_28), .val (.int z7_30), .val (.int (F1 z8_67 (z6_28 + (9 : Int32)) z7_30 gB))] [])) tgt → Steps p.tables e below (T69.setTop (mkF m 303 #[.val (.int p1), .val (.long q2), .second, .val (.int p3), .val (.int p4), .val (.ref b2), .val (.int z6_28), .val (.int z7_30), .val (.int z8_67)] [(.int (F1 z8_67 (z6_28 + (9 : Int32)) z7_30 gB))])) tgt := by
    intro tgt kt
    refine XS.istore X69.here hx rfl (hb hby at_303) rfl (l' := #[.val (.int p1), .val (.long q2), .second, .val (.int p3), .val (.int p4), .val (.ref b2), .val (.int z6_28), .val (.int z7_30), .val (.int (F1 z8_67 (z6_28 + (9 : Int32)) z7_30 gB))]) rfl ?_
    show Steps p.tables e below (T69.setTop (mkF m 305 #[.val (.int p1), .val (.long q2), .second, .val (.int p3), .val (.int p4), .val (.ref b2), .val (.int z6_28), .val (.int z7_30), .val (.int (F1 z8_67 (z6_28 + (9 : Int32)) z7_30 gB))] [])) _
    exact kt
  refine OwnG.st sg70 ?_
  obtain ⟨z8_71, hz8_71⟩ : ∃ w : Int32, w = (F1 z8_67 (z6_28 + (9 : Int32)) z7_30 gB) := ⟨_, rfl⟩
  rw [← hz8_71]
  show OwnG p e below s _ _ _ T69 (mkF m 305 #[.val (.int p1), .val (.long q2), .second, .val (.int p3), .val (.int p4), .val (.ref b2), .val (.int z6_28), .val (.int z7_30), .val (.int z8_71)] [])
  have sg72 : ∀ tgt, Steps p.tables e below (T69.setTop (mkF m 316 #[.val (.int p1), .val (.long q2), .second, .val (.int p3), .val (.int p4), .val (.ref b2), .val (.int z6_28), .val (.int z7_30), .val (.int z8_71)] [(.int z7_30), (.int (z6_28 + (10 : Int32))), (.ref b2), (.int z8_71)])) tgt → Steps p.tables e below (T69.setTop (mkF m 305 #[.val (.int p1), .val (.long q2), .second, .val (.int p3), .val (.int p4), .val (.ref b2), .val (.int z6_28), .val (.int z7_30), .val (.int z8_71)] [])) tgt := by
    intro tgt kt
    refine XS.iload X69.here hx rfl (hb hby at_305) rfl ?_
    show Steps p.tables e below (T69.setTop (mkF m 307 #[.val (.int p1), .val (.long q2), .second, .val (.int p3), .val (.int p4), .val (.ref b2), .val (.int z6_28), .val (.int z7_30), .val (.int z8_71)] [(.int z8_71)])) _
    refine XS.aload X69.here hx rfl (hb hby at_307) rfl rfl ?_
    show Steps p.tables e below (T69.setTop (mkF m 309 #[.val (.int p1), .val (.long q2), .second, .val (.int p3), .val (.int p4), .val (.ref b2), .val (.int z6_28), .val (.int z7_30), .val (.int z8_71)] [(.ref b2), (.int z8_71)])) _
    refine XS.iload X69.here hx rfl (hb hby at_309) rfl ?_
    show Steps p.tables e below (T69.setTop (mkF m 311 #[.val (.int p1), .val (.long q2), .second, .val (.int p3), .val (.int p4), .val (.ref b2), .val (.int z6_28), .val (.int z7_30), .val (.int z8_71)] [(.int z6_28), (.ref b2), (.int z8_71)])) _
    refine XS.bipush X69.here hx rfl (hb hby at_311) ?_
    show Steps p.tables e below (T69.setTop (mkF m 313 #[.val (.int p1), .val (.long q2), .second, .val (.int p3), .val (.int p4), .val (.ref b2), .val (.int z6_28), .val (.int z7_30), .val (.int z8_71)] [(.int (10 : Int32)), (.int z6_28), (.ref b2), (.int z8_71)])) _
    refine XS.iadd X69.here hx rfl (hb hby at_313) rfl ?_
    show Steps p.tables e below (T69.setTop (mkF m 314 #[.val (.int p1), .val (.long q2), .second, .val (.int p3), .val (.int p4), .val (.ref b2), .val (.int z6_28), .val (.int z7_30), .val (.int z8_71)] [(.int (z6_28 + (10 : Int32))), (.ref b2), (.int z8_71)])) _
    refine XS.iload X69.here hx rfl (hb hby at_314) rfl ?_
    show Steps p.tables e below (T69.setTop (mkF m 316 #[.val (.int p1), .val (.long q2), .second, .val (.int p3), .val (.int p4), .val (.ref b2), .val (.int z6_28), .val (.int z7_30), .val (.int z8_71)] [(.int z7_30), (.int (z6_28 + (10 : Int32))), (.ref b2), (.int z8_71)])) _
    exact kt
  refine OwnG.st sg72 ?_
  obtain ⟨vb73, _, B73, -, Xb73, hb73, sb73⟩ := Jvm.LawKit.callS X69 hx (y := (⟨"com/example/emberwire/emberwire/IdsHashPinLaw", "step", "(I[BII)I"⟩ : MethodName)) hown (mvT hZ (hw _ (List.mem_of_getElem? (i := 1) rfl))) (mvT hZ (hw _ (List.mem_of_getElem? (i := 2) rfl))) (mvT hZ (hw _ (List.mem_of_getElem? (i := 3) rfl))) (mvT hZ (hw _ (List.mem_of_getElem? (i := 4) rfl))) (by decide) (backOf (W := 0) (rm1 l Z a0 hw [] z8_71 b2 (z6_28 + (10 : Int32)) z7_30 12 gB h26 n0 Z26 VgB ((own_sd _ _ 10 10 rfl (by decide) hrange).1) ((own_sd _ _ 10 10 rfl (by decide) hrange).2)) hZ (hw _ (List.mem_of_getElem? (i := 4) rfl)) (hw _ (List.mem_of_getElem? (i := 3) rfl)) (by decide) (by decide)) (g := (mkF m 316 #[.val (.int p1), .val (.long q2), .second, .val (.int p3), .val (.int p4), .val (.ref b2), .val (.int z6_28), .val (.int z7_30), .val (.int z8_71)] [(.int z7_30), (.int (z6_28 + (10 : Int32))), (.ref b2), (.int z8_71)])) rfl (by rw [hml]; rfl) (argsL := [(.int z8_71), (.ref b2), (.int (z6_28 + (10 : Int32))), (.int z7_30)]) (rest := []) (lenOf pd_0_0 rfl) rfl (by show 2 * 0 + _ ≤ _; exact Nat.le_of_eq rfl) (hb hby at_316) (fun _ _ => ⟨rfl, e69, (by decide : 1 + 0 ≤ _), (by decide : 12 + 0 ≤ _)⟩)
  obtain ⟨T73, Lc73, vc73, X73, hQ73, st73⟩ := own_bk (F' := fun v => { ((mkF m 316 #[.val (.int p1), .val (.long q2), .second, .val (.int p3), .val (.int p4), .val (.ref b2), .val (.int z6_28), .val (.int z7_30), .val (.int z8_71)] [(.int z7_30), (.int (z6_28 + (10 : Int32))), (.ref b2), (.int z8_71)]) : JFrame) with pc := 319, stack := v.toList ++ [] }) (ck := 1) (sn := 12) Xb73 hb73 sb73 rfl rfl
  obtain ⟨hv73, N73q, e73⟩ := hQ73
  have N73 := Fr.app N69 N73q
  refine OwnG.st (F' := (mkF m 319 #[.val (.int p1), .val (.long q2), .second, .val (.int p3), .val (.int p4), .val (.ref b2), .val (.int z6_28), .val (.int z7_30), .val (.int z8_71)] [(.int (F1 z8_71 (z6_28 + (10 : Int32)) z7_30 gB))])) (fun t k => st73 t (by rw [hv73]; exact k)) ?_
  clear Xb73 hb73 sb73 st73 hv73
  have sg74 : ∀ tgt, Steps p.tables e below (T73.setTop (mkF m 321 #[.val (.int p1), .val (.long q2), .second, .val (.int p3), .val (.int p4), .val (.ref b2), .val (.int z6_28), .val (.int z7_30), .val (.int (F1 z8_71 (z6_28 + (10 : Int32)) z7_30 gB))] [])) tgt → Steps p.tables e below (T73.setTop (mkF m 319 #[.val (.int p1), .val (.long q2), .second, .val (.int p3), .val (.int p4), .val (.ref b2), .val (.int z6_28), .val (.int z7_30), .val (.int z8_71)] [(.int (F1 z8_71 (z6_28 + (10 : Int32)) z7_30 gB))])) tgt := by
    intro tgt kt
    refine XS.istore X73.here hx rfl (hb hby at_319) rfl (l' := #[.val (.int p1), .val (.long q2), .second, .val (.int p3), .val (.int p4), .val (.ref b2), .val (.int z6_28), .val (.int z7_30), .val (.int (F1 z8_71 (z6_28 + (10 : Int32)) z7_30 gB))]) rfl ?_
    show Steps p.tables e below (T73.setTop (mkF m 321 #[.val (.int p1), .val (.long q2), .second, .val (.int p3), .val (.int p4), .val (.ref b2), .val (.int z6_28), .val (.int z7_30), .val (.int (F1 z8_71 (z6_28 + (10 : Int32)) z7_30 gB))] [])) _
    exact kt
  refine OwnG.st sg74 ?_
  obtain ⟨z8_75, hz8_75⟩ : ∃ w : Int32, w = (F1 z8_71 (z6_28 + (10 : Int32)) z7_30 gB) := ⟨_, rfl⟩
  rw [← hz8_75]
  show OwnG p e below s _ _ _ T73 (mkF m 321 #[.val (.int p1), .val (.long q2), .second, .val (.int p3), .val (.int p4), .val (.ref b2), .val (.int z6_28), .val (.int z7_30), .val (.int z8_75)] [])
  have sg76 : ∀ tgt, Steps p.tables e below (T73.setTop (mkF m 332 #[.val (.int p1), .val (.long q2), .second, .val (.int p3), .val (.int p4), .val (.ref b2), .val (.int z6_28), .val (.int z7_30), .val (.int z8_75)] [(.int z7_30), (.int (z6_28 + (11 : Int32))), (.ref b2), (.int z8_75)])) tgt → Steps p.tables e below (T73.setTop (mkF m 321 #[.val (.int p1), .val (.long q2), .second, .val (.int p3), .val (.int p4), .val (.ref b2), .val (.int z6_28), .val (.int z7_30), .val (.int z8_75)] [])) tgt := by
    intro tgt kt
    refine XS.iload X73.here hx rfl (hb hby at_321) rfl ?_
    show Steps p.tables e below (T73.setTop (mkF m 323 #[.val (.int p1), .val (.long q2), .second, .val (.int p3), .val (.int p4), .val (.ref b2), .val (.int z6_28), .val (.int z7_30), .val (.int z8_75)] [(.int z8_75)])) _
    refine XS.aload X73.here hx rfl (hb hby at_323) rfl rfl ?_
    show Steps p.tables e below (T73.setTop (mkF m 325 #[.val (.int p1), .val (.long q2), .second, .val (.int p3), .val (.int p4), .val (.ref b2), .val (.int z6_28), .val (.int z7_30), .val (.int z8_75)] [(.ref b2), (.int z8_75)])) _
    refine XS.iload X73.here hx rfl (hb hby at_325) rfl ?_
    show Steps p.tables e below (T73.setTop (mkF m 327 #[.val (.int p1), .val (.long q2), .second, .val (.int p3), .val (.int p4), .val (.ref b2), .val (.int z6_28), .val (.int z7_30), .val (.int z8_75)] [(.int z6_28), (.ref b2), (.int z8_75)])) _
    refine XS.bipush X73.here hx rfl (hb hby at_327) ?_
    show Steps p.tables e below (T73.setTop (mkF m 329 #[.val (.int p1), .val (.long q2), .second, .val (.int p3), .val (.int p4), .val (.ref b2), .val (.int z6_28), .val (.int z7_30), .val (.int z8_75)] [(.int (11 : Int32)), (.int z6_28), (.ref b2), (.int z8_75)])) _
    refine XS.iadd X73.here hx rfl (hb hby at_329) rfl ?_
    show Steps p.tables e below (T73.setTop (mkF m 330 #[.val (.int p1), .val (.long q2), .second, .val (.int p3), .val (.int p4), .val (.ref b2), .val (.int z6_28), .val (.int z7_30), .val (.int z8_75)] [(.int (z6_28 + (11 : Int32))), (.ref b2), (.int z8_75)])) _
    refine XS.iload X73.here hx rfl (hb hby at_330) rfl ?_
    show Steps p.tables e below (T73.setTop (mkF m 332 #[.val (.int p1), .val (.long q2), .second, .val (.int p3), .val (.int p4), .val (.ref b2), .val (.int z6_28), .val (.int z7_30), .val (.int z8_75)] [(.int z7_30), (.int (z6_28 + (11 : Int32))), (.ref b2), (.int z8_75)])) _
    exact kt
  refine OwnG.st sg76 ?_
  obtain ⟨vb77, _, B77, -, Xb77, hb77, sb77⟩ := Jvm.LawKit.callS X73 hx (y := (⟨"com/example/emberwire/emberwire/IdsHashPinLaw", "step", "(I[BII)I"⟩ : MethodName)) hown (mvT hZ (hw _ (List.mem_of_getElem? (i := 1) rfl))) (mvT hZ (hw _ (List.mem_of_getElem? (i := 2) rfl))) (mvT hZ (hw _ (List.mem_of_getElem? (i := 3) rfl))) (mvT hZ (hw _ (List.mem_of_getElem? (i := 4) rfl))) (by decide) (backOf (W := 0) (rm1 l Z a0 hw [] z8_75 b2 (z6_28 + (11 : Int32)) z7_30 12 gB h26 n0 Z26 VgB ((own_sd _ _ 11 11 rfl (by decide) hrange).1) ((own_sd _ _ 11 11 rfl (by decide) hrange).2)) hZ (hw _ (List.mem_of_getElem? (i := 4) rfl)) (hw _ (List.mem_of_getElem? (i := 3) rfl)) (by decide) (by decide)) (g := (mkF m 332 #[.val (.int p1), .val (.long q2), .second, .val (.int p3), .val (.int p4), .val (.ref b2), .val (.int z6_28), .val (.int z7_30), .val (.int z8_75)] [(.int z7_30), (.int (z6_28 + (11 : Int32))), (.ref b2), (.int z8_75)])) rfl (by rw [hml]; rfl) (argsL := [(.int z8_75), (.ref b2), (.int (z6_28 + (11 : Int32))), (.int z7_30)]) (rest := []) (lenOf pd_0_0 rfl) rfl (by show 2 * 0 + _ ≤ _; exact Nat.le_of_eq rfl) (hb hby at_332) (fun _ _ => ⟨rfl, e73, (by decide : 1 + 0 ≤ _), (by decide : 12 + 0 ≤ _)⟩)
  obtain ⟨T77, Lc77, vc77, X77, hQ77, st77⟩ := own_bk (F' := fun v => { ((mkF m 332 #[.val (.int p1), .val (.long q2), .second, .val (.int p3), .val (.int p4), .val (.ref b2), .val (.int z6_28), .val (.int z7_30), .val (.int z8_75)] [(.int z7_30), (.int (z6_28 + (11 : Int32))), (.ref b2), (.int z8_75)]) : JFrame) with pc := 335, stack := v.toList ++ [] }) (ck := 1) (sn := 12) Xb77 hb77 sb77 rfl rfl
  obtain ⟨hv77, N77q, e77⟩ := hQ77
  have N77 := Fr.app N73 N77q
  refine OwnG.st (F' := (mkF m 335 #[.val (.int p1), .val (.long q2), .second, .val (.int p3), .val (.int p4), .val (.ref b2), .val (.int z6_28), .val (.int z7_30), .val (.int z8_75)] [(.int (F1 z8_75 (z6_28 + (11 : Int32)) z7_30 gB))])) (fun t k => st77 t (by rw [hv77]; exact k)) ?_
  clear Xb77 hb77 sb77 st77 hv77
  have sg78 : ∀ tgt, Steps p.tables e below (T77.setTop (mkF m 337 #[.val (.int p1), .val (.long q2), .second, .val (.int p3), .val (.int p4), .val (.ref b2), .val (.int z6_28), .val (.int z7_30), .val (.int (F1 z8_75 (z6_28 + (11 : Int32)) z7_30 gB))] [])) tgt → Steps p.tables e below (T77.setTop (mkF m 335 #[.val (.int p1), .val (.long q2), .second, .val (.int p3), .val (.int p4), .val (.ref b2), .val (.int z6_28), .val (.int z7_30), .val (.int z8_75)] [(.int (F1 z8_75 (z6_28 + (11 : Int32)) z7_30 gB))])) tgt := by
    intro tgt kt
    refine XS.istore X77.here hx rfl (hb hby at_335) rfl (l' := #[.val (.int p1), .val (.long q2), .second, .val (.int p3), .val (.int p4), .val (.ref b2), .val (.int z6_28), .val (.int z7_30), .val (.int (F1 z8_75 (z6_28 + (11 : Int32)) z7_30 gB))]) rfl ?_
    show Steps p.tables e below (T77.setTop (mkF m 337 #[.val (.int p1), .val (.long q2), .second, .val (.int p3), .val (.int p4), .val (.ref b2), .val (.int z6_28), .val (.int z7_30), .val (.int (F1 z8_75 (z6_28 + (11 : Int32)) z7_30 gB))] [])) _
    exact kt
  refine OwnG.st sg78 ?_
  obtain ⟨z8_79, hz8_79⟩ : ∃ w : Int32, w = (F1 z8_75 (z6_28 + (11 : Int32)) z7_30 gB) := ⟨_, rfl⟩
  rw [← hz8_79]
  show OwnG p e below s _ _ _ T77 (mkF m 337 #[.val (.int p1), .val (.long q2), .second, .val (.int p3), .val (.int p4), .val (.ref b2), .val (.int z6_28), .val (.int z7_30), .val (.int z8_79)] [])
  have sg80 : ∀ tgt, Steps p.tables e below (T77.setTop (mkF m 344 #[.val (.int p1), .val (.long q2), .second, .val (.int p3), .val (.int p4), .val (.ref b2), .val (.int z6_28), .val (.int z7_30), .val (.int z8_79)] [(.int z7_30), (.int z6_28), (.ref b2), (.int p1)])) tgt → Steps p.tables e below (T77.setTop (mkF m 337 #[.val (.int p1), .val (.long q2), .second, .val (.int p3), .val (.int p4), .val (.ref b2), .val (.int z6_28), .val (.int z7_30), .val (.int z8_79)] [])) tgt := by
    intro tgt kt
    refine XS.iloadN X77.here hx rfl (hb hby at_337) rfl ?_
    show Steps p.tables e below (T77.setTop (mkF m 338 #[.val (.int p1), .val (.long q2), .second, .val (.int p3), .val (.int p4), .val (.ref b2), .val (.int z6_28), .val (.int z7_30), .val (.int z8_79)] [(.int p1)])) _
    refine XS.aload X77.here hx rfl (hb hby at_338) rfl rfl ?_
    show Steps p.tables e below (T77.setTop (mkF m 340 #[.val (.int p1), .val (.long q2), .second, .val (.int p3), .val (.int p4), .val (.ref b2), .val (.int z6_28), .val (.int z7_30), .val (.int z8_79)] [(.ref b2), (.int p1)])) _
    refine XS.iload X77.here hx rfl (hb hby at_340) rfl ?_
    show Steps p.tables e below (T77.setTop (mkF m 342 #[.val (.int p1), .val (.long q2), .second, .val (.int p3), .val (.int p4), .val (.ref b2), .val (.int z6_28), .val (.int z7_30), .val (.int z8_79)] [(.int z6_28), (.ref b2), (.int p1)])) _
    refine XS.iload X77.here hx rfl (hb hby at_342) rfl ?_
    show Steps p.tables e below (T77.setTop (mkF m 344 #[.val (.int p1), .val (.long q2), .second, .val (.int p3), .val (.int p4), .val (.ref b2), .val (.int z6_28), .val (.int z7_30), .val (.int z8_79)] [(.int z7_30), (.int z6_28), (.ref b2), (.int p1)])) _
    exact kt
  refine OwnG.st sg80 ?_
  obtain ⟨vb81, _, B81, -, Xb81, hb81, sb81⟩ := Jvm.LawKit.callS X77 hx (y := (⟨"com/example/emberwire/emberwire/Ids", "hash", "(I[BII)I"⟩ : MethodName)) hown (mvT hZ (hw _ (List.mem_of_getElem? (i := 5) rfl))) (mvT hZ (hw _ (List.mem_of_getElem? (i := 6) rfl))) (mvT hZ (hw _ (List.mem_of_getElem? (i := 7) rfl))) (mvT hZ (hw _ (List.mem_of_getElem? (i := 8) rfl))) (by decide) (backOf (W := 0) (rm2 l Z a0 hw [] p1 b2 z6_28 z7_30 12 gB h26 n0 Z26 VgB (hrange.1) (by have q := hrange; show _ ≤ (12 : Int); omega) (by decide) (by have q := hrange; omega)) hZ (hw _ (List.mem_of_getElem? (i := 8) rfl)) (hw _ (List.mem_of_getElem? (i := 7) rfl)) (by decide) (by decide)) (g := (mkF m 344 #[.val (.int p1), .val (.long q2), .second, .val (.int p3), .val (.int p4), .val (.ref b2), .val (.int z6_28), .val (.int z7_30), .val (.int z8_79)] [(.int z7_30), (.int z6_28), (.ref b2), (.int p1)])) rfl (by rw [hml]; rfl) (argsL := [(.int p1), (.ref b2), (.int z6_28), (.int z7_30)]) (rest := []) (lenOf pd_0_0 rfl) rfl (by show 2 * 0 + _ ≤ _; exact Nat.le_of_eq rfl) (hb hby at_344) (fun _ _ => ⟨rfl, e77, (by decide : 1 + 0 ≤ _), (by decide : 12 + 0 ≤ _)⟩)
  obtain ⟨T81, Lc81, vc81, X81, hQ81, st81⟩ := own_bk (F' := fun v => { ((mkF m 344 #[.val (.int p1), .val (.long q2), .second, .val (.int p3), .val (.int p4), .val (.ref b2), .val (.int z6_28), .val (.int z7_30), .val (.int z8_79)] [(.int z7_30), (.int z6_28), (.ref b2), (.int p1)]) : JFrame) with pc := 347, stack := v.toList ++ [] }) (ck := 1) (sn := 12) Xb81 hb81 sb81 rfl rfl
  obtain ⟨hv81, N81q, e81⟩ := hQ81
  have N81 := Fr.app N77 N81q
  refine OwnG.st (F' := (mkF m 347 #[.val (.int p1), .val (.long q2), .second, .val (.int p3), .val (.int p4), .val (.ref b2), .val (.int z6_28), .val (.int z7_30), .val (.int z8_79)] [(.int (F2 p1 z6_28 z7_30 gB))])) (fun t k => st81 t (by rw [hv81]; exact k)) ?_
  clear Xb81 hb81 sb81 st81 hv81
  have hc349_82 : (F2 p1 z6_28 z7_30 gB) = z8_79 := by rw [hz8_79, hz8_75, hz8_71, hz8_67, hz8_63, hz8_59, hz8_55, hz8_51, hz8_47, hz8_43, hz8_39, hz8_35]; exact own_law _ _ _ _ hrange
  have sg83 : ∀ tgt, Steps p.tables e below (T81.setTop (mkF m 357 #[.val (.int p1), .val (.long q2), .second, .val (.int p3), .val (.int p4), .val (.ref b2), .val (.int z6_28), .val (.int z7_30), .val (.int z8_79)] [(.int (1 : Int32))])) tgt → Steps p.tables e below (T81.setTop (mkF m 347 #[.val (.int p1), .val (.long q2), .second, .val (.int p3), .val (.int p4), .val (.ref b2), .val (.int z6_28), .val (.int z7_30), .val (.int z8_79)] [(.int (F2 p1 z6_28 z7_30 gB))])) tgt := by
    intro tgt kt
    refine XS.iload X81.here hx rfl (hb hby at_347) rfl ?_
    show Steps p.tables e below (T81.setTop (mkF m 349 #[.val (.int p1), .val (.long q2), .second, .val (.int p3), .val (.int p4), .val (.ref b2), .val (.int z6_28), .val (.int z7_30), .val (.int z8_79)] [(.int z8_79), (.int (F2 p1 z6_28 z7_30 gB))])) _
    refine XS.icmpNo X81.here hx rfl (hb hby at_349) rfl (teq hc349_82).2 ?_
    show Steps p.tables e below (T81.setTop (mkF m 352 #[.val (.int p1), .val (.long q2), .second, .val (.int p3), .val (.int p4), .val (.ref b2), .val (.int z6_28), .val (.int z7_30), .val (.int z8_79)] [])) _
    refine XS.iconst X81.here hx rfl (hb hby at_352) ?_
    show Steps p.tables e below (T81.setTop (mkF m 353 #[.val (.int p1), .val (.long q2), .second, .val (.int p3), .val (.int p4), .val (.ref b2), .val (.int z6_28), .val (.int z7_30), .val (.int z8_79)] [(.int (1 : Int32))])) _
    refine XS.goto X81.here hx rfl (pc0 := 353) (pc' := 357) rfl (hb hby at_353) (by decide) (by decide) ?_
    show Steps p.tables e below (T81.setTop (mkF m 357 #[.val (.int p1), .val (.long q2), .second, .val (.int p3), .val (.int p4), .val (.ref b2), .val (.int z6_28), .val (.int z7_30), .val (.int z8_79)] [(.int (1 : Int32))])) _
    exact kt
  refine OwnG.st sg83 ?_
  have hv : (1 : Int32) = 1 := rfl
  exact OwnG.retN X81 hx (t := .boolean) (by simp) Bd.returns (BodyLoose.notSynchronized Bd) (hb hby at_357) ⟨congrArg (fun w => some (Value.int (nar .boolean w))) hv, N81⟩ (by decide) (by decide)
set_option maxRecDepth 65536 in
set_option maxHeartbeats 40000000 in
theorem comes_1 {Post : Tables → Env → Array Value → State → Outcome → State → Prop} (hpost : ∀ tb e args s v u, (limb_1_1.after args s (.returned v) u = true ∧ limb_1_2.after args s (.returned v) u = true ∧ True) → FrameEnd s (.returned v) u (Jvm.fieldLocs frame_1_writes args s ++ Jvm.arrayLocs frame_1_arrays args s ++ Jvm.staticLocs frame_1_statics s) 16 128 → Post tb e args s (.returned v) u) :
    ArmFor flags0 classFile x code maxLocals ret World_1 tables_1 room_1 Calls_1 rest_1 Pre_1 Post := by
  intro l hfl _ _ p e ha hc hk s m args below hf hA hF happ hP
  obtain ⟨hcalls, hrest, hpre⟩ := hP
  obtain ⟨-, -, -, hnamed, -, -, -, hat⟩ := (Spec.applies_iff hf).mp happ
  obtain ⟨hg, hn⟩ := and_e (Cond.before_iff.mp (show (Jvm.Cond.and given_1 narrow_1).before args s = true from hpre))
  obtain ⟨g1, g2⟩ := and_e hg
  obtain ⟨g3, g4⟩ := and_e g2
  obtain ⟨g5, g6⟩ := and_e g4
  obtain ⟨g7, g8⟩ := and_e g6
  obtain ⟨w0, w1, w2, w3, rfl⟩ : ∃ w0 w1 w2 w3 : Value, args = #[w0, w1, w2, w3] := by
    have hs : args.size = 4 := by simpa [Cond.value, given_1] using g1
    obtain ⟨L⟩ := args
    match L, hs with
    | [w0, w1, w2, w3], _ => exact ⟨w0, w1, w2, w3, rfl⟩
  have hw := fun d (hd : d ∈ tables_1) => atoms_spec (ws := Jvm.Cond.code x code maxLocals ret :: tables_1) hat d (List.mem_cons_of_mem _ hd)
  obtain ⟨i0, ei0⟩ := is_v g3
  obtain rfl : w0 = (.int i0) := Option.some.inj ei0
  obtain ⟨i1, ei1⟩ := isL_v g5
  obtain rfl : w1 = (.long i1) := Option.some.inj ei1
  obtain ⟨i2, ei2⟩ := is_v g7
  obtain rfl : w2 = (.int i2) := Option.some.inj ei2
  obtain ⟨i3, ei3⟩ := is_v g8
  obtain rfl : w3 = (.int i3) := Option.some.inj ei3
  obtain ⟨n, o, h1, h2, h3, _, L, rfl, ⟨rfl, N⟩, hq⟩ := rm0 l s _ hw tables_1 i0 i1 i2 i3  s.heap s.heap.size (Nat.le_refl _)  p e ha hc hk s m _ below hf ((Spec.applies_iff_loose hf).mp happ).1 ⟨rfl, State.Warmed39.refl s, rfl⟩ trivial
  refine ⟨n, _, h1, h2, h3, hpost _ _ _ _ _ _ ⟨Cond.after_iff.mpr rfl, Cond.after_iff.mpr (eq_i res_at (Term.int_eval (1)) rfl), trivial⟩ ⟨hq.1, hq.2.1, (hq.2.2.sift fun y hy => Or.inr (N y hy)).mono (by decide) (by decide)⟩⟩
theorem main_1_1 : Claimed_1_1 := comes_1 fun _ _ _ _ _ _ h hF => ⟨h.1, hF⟩
theorem main_1_2 : Claimed_1_2 := comes_1 fun _ _ _ _ _ _ h hF => ⟨h.2.1, hF⟩
end Jvm.Pilot.@@N@@
namespace Jvm.Pilot.@@N@@
open Jvm Jvm.ClassFile Sem Op Lib Jvm.Free Jvm.Stand Jvm.Pilot.@@N@@.Jvm.D
/-! MADE BY PROGRAM (witnessworld.py) out of the Statement's table words and the real class files: 9 classes; the members and pool entries that the words name. The judged class is class 1, her method 2. -/
namespace start1
open Jvm.ClassFile
def u (s : String) : CpInfo := .utf8 (stringToUtf16 s)
/-- a pool by its gaps: so many unusable entries, then the entry; so many at the end -/
def gap : Nat → List CpInfo → List CpInfo
  | 0, r => r
  | n + 1, r => .unusable :: gap n r
def poolList (es : List (Nat × CpInfo)) (last : Nat) : List CpInfo := es.foldr (fun e r => gap e.1 (e.2 :: r)) (gap last [])
def pool (es : List (Nat × CpInfo)) (last : Nat) : Array CpInfo := ⟨poolList es last⟩
def fileOf (pool : Array CpInfo) (this : Nat) (attrs : Array Attribute := #[]) (ms : Array MethodInfo := #[]) (fl : Nat := 33) (sup : Nat := 0) (ifs : Array Nat := #[]) (fds : Array FieldInfo := #[]) : ClassFile where
  minorVersion := 0
  majorVersion := 65
  constantPool := pool
  accessFlags := fl
  thisClass := this
  superClass := sup
  interfaces := ifs
  fields := fds
  methods := ms
  attributes := attrs
def plain (name : String) (sup : Option ClassId) : Class where
  name := name
  kind := .ordinary
  loader := none
  accessFlags := 33
  super := sup
  interfaces := #[]
  cf := none
  fields := #[]
  methods := #[]
  instanceTypes := #[]
  staticTypes := #[]
  resolved := #[]
  callSites := []
  init := .initialized
  statics := none
  mirror := none

def pool0 : Array CpInfo := pool [(5, u "<init>"), (0, u "()V"), (1, .class_ 10), (1, u "java/lang/Object")] 113

def k0m0 : Method := { name := "<init>", desc := "()V", sig := { parameters := [], returnType := none }, accessFlags := 1, code := none }
/-- java/lang/Object -/
def k0 : Class := { plain "java/lang/Object" none with
  accessFlags := 33
  interfaces := #[]
  cf := some (fileOf pool0 8 #[] #[{ accessFlags := 1, nameIndex := 5, descriptorIndex := 6, attributes := #[] }] 33 0 #[] #[])
  fields := #[]
  methods := #[k0m0]
  instanceTypes := #[]
  staticTypes := #[]
  resolved := Array.replicate 124 none
  statics := none }

def pool1 : Array CpInfo := pool [(2, .class_ 4), (1, u "java/lang/Object"), (0, u "<init>"), (0, u "()V"), (0, .methodref 8 9), (0, .class_ 10), (0, .nameAndType 11 12), (0, u "com/example/emberwire/emberwire/IdsHashPinLaw"), (0, u "step"), (0, u "(I[BII)I"), (0, .methodref 14 15), (0, .class_ 16), (0, .nameAndType 17 12), (0, u "com/example/emberwire/emberwire/Ids"), (0, u "hash"), (3, u "law"), (0, u "(IJII)Z")] 4

def k1m0 : Method := { name := "<init>", desc := "()V", sig := { parameters := [], returnType := none }, accessFlags := 1, code := none }
def k1c1 : Code := { maxStack := 3, maxLocals := 4, code := method_2_code, exceptionTable := #[], attributes := #[] }
def k1m1 : Method := { name := "step", desc := "(I[BII)I", sig := { parameters := [.int, (.array .byte), .int, .int], returnType := some .int }, accessFlags := 10, code := some k1c1 }
def k1c2 : Code := { maxStack := 5, maxLocals := 9, code := code, exceptionTable := #[], attributes := #[] }
def k1m2 : Method := { name := "law", desc := "(IJII)Z", sig := { parameters := [.int, .long, .int, .int], returnType := some .boolean }, accessFlags := 9, code := some k1c2 }
/-- com/example/emberwire/emberwire/IdsHashPinLaw -/
def k1 : Class := { plain "com/example/emberwire/emberwire/IdsHashPinLaw" (some 0) with
  accessFlags := 49
  interfaces := #[]
  cf := some (fileOf pool1 8 #[] #[{ accessFlags := 1, nameIndex := 5, descriptorIndex := 6, attributes := #[] }, { accessFlags := 10, nameIndex := 11, descriptorIndex := 12, attributes := #[] }, { accessFlags := 9, nameIndex := 21, descriptorIndex := 22, attributes := #[] }] 49 2 #[] #[])
  fields := #[]
  methods := #[k1m0, k1m1, k1m2]
  instanceTypes := #[]
  staticTypes := #[]
  resolved := Array.replicate 27 none
  statics := none }

def pool2 : Array CpInfo := pool [(2, .class_ 4), (1, u "java/lang/Object"), (0, u "<init>"), (0, u "()V"), (17, .class_ 26), (1, u "com/example/emberwire/emberwire/Ids"), (6, .integer 923521), (0, u "SCHEMA_SEED"), (0, u "I"), (1, u "SCHEMA_PRIME"), (6, u "hash"), (0, u "(I[BII)I")] 4

def k2m0 : Method := { name := "<init>", desc := "()V", sig := { parameters := [], returnType := none }, accessFlags := 2, code := none }
def k2c1 : Code := { maxStack := 5, maxLocals := 5, code := prog_23_method_5_code, exceptionTable := #[], attributes := #[] }
def k2m1 : Method := { name := "hash", desc := "(I[BII)I", sig := { parameters := [.int, (.array .byte), .int, .int], returnType := some .int }, accessFlags := 8, code := some k2c1 }
/-- com/example/emberwire/emberwire/Ids -/
def k2 : Class := { plain "com/example/emberwire/emberwire/Ids" (some 0) with
  accessFlags := 49
  interfaces := #[]
  cf := some (fileOf pool2 24 #[] #[{ accessFlags := 2, nameIndex := 5, descriptorIndex := 6, attributes := #[] }, { accessFlags := 8, nameIndex := 44, descriptorIndex := 45, attributes := #[] }] 49 2 #[] #[{ accessFlags := 26, nameIndex := 34, descriptorIndex := 35, attributes := #[] }, { accessFlags := 26, nameIndex := 37, descriptorIndex := 35, attributes := #[] }])
  fields := #[{ name := "SCHEMA_SEED", type := .int, accessFlags := 26, slot := 0, constantValue := 0 }, { name := "SCHEMA_PRIME", type := .int, accessFlags := 26, slot := 1, constantValue := 0 }]
  methods := #[k2m0, k2m1]
  instanceTypes := #[]
  staticTypes := #[.int, .int]
  resolved := Array.replicate 50 none
  statics := none }

def pool3 : Array CpInfo := pool [(1, u "java/lang/Cloneable"), (0, .class_ 1), (0, u "java/lang/Object"), (0, .class_ 3)] 3

/-- java/lang/Cloneable -/
def k3 : Class := { plain "java/lang/Cloneable" (some 0) with
  accessFlags := 1537
  interfaces := #[]
  cf := some (fileOf pool3 2 #[] #[] 1537 4 #[] #[])
  fields := #[]
  methods := #[]
  instanceTypes := #[]
  staticTypes := #[]
  resolved := Array.replicate 8 none
  statics := none }

def pool4 : Array CpInfo := pool [(1, u "java/io/Serializable"), (0, .class_ 1), (0, u "java/lang/Object"), (0, .class_ 3)] 3

/-- java/io/Serializable -/
def k4 : Class := { plain "java/io/Serializable" (some 0) with
  accessFlags := 1537
  interfaces := #[]
  cf := some (fileOf pool4 2 #[] #[] 1537 4 #[] #[])
  fields := #[]
  methods := #[]
  instanceTypes := #[]
  staticTypes := #[]
  resolved := Array.replicate 8 none
  statics := none }

/-- the primitive byte -/
def k5 : Class := { plain "byte" none with kind := .primitive 'B', accessFlags := 0x411 }
/-- [B -/
def k6 : Class := { plain "[B" (some 0) with kind := .array 5 .byte, interfaces := #[3, 4], accessFlags := 1041 }

/-- the primitive int -/
def k7 : Class := { plain "int" none with kind := .primitive 'I', accessFlags := 0x411 }
/-- [I -/
def k8 : Class := { plain "[I" (some 0) with kind := .array 7 .int, interfaces := #[3, 4], accessFlags := 1041 }

def heap : Heap := #[]
def classes : Array Class := #[k0, k1, k2, k3, k4, k5, k6, k7, k8]
def interned : List (Array UInt16 × Addr) := []
def slotsUsed : Nat := 0
def theMethod : MethodId := ⟨1, 2⟩
def args0 : Array Value := #[.int 5, .long 5, .int 5, .int 5]
def aboutOver (below : List Frame) : State where
  vm := { classes := classes, interned := interned.toArray }
  heap := heap
  slotsUsed := slotsUsed
  threads := #[{ frames := .invoking theMethod args0 :: below }]
def below0 : List Frame := [.native { method := ⟨0, 0⟩, args := #[] }]
def about1 : State := aboutOver below0
def p0 : Program := .bare "" "" ""
def e0 : Env := launch0.env 0 0 0
theorem w_frames : about1.frames = Frame.invoking theMethod args0 :: below0 := rfl
set_option maxRecDepth 65536 in
theorem w_args : argsFit about1.vm theMethod args0 = true := by decide +kernel
set_option maxRecDepth 65536 in
theorem w_heap : heapFits about1 = true := by decide +kernel
set_option maxRecDepth 65536 in
theorem w_runnable : about1.curStatus? = some .runnable := by decide +kernel
set_option maxRecDepth 65536 in
theorem w_alone : about1.alone = true := by decide +kernel
set_option maxRecDepth 65536 in
theorem w_named : about1.methodNamed? x = some theMethod := by decide +kernel
set_option maxRecDepth 65536 in
theorem w_hears : about1.hears theMethod below0 = true := by decide +kernel
set_option maxRecDepth 65536 in
theorem w_ripe : about1.ripe theMethod args0 below0 = true := by decide +kernel
theorem w_running : about1.status = .running := rfl
set_option maxRecDepth 65536 in
theorem w_room : about1.hasRoom e0.platform room_1 = true :=
  launch0.hasRoom_least _ room_1 (by decide +kernel) (by decide +kernel) (by decide +kernel) (by decide +kernel) (by decide +kernel) (by decide +kernel)
theorem allAtoms_all (ts : List Jvm.Cond) (a : Array Jvm.Value) (st : Jvm.State) : (allAtoms ts).before a st = ts.all (fun c => c.before a st) := by
  induction ts with
  | nil => rfl
  | cons c t ih =>
    show (Jvm.Cond.and c (allAtoms t)).before a st = _
    rw [Jvm.Cond.before_and, ih, List.all_cons]
def words1 : List Jvm.Cond := Jvm.Cond.code x code maxLocals ret :: tables_1
/-- a 'code' word, met by the world's own term for the bytes: nothing is compared byte by byte -/
theorem code_word {y : MethodName} {bytes : ByteArray} {mx : Nat} {rt : Option FieldType} {a : Array Value} {s : State} {m : MethodId} {meth : Method} {c : Code} (h1 : s.methodNamed? y = some m) (h2 : s.vm.method? m = some meth) (h3 : meth.code = some c) (h4 : c.code = bytes)
    (h5 : (c.maxLocals == mx && c.exceptionTable.isEmpty && decide (c.maxStack ≤ mostOperands) && decide (meth.sig.returnType = rt) && !meth.locks && decide (parseMethodDescriptor y.desc = some meth.sig)) = true) : (Jvm.Cond.code y bytes mx rt).before a s = true := by
  simp only [Bool.and_eq_true, beq_iff_eq, Bool.not_eq_true', decide_eq_true_eq] at h5
  obtain ⟨⟨⟨⟨⟨g1, g2⟩, g3⟩, g4⟩, g5⟩, g6⟩ := h5
  simp [Cond.before, Cond.holds, Cond.value, h1, h2, h3, h4, g1, g2, g3, g4, g5, g6]
def isCode : Jvm.Cond → Bool
  | .code _ _ _ _ => true
  | _ => false
theorem all_split {L : List Jvm.Cond} {P : Jvm.Cond → Bool} (h1 : L.all (fun c => isCode c || P c) = true) (h2 : ∀ c ∈ L.filter isCode, P c = true) : L.all P = true := by
  refine List.all_eq_true.mpr fun c hc => ?_
  have h := List.all_eq_true.mp h1 c hc
  rcases Bool.eq_false_or_eq_true (isCode c) with hi | hi
  · exact h2 c (List.mem_filter.mpr ⟨hc, hi⟩)
  · simpa [hi] using h
set_option maxRecDepth 65536 in
theorem w_c0 : (Jvm.Cond.code x code maxLocals ret).before args0 about1 = true := code_word (m := ⟨1, 2⟩) (meth := k1m2) (c := k1c2) (by decide +kernel) rfl rfl rfl (by decide +kernel)
set_option maxRecDepth 65536 in
theorem w_c1 : (Jvm.Cond.code ({ cls := "com/example/emberwire/emberwire/IdsHashPinLaw", name := "step", desc := "(I[BII)I" } : Jvm.MethodName) method_2_code (4 : Nat) (Option.some Jvm.ClassFile.FieldType.int)).before args0 about1 = true := code_word (m := ⟨1, 1⟩) (meth := k1m1) (c := k1c1) (by decide +kernel) rfl rfl rfl (by decide +kernel)
set_option maxRecDepth 65536 in
theorem w_c2 : (Jvm.Cond.code ({ cls := "com/example/emberwire/emberwire/Ids", name := "hash", desc := "(I[BII)I" } : Jvm.MethodName) prog_23_method_5_code (5 : Nat) (Option.some Jvm.ClassFile.FieldType.int)).before args0 about1 = true := code_word (m := ⟨2, 1⟩) (meth := k2m1) (c := k2c1) (by decide +kernel) rfl rfl rfl (by decide +kernel)
def codes1 : List Jvm.Cond := [Jvm.Cond.code x code maxLocals ret, Jvm.Cond.code ({ cls := "com/example/emberwire/emberwire/IdsHashPinLaw", name := "step", desc := "(I[BII)I" } : Jvm.MethodName) method_2_code (4 : Nat) (Option.some Jvm.ClassFile.FieldType.int), Jvm.Cond.code ({ cls := "com/example/emberwire/emberwire/Ids", name := "hash", desc := "(I[BII)I" } : Jvm.MethodName) prog_23_method_5_code (5 : Nat) (Option.some Jvm.ClassFile.FieldType.int)]
set_option maxRecDepth 65536 in
theorem codes_eq : words1.filter isCode = codes1 := rfl
theorem w_codes : ∀ c ∈ words1.filter isCode, c.before args0 about1 = true := by
  rw [codes_eq]
  intro c hc
  simp only [codes1, List.mem_cons, List.not_mem_nil, or_false] at hc
  rcases hc with rfl | rfl | rfl
  · exact w_c0
  · exact w_c1
  · exact w_c2
set_option maxRecDepth 65536 in
theorem w_t1 : words1.all (fun c => isCode c || c.before args0 about1) = true := by decide +kernel
theorem w_tables : (allAtoms (Jvm.Cond.code x code maxLocals ret :: tables_1)).before args0 about1 = true := by
  rw [allAtoms_all]
  show words1.all (fun c => c.before args0 about1) = true
  refine all_split ?_ w_codes
  rw [w_t1]
set_option maxRecDepth 65536 in
theorem w_case : (Jvm.Cond.and given_1 narrow_1).before args0 about1 = true := by decide +kernel
theorem w_applies : (headSpec (Jvm.Cond.code x code maxLocals ret :: tables_1) room_1).applies x e0.platform about1 = true :=
  (Spec.applies_iff w_frames).mpr ⟨w_running, w_runnable, w_alone, w_named, w_hears, w_ripe, w_room, w_tables⟩
theorem atStart : AtStart classFile x code maxLocals ret World_1 tables_1 room_1 Calls_1 rest_1 Pre_1 launch0 p0 e0 about1 theMethod args0 below0 :=
  ⟨lists_1, trivial, launch0.admits_env _ _ _, launch0.least_env, fairChoices_fair.cas, fairChoices_fair.clock, w_frames, w_args, w_heap, w_applies, trivial, trivial, w_case⟩
end start1
theorem witness_1 : WitnessClaimed_1 := ⟨start1.p0, start1.e0, start1.about1, start1.theMethod, start1.args0, start1.below0, start1.atStart⟩
end Jvm.Pilot.@@N@@
