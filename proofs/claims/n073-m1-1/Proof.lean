import JvmDerived
import JvmDerived.Pilot.@@N@@Statement
import JvmDerived.Pilot.@@N@@Code
set_option linter.unusedVariables false
set_option linter.unusedSimpArgs false
set_option maxHeartbeats 4000000
set_option maxRecDepth 8192
namespace Jvm.OwnKit
open Sem ClassFile Op Lib Jvm.Stand Jvm.Free Jvm.LawKit Jvm.RoadKit
section Own
variable {p : Program} {l : Launch} {e : Env} {R : Room} {s : State} {m : MethodId} {args : Array Value} {below : List Frame} {meth : Method} {c : Code} {T T' : State} {locs : List Loc} {cells slots : Nat}
/-- from the state T with the frame F on top the run comes to the method's end, and what Q says holds there -/
def OwnG (p : Program) (e : Env) (below : List Frame) (s : State) (Q : Option Value → Heap → List Loc → Prop) (k n : Nat) (T : State) (F : JFrame) : Prop :=
  ∃ s₂ o, Steps p.tables e below (T.setTop F) s₂ ∧ s₂.status = .running ∧ Ended s₂ below o ∧ ∃ v L, o = .returned v ∧ Q v s₂.heap L ∧ FrameEnd s o s₂ L k n
theorem OwnG.st {Q : Option Value → Heap → List Loc → Prop} {k n : Nat} {F F' : JFrame} (h : ∀ t, Steps p.tables e below (T'.setTop F') t → Steps p.tables e below (T.setTop F) t) (g : OwnG p e below s Q k n T' F') : OwnG p e below s Q k n T F := by
  obtain ⟨s2, o, h1, r⟩ := g
  exact ⟨s2, o, h _ h1, r⟩
theorem OwnG.leave (X : Stand p l e R s m args below meth c T locs cells slots) {Q : Option Value → Heap → List Loc → Prop} {k n : Nat} {F : JFrame} {v : Option Value} (hv : meth.sig.returnType = none → v = none) (hlk : meth.locks = false)
    (hs : ∀ fs, (∀ (f : JFrame) (acts : List Action), f.method = m → f.locked = none → f.entered = [] → (doReturn e (T.setTop f) acts v).1 = T.setFrames fs) → Steps p.tables e below (T.setTop F) (T.setFrames fs)) (hq : Q v T.heap locs) (hk : cells ≤ k) (hn : slots ≤ n) : OwnG p e below s Q k n T F := by
  obtain ⟨fs, hr, hrun, hended, hW, hsame⟩ := X.leave hv hlk
  exact ⟨_, _, hs fs hr, hrun, hended, _, _, rfl, hq, ⟨_, rfl⟩, hW, hsame.mono hk hn⟩
theorem OwnG.retI (X : Stand p l e R s m args below meth c T locs cells slots) (hx : p.tables.exec = Jvm.exec) {Q : Option Value → Heap → List Loc → Prop} {k n pc : Nat} {Ls : Array Slot} {z : Int32} {rest : List Value} (hret : meth.sig.returnType = some .int) (hlk : meth.locks = false) (hd : decode c.code pc = .ok (.ireturn, 1)) (hq : Q (some (.int z)) T.heap locs) (hk : cells ≤ k) (hn : slots ≤ n) : OwnG p e below s Q k n T (mkF m pc Ls (.int z :: rest)) :=
  OwnG.leave X (fun h => by rw [hret] at h; cases h) hlk (fun fs hr => retOut X hx hret rfl (Or.inl ⟨rfl, Or.inl rfl, z, rfl⟩) hd hr) hq hk hn
theorem OwnG.retJ (X : Stand p l e R s m args below meth c T locs cells slots) (hx : p.tables.exec = Jvm.exec) {Q : Option Value → Heap → List Loc → Prop} {k n pc : Nat} {Ls : Array Slot} {z : Int64} {rest : List Value} (hret : meth.sig.returnType = some .long) (hlk : meth.locks = false) (hd : decode c.code pc = .ok (.lreturn, 1)) (hq : Q (some (.long z)) T.heap locs) (hk : cells ≤ k) (hn : slots ≤ n) : OwnG p e below s Q k n T (mkF m pc Ls (.long z :: rest)) :=
  OwnG.leave X (fun h => by rw [hret] at h; cases h) hlk (fun fs hr => retOut X hx hret rfl (Or.inr (Or.inl ⟨rfl, rfl, z, rfl⟩)) hd hr) hq hk hn
theorem OwnG.retR (X : Stand p l e R s m args below meth c T locs cells slots) (hx : p.tables.exec = Jvm.exec) {Q : Option Value → Heap → List Loc → Prop} {k n pc : Nat} {Ls : Array Slot} {a : Addr} {rest : List Value} {t : FieldType} (hret : meth.sig.returnType = some t) (ht : t.isReference = true) (hnn : narrow t (.ref a) = .ref a) (hlk : meth.locks = false) (hd : decode c.code pc = .ok (.areturn, 1)) (hq : Q (some (.ref a)) T.heap locs) (hk : cells ≤ k) (hn : slots ≤ n) : OwnG p e below s Q k n T (mkF m pc Ls (.ref a :: rest)) :=
  OwnG.leave X (fun h => by rw [hret] at h; cases h) hlk (fun fs hr => retOut X hx hret hnn (Or.inr (Or.inr (Or.inr (Or.inr ⟨rfl, ht, rfl⟩)))) hd hr) hq hk hn
theorem OwnG.retN (X : Stand p l e R s m args below meth c T locs cells slots) (hx : p.tables.exec = Jvm.exec) {Q : Option Value → Heap → List Loc → Prop} {k n pc : Nat} {Ls : Array Slot} {z : Int32} {rest : List Value} {t : FieldType} (ht : t = .boolean ∨ t = .byte ∨ t = .char ∨ t = .short) (hret : meth.sig.returnType = some t) (hlk : meth.locks = false) (hd : decode c.code pc = .ok (.ireturn, 1)) (hq : Q (some (.int (nar t z))) T.heap locs) (hk : cells ≤ k) (hn : slots ≤ n) : OwnG p e below s Q k n T (mkF m pc Ls (.int z :: rest)) :=
  OwnG.leave X (fun h => by rw [hret] at h; cases h) hlk (fun fs hr => Jvm.RoadKit.retN X hx hret ht hd hr) hq hk hn
theorem OwnG.retV (X : Stand p l e R s m args below meth c T locs cells slots) (hx : p.tables.exec = Jvm.exec) {Q : Option Value → Heap → List Loc → Prop} {k n pc : Nat} {Ls : Array Slot} (hret : meth.sig.returnType = none) (hlk : meth.locks = false) (hd : decode c.code pc = .ok (.return_, 1)) (hq : Q none T.heap locs) (hk : cells ≤ k) (hn : slots ≤ n) : OwnG p e below s Q k n T (mkF m pc Ls []) :=
  OwnG.leave X (fun _ => rfl) hlk (fun fs hr => X.returnOut hx hret hd hr) hq hk hn
theorem own_bk {Q : Option Value → Heap → List Loc → Prop} {v : Option Value} {B : Free.Pt} {k n ck sn : Nat} {F : JFrame} {F' : Option Value → JFrame} (X : Stand p l e R s m args below meth c B.U B.locs B.cells B.slots)
    (hp : ∃ L, Q v B.U.heap L ∧ B.locs = locs ++ L ∧ B.cells = cells + k ∧ B.slots = slots + n) (st : ∀ t, Steps p.tables e below (B.U.setTop (F' v)) t → Steps p.tables e below (T.setTop F) t) (hc : cells + k = ck) (hs : slots + n = sn) :
    ∃ T' L v, Stand p l e R s m args below meth c T' (locs ++ L) ck sn ∧ Q v T'.heap L ∧ ∀ t, Steps p.tables e below (T'.setTop (F' v)) t → Steps p.tables e below (T.setTop F) t := by
  obtain ⟨U, L0, k0, n0⟩ := B
  obtain ⟨L, hq, e1, e2, e3⟩ := hp
  subst hc hs e1 e2 e3
  exact ⟨U, L, v, X, hq, st⟩
end Own
end Jvm.OwnKit
namespace Jvm.OwnKit
open Sem ClassFile Op Lib Jvm.Stand Jvm.Free Jvm.LawKit Jvm.RoadKit
section Arrays
variable {p : Program} {l : Launch} {e : Env} {R : Room} {s : State} {m : MethodId} {args : Array Value} {below : List Frame} {meth : Method} {c : Code} {T : State} {locs : List Loc} {cells slots : Nat} {Z : State} {a0 : Array Value} {h h' : Heap} {a b : Addr} {ty : FieldType} {n : Nat} {f f' : Nat → Value}
/-- at a lies an array of kind ty and length n whose components are f 0, f 1, .. -/
def OwnA (Z : State) (h : Heap) (a : Addr) (ty : FieldType) (n : Nat) (f : Nat → Value) : Prop := ∃ c : Cell, Arr Z h a c ty ∧ c.slots.size = n ∧ ∀ i, i < n → c.slots[i]? = some (f i)
def updv {α : Type} (g : Nat → α) (j : Nat) (v : α) : Nat → α := fun i => if i = j then v else g i
abbrev iv' (g : Nat → Int32) : Nat → Value := fun i => .int (g i)
abbrev jv' (g : Nat → Int64) : Nat → Value := fun i => .long (g i)
theorem OwnA.lt (A : OwnA Z h a ty n f) : a < h.size := by obtain ⟨c, A, -⟩ := A; exact A.lt
theorem OwnA.ext (A : OwnA Z h a ty n f) (E : Ext h h') : OwnA Z h' a ty n f := by obtain ⟨c, A, r⟩ := A; exact ⟨c, A.ext E, r⟩
theorem OwnA.other {sl : Nat} {v : Value} (A : OwnA Z h b ty n f) (W : Wr h h' a sl v) (q : b ≠ a) : OwnA Z h' b ty n f := by obtain ⟨c, A, r⟩ := A; exact ⟨c, A.other W q, r⟩
theorem OwnA.keep {ws : List Addr} (A : OwnA Z h a ty n f) (K : Keep h h' ws) (q : a ∉ ws) : OwnA Z h' a ty n f := by obtain ⟨c, A, r⟩ := A; exact ⟨c, ⟨K.2.1 a c A.1 q, A.2⟩, r⟩
theorem OwnA.congr (A : OwnA Z h a ty n f) (q : ∀ i, i < n → f i = f' i) : OwnA Z h a ty n f' := by obtain ⟨c, A, s1, s2⟩ := A; exact ⟨c, A, s1, fun i hi => (s2 i hi).trans (congrArg some (q i hi))⟩
theorem own_in {c : Cell} {j : Int32} (S : c.slots.size = n) (h0 : 0 ≤ j.toInt) (h1 : j.toInt < n) : ¬ (j < 0 ∨ c.slots.size ≤ j.toNatClampNeg) := by
  have e0 : (0 : Int32).toInt = 0 := rfl
  have e1 : j.toNatClampNeg = j.toInt.toNat := rfl
  rw [S, Int32.lt_iff_toInt_lt, e0, e1]; omega
theorem own_slots (c : Cell) (i : Nat) (v : Value) : (c.setSlot i v).slots = c.slots.setIfInBounds i v := rfl
theorem own_set {cl : Cell} {sl : Nat} {v : Value} (A : Arr Z h a cl ty) (S : cl.slots.size = n) (G : ∀ i, i < n → cl.slots[i]? = some (f i)) (W : Wr h h' a sl v) (hs : sl < n) : OwnA Z h' a ty n (updv f sl v) := by
  refine ⟨_, A.same W, by rw [sz_set]; exact S, fun i hi => ?_⟩
  rw [own_slots]
  by_cases u : sl = i
  · subst u; rw [Array.getElem?_setIfInBounds_self_of_lt (by omega)]; exact congrArg some (show v = (if sl = sl then v else f sl) by rw [if_pos rfl])
  · rw [Array.getElem?_setIfInBounds_ne u, G i hi]; exact congrArg some (show f i = (if i = sl then v else f i) by rw [if_neg (fun q => u q.symm)])
theorem own_ldB {g : Nat → Int32} (A : OwnA Z h a .byte n (iv' g)) (X : Stand p l e R s m args below meth c T locs cells slots) (hx : p.tables.exec = Jvm.exec) (hZ : Z.Warmed39 s.vm) (eT : T.heap = h) {j : Int32} (h0 : 0 ≤ j.toInt) (h1 : j.toInt < n) {gf : JFrame} (hg : gf.method = m) {rest : List Value} (hs : gf.stack = .int j :: .ref a :: rest) (hd : decode c.code gf.pc = .ok (.baload, 1)) :
    ∀ target, Steps p.tables e below (T.setTop { gf with pc := gf.pc + 1, stack := .int (g j.toInt.toNat) :: rest }) target → Steps p.tables e below (T.setTop gf) target := by
  obtain ⟨cl, A, S, G⟩ := A
  exact fun t k => X.baloadBytes hx (by rw [eT]; exact A.1) (State.isArrayOf_alike hZ.alike A.2.1) A.2.2 (own_in S h0 h1) (G j.toInt.toNat (by omega)) hg hs hd t k
theorem own_ldI {g : Nat → Int32} (A : OwnA Z h a .int n (iv' g)) (X : Stand p l e R s m args below meth c T locs cells slots) (hx : p.tables.exec = Jvm.exec) (hZ : Z.Warmed39 s.vm) (eT : T.heap = h) {j : Int32} (h0 : 0 ≤ j.toInt) (h1 : j.toInt < n) {gf : JFrame} (hg : gf.method = m) {rest : List Value} (hs : gf.stack = .int j :: .ref a :: rest) (hd : decode c.code gf.pc = .ok (.iaload, 1)) :
    ∀ target, Steps p.tables e below (T.setTop { gf with pc := gf.pc + 1, stack := .int (g j.toInt.toNat) :: rest }) target → Steps p.tables e below (T.setTop gf) target := by
  obtain ⟨cl, A, S, G⟩ := A
  exact fun t k => X.iaload hx (by rw [eT]; exact A.1) (State.isArrayOf_alike hZ.alike A.2.1) A.2.2 (own_in S h0 h1) (G j.toInt.toNat (by omega)) hg hs hd t k
theorem own_ldJ {g : Nat → Int64} (A : OwnA Z h a .long n (jv' g)) (X : Stand p l e R s m args below meth c T locs cells slots) (hx : p.tables.exec = Jvm.exec) (hZ : Z.Warmed39 s.vm) (eT : T.heap = h) {j : Int32} (h0 : 0 ≤ j.toInt) (h1 : j.toInt < n) {gf : JFrame} (hg : gf.method = m) {rest : List Value} (hs : gf.stack = .int j :: .ref a :: rest) (hd : decode c.code gf.pc = .ok (.laload, 1)) :
    ∀ target, Steps p.tables e below (T.setTop { gf with pc := gf.pc + 1, stack := .long (g j.toInt.toNat) :: rest }) target → Steps p.tables e below (T.setTop gf) target := by
  obtain ⟨cl, A, S, G⟩ := A
  exact fun t k => X.laload hx (by rw [eT]; exact A.1) (State.isArrayOf_alike hZ.alike A.2.1) A.2.2 (own_in S h0 h1) (G j.toInt.toNat (by omega)) hg hs hd t k
theorem own_len (A : OwnA Z h a ty n f) (X : Stand p l e R s m args below meth c T locs cells slots) (hx : p.tables.exec = Jvm.exec) (hZ : Z.Warmed39 s.vm) (eT : T.heap = h) {gf : JFrame} (hg : gf.method = m) {rest : List Value} (hs : gf.stack = .ref a :: rest) (hd : decode c.code gf.pc = .ok (.arraylength, 1)) :
    ∀ target, Steps p.tables e below (T.setTop { gf with pc := gf.pc + 1, stack := .int n.toInt32 :: rest }) target → Steps p.tables e below (T.setTop gf) target := by
  obtain ⟨cl, A, S, G⟩ := A
  subst S
  exact fun t k => X.arraylength hx (by rw [eT]; exact A.1) (State.isArrayOf_alike hZ.alike A.2.1) hg hs hd t k
theorem own_stB {g : Nat → Int32} (A : OwnA Z h a .byte n (iv' g)) (X : Stand p l e R s m args below meth c T locs cells slots) (hx : p.tables.exec = Jvm.exec) (hZ : Z.Warmed39 s.vm) (eT : T.heap = h) {j x : Int32} (h0 : 0 ≤ j.toInt) (h1 : j.toInt < n) {gf : JFrame} (hg : gf.method = m) {rest : List Value} (hs : gf.stack = .int x :: .int j :: .ref a :: rest) (hd : decode c.code gf.pc = .ok (.bastore, 1)) :
    ∃ T' h', Stand p l e R s m args below meth c T' (locs ++ [⟨a, j.toNatClampNeg⟩]) cells slots ∧ T'.heap = h' ∧ Wr h h' a j.toNatClampNeg (.int (nar .byte x)) ∧ OwnA Z h' a .byte n (iv' (updv g j.toInt.toNat x.toInt8.toInt32)) ∧ ∀ target, Steps p.tables e below (T'.setTop { gf with pc := gf.pc + 1, stack := rest }) target → Steps p.tables e below (T.setTop gf) target := by
  obtain ⟨cl, A, S, G⟩ := A
  obtain ⟨T', h', X', e', W, st⟩ := stB X hx hZ eT A (own_in S h0 h1) hg hs hd
  refine ⟨T', h', X', e', W, OwnA.congr (own_set A S G W (by show j.toInt.toNat < n; omega)) fun i hi => ?_, st⟩
  show (if i = j.toInt.toNat then Value.int (x.toInt8.toInt32) else .int (g i)) = .int (if i = j.toInt.toNat then x.toInt8.toInt32 else g i)
  by_cases u : i = j.toInt.toNat
  · rw [if_pos u, if_pos u]
  · rw [if_neg u, if_neg u]
theorem own_stI {g : Nat → Int32} (A : OwnA Z h a .int n (iv' g)) (X : Stand p l e R s m args below meth c T locs cells slots) (hx : p.tables.exec = Jvm.exec) (hZ : Z.Warmed39 s.vm) (eT : T.heap = h) {j x : Int32} (h0 : 0 ≤ j.toInt) (h1 : j.toInt < n) {gf : JFrame} (hg : gf.method = m) {rest : List Value} (hs : gf.stack = .int x :: .int j :: .ref a :: rest) (hd : decode c.code gf.pc = .ok (.iastore, 1)) :
    ∃ T' h', Stand p l e R s m args below meth c T' (locs ++ [⟨a, j.toNatClampNeg⟩]) cells slots ∧ T'.heap = h' ∧ Wr h h' a j.toNatClampNeg (.int x) ∧ OwnA Z h' a .int n (iv' (updv g j.toInt.toNat x)) ∧ ∀ target, Steps p.tables e below (T'.setTop { gf with pc := gf.pc + 1, stack := rest }) target → Steps p.tables e below (T.setTop gf) target := by
  obtain ⟨cl, A, S, G⟩ := A
  obtain ⟨T', h', X', e', W, st⟩ := stI X hx hZ eT A (own_in S h0 h1) hg hs hd
  refine ⟨T', h', X', e', W, OwnA.congr (own_set A S G W (by show j.toInt.toNat < n; omega)) fun i hi => ?_, st⟩
  show (if i = j.toInt.toNat then Value.int x else .int (g i)) = .int (if i = j.toInt.toNat then x else g i)
  by_cases u : i = j.toInt.toNat
  · rw [if_pos u, if_pos u]
  · rw [if_neg u, if_neg u]
theorem own_stJ {g : Nat → Int64} (A : OwnA Z h a .long n (jv' g)) (X : Stand p l e R s m args below meth c T locs cells slots) (hx : p.tables.exec = Jvm.exec) (hZ : Z.Warmed39 s.vm) (eT : T.heap = h) {j : Int32} {x : Int64} (h0 : 0 ≤ j.toInt) (h1 : j.toInt < n) {gf : JFrame} (hg : gf.method = m) {rest : List Value} (hs : gf.stack = .long x :: .int j :: .ref a :: rest) (hd : decode c.code gf.pc = .ok (.lastore, 1)) :
    ∃ T' h', Stand p l e R s m args below meth c T' (locs ++ [⟨a, j.toNatClampNeg⟩]) cells slots ∧ T'.heap = h' ∧ Wr h h' a j.toNatClampNeg (.long x) ∧ OwnA Z h' a .long n (jv' (updv g j.toInt.toNat x)) ∧ ∀ target, Steps p.tables e below (T'.setTop { gf with pc := gf.pc + 1, stack := rest }) target → Steps p.tables e below (T.setTop gf) target := by
  obtain ⟨cl, A, S, G⟩ := A
  obtain ⟨T', h', X', e', W, st⟩ := stJ X hx hZ eT A (own_in S h0 h1) hg hs hd
  refine ⟨T', h', X', e', W, OwnA.congr (own_set A S G W (by show j.toInt.toNat < n; omega)) fun i hi => ?_, st⟩
  show (if i = j.toInt.toNat then Value.long x else .long (g i)) = .long (if i = j.toInt.toNat then x else g i)
  by_cases u : i = j.toInt.toNat
  · rw [if_pos u, if_pos u]
  · rw [if_neg u, if_neg u]
theorem own_newA {k : ClassId} {z : Int32} (A : Arr Z h a (newA k ty z) ty) (hn : z.toInt = n) : OwnA Z h a ty n (fun _ => defaultValue ty) := by
  have e1 : z.toNatClampNeg = n := by show z.toInt.toNat = n; omega
  refine ⟨_, A, by rw [sz_new]; exact e1, fun i hi => ?_⟩
  show (Array.replicate z.toNatClampNeg (defaultValue ty))[i]? = _
  rw [e1, Array.getElem?_replicate, if_pos hi]
end Arrays
end Jvm.OwnKit
namespace Jvm.OwnKit
open Jvm.RoadKit
theorem own_split {w : Nat} (x m : BitVec w) : (x &&& ~~~m) + (x &&& m) = x := by
  rw [BitVec.add_eq_or_of_and_eq_zero]
  · ext i hi
    simp only [BitVec.getElem_or, BitVec.getElem_and, BitVec.getElem_not]
    cases x[i] <;> cases m[i] <;> rfl
  · ext i hi
    simp only [BitVec.getElem_and, BitVec.getElem_not, BitVec.getElem_zero]
    cases x[i] <;> cases m[i] <;> rfl
theorem own_hi (x m m' : Int32) (h : m' = ~~~m) : (x &&& m') + (x &&& m) = x := by
  subst h
  exact Int32.toBitVec_inj.mp (own_split x.toBitVec m.toBitVec)
theorem own_irem (x y : Int32) : x - (x / y) * y = x % y := by
  apply Int32.toInt_inj.mp
  have h1 := rng32 (x % y)
  have e := Int.mul_tdiv_add_tmod x.toInt y.toInt
  rw [Int32.toInt_mod] at h1 ⊢
  rw [Int32.toInt_sub, Int32.toInt_mul, Int32.toInt_div, Int.bmod_mul_bmod, Int.sub_bmod_bmod]
  rw [show x.toInt - x.toInt.tdiv y.toInt * y.toInt = x.toInt.tmod y.toInt by rw [Int.mul_comm]; omega]
  exact Int.bmod_eq_of_le_mul_two (by omega) (by omega)
end Jvm.OwnKit
namespace Jvm.OwnKit
open Jvm.RoadKit
theorem own_lushr (x : Int64) (q : Int32) (k : Nat) (hk : q.toBitVec.toNat % 64 = k) : ((x.toUInt64 >>> (q &&& 0x3f).toInt64.toUInt64).toInt64).toBitVec = x.toBitVec >>> k := by
  have h5 := (sm64 q k hk).2
  show x.toBitVec >>> ((q &&& 0x3f).toInt64.toBitVec % 64) = _
  rw [BitVec.ushiftRight_eq', BitVec.toNat_umod, (sm64 q k hk).1, BitVec.toNat_ofNat]
  congr 1
  show k % 2 ^ 64 % 64 = k
  omega
theorem own_lshl (x : Int64) (q : Int32) (k : Nat) (hk : q.toBitVec.toNat % 64 = k) : (x <<< (q &&& 0x3f).toInt64).toBitVec = x.toBitVec <<< k := by
  have h5 := (sm64 q k hk).2
  show x.toBitVec <<< ((q &&& 0x3f).toInt64.toBitVec.smod 64) = _
  rw [BitVec.shiftLeft_eq', (sm64 q k hk).1, smod64 k h5]
end Jvm.OwnKit
namespace Jvm.Pilot.@@N@@
open Jvm Jvm.ClassFile Sem Op Lib Jvm.Free Jvm.Stand Jvm.LawKit Jvm.RoadKit Bundle Jvm.Pilot.@@N@@.Jvm.D Jvm.OwnKit
/-- the i-th octet of v, of n octets -/
def own_dg (q3 : Int64) (p4 : Int32) : Int32 := ((((q3.toUInt64 >>> (((7 : Int32) * p4) &&& 0x3f).toInt64.toUInt64).toInt64) &&& (127 : Int64)).toInt32)
def own_oc (q3 : Int64) (p4 p5 : Int32) : Int32 := ((if p4 < (p5 - (1 : Int32)) then (((((q3.toUInt64 >>> (((7 : Int32) * p4) &&& 0x3f).toInt64.toUInt64).toInt64) &&& (127 : Int64)).toInt32) ||| (128 : Int32)) else ((((q3.toUInt64 >>> (((7 : Int32) * p4) &&& 0x3f).toInt64.toUInt64).toInt64) &&& (127 : Int64)).toInt32)).toInt8.toInt32)
def F1 (p2 : Int32) (q3 : Int64) (p4 p5 : Int32) (g : Nat → Int32) : Nat → Int32 := if p4 < p5 then (updv g (p2 + p4).toInt.toNat (own_oc q3 p4 p5)) else g
theorem own_ad (i k : Int32) (h0 : 0 ≤ i.toInt ∧ i.toInt ≤ 3) (h1 : 0 ≤ k.toInt ∧ k.toInt ≤ 9) : (i + k).toInt = i.toInt + k.toInt := by
  have h := c_iadd i k
  have r := rng32 (i + k)
  omega
theorem d1_0 : decode method_2_code 0 = .ok (.iload 4, 2) := by decide +kernel
theorem d1_2 : decode method_2_code 2 = .ok (.iload 5, 2) := by decide +kernel
theorem d1_4 : decode method_2_code 4 = .ok (.if_icmp .ge 43, 3) := by decide +kernel
theorem d1_7 : decode method_2_code 7 = .ok (.lload_n 2, 1) := by decide +kernel
theorem d1_8 : decode method_2_code 8 = .ok (.bipush 7, 2) := by decide +kernel
theorem d1_10 : decode method_2_code 10 = .ok (.iload 4, 2) := by decide +kernel
theorem d1_12 : decode method_2_code 12 = .ok (.imul, 1) := by decide +kernel
theorem d1_13 : decode method_2_code 13 = .ok (.lushr, 1) := by decide +kernel
theorem d1_14 : decode method_2_code 14 = .ok (.ldc2_w 7, 3) := by decide +kernel
theorem d1_17 : decode method_2_code 17 = .ok (.land, 1) := by decide +kernel
theorem d1_18 : decode method_2_code 18 = .ok (.l2i, 1) := by decide +kernel
theorem d1_19 : decode method_2_code 19 = .ok (.istore 6, 2) := by decide +kernel
theorem d1_21 : decode method_2_code 21 = .ok (.iload 4, 2) := by decide +kernel
theorem d1_23 : decode method_2_code 23 = .ok (.iload 5, 2) := by decide +kernel
theorem d1_25 : decode method_2_code 25 = .ok (.iconst 1, 1) := by decide +kernel
theorem d1_26 : decode method_2_code 26 = .ok (.isub, 1) := by decide +kernel
theorem d1_27 : decode method_2_code 27 = .ok (.if_icmp .ge 11, 3) := by decide +kernel
theorem d1_30 : decode method_2_code 30 = .ok (.iload 6, 2) := by decide +kernel
theorem d1_32 : decode method_2_code 32 = .ok (.sipush 128, 3) := by decide +kernel
theorem d1_35 : decode method_2_code 35 = .ok (.ior, 1) := by decide +kernel
theorem d1_36 : decode method_2_code 36 = .ok (.istore 6, 2) := by decide +kernel
theorem d1_38 : decode method_2_code 38 = .ok (.aload_n 0, 1) := by decide +kernel
theorem d1_39 : decode method_2_code 39 = .ok (.iload_n 1, 1) := by decide +kernel
theorem d1_40 : decode method_2_code 40 = .ok (.iload 4, 2) := by decide +kernel
theorem d1_42 : decode method_2_code 42 = .ok (.iadd, 1) := by decide +kernel
theorem d1_43 : decode method_2_code 43 = .ok (.iload 6, 2) := by decide +kernel
theorem d1_45 : decode method_2_code 45 = .ok (.i2b, 1) := by decide +kernel
theorem d1_46 : decode method_2_code 46 = .ok (.bastore, 1) := by decide +kernel
theorem d1_47 : decode method_2_code 47 = .ok (.return_, 1) := by decide +kernel
theorem pn_1 : plainName "com/example/guessd/guessd/VarintsReadPinLaw" = true := by first | (simp [plainName, overriddenIn]; done) | decide +kernel
theorem ef_1 (m : MethodId) (a1 : Addr) (p2 : Int32) (q3 : Int64) (p4 : Int32) (p5 : Int32) : entryFrame m #[(.ref a1), (.int p2), (.long q3), (.int p4), (.int p5)] 7 = mkF m 0 #[.val (.ref a1), .val (.int p2), .val (.long q3), .second, .val (.int p4), .val (.int p5), .unset] [] := by first | (simp [entryFrame, mkF, argsToLocals, Value.category]; done) | rfl
def Q1 (Z : State) (a1 : Addr) (p2 : Int32) (q3 : Int64) (p4 p5 : Int32) (g : Nat → Int32) (h0 : Heap) (n0 : Nat) (v : Option Value) (h : Heap) (L : List Loc) : Prop := v = none ∧ Fr n0 L ∧ Keep h0 h [a1] ∧ OwnA Z h a1 .byte 13 (iv' (F1 p2 q3 p4 p5 g))
set_option maxRecDepth 65536 in
set_option maxHeartbeats 40000000 in
theorem rm1 (l : Launch) (Z : State) (a0 : Array Value) (hw : ∀ d ∈ tables_1, d.before a0 Z = true) (ws : List Jvm.Cond) (a1 : Addr) (p2 : Int32) (q3 : Int64) (p4 : Int32) (p5 : Int32) (g : Nat → Int32) (h0 : Heap) (n0 : Nat) (Z0 : n0 ≤ h0.size) (gb_a1 : n0 ≤ a1) (A_a1 : OwnA Z h0 a1 .byte 13 (iv' g)) (hs0 : 0 ≤ p2.toInt ∧ p2.toInt ≤ 3) (hs1 : 0 ≤ p4.toInt ∧ p4.toInt ≤ 9) :
    MetFree l (⟨"com/example/guessd/guessd/VarintsReadPinLaw", "put", "([BIJII)V"⟩ : MethodName) (head1 (Jvm.Cond.code (⟨"com/example/guessd/guessd/VarintsReadPinLaw", "put", "([BIJII)V"⟩ : MethodName) method_2_code 7 none :: ws) ({ frames := 0, cells := 0, slots := 0, locals := 0 } : Room)) (fun a U => a = #[(.ref a1), (.int p2), (.long q3), (.int p4), (.int p5)] ∧ Z.Warmed39 U.vm ∧ U.heap = h0) (fun _ _ _ _ _ => True) (fun _ U o U' => ∃ v L, o = .returned v ∧ Q1 Z a1 p2 q3 p4 p5 g h0 n0 v U'.heap L ∧ FrameEnd U o U' L ({ frames := 0, cells := 0, slots := 0, locals := 0 } : Room).cells ({ frames := 0, cells := 0, slots := 0, locals := 0 } : Room).slots) := by
  refine MetFree.of_bodySF (plainFor_of_name pn_1) hisR ?_
  intro p e s m args below meth c s₁ Bd hml0 hP hK
  obtain ⟨rfl, hZ, hh⟩ := hP
  have hx := Bd.exec
  have hby := Bd.bytes
  have hml : c.maxLocals = 7 := hml0
  have hown : s.vm.findClass "com/example/guessd/guessd/VarintsReadPinLaw" = some m.cls := findClass_of_methodNamed Bd.named
  have hnm := (name_of_methodNamed Bd.named Bd.method).1
  have X0 : Stand p l e ({ frames := 0, cells := 0, slots := 0, locals := 0 } : Room) s m #[(.ref a1), (.int p2), (.long q3), (.int p4), (.int p5)] below meth c s₁ [] 0 0 := Stand.of_body Bd
  have e0 : s₁.heap = h0 := by rw [← hh, Bd.state]; rfl
  have N0 := Fr.nil n0
  suffices hG : OwnG p e below s (Q1 Z a1 p2 q3 p4 p5 g h0 n0) ({ frames := 0, cells := 0, slots := 0, locals := 0 } : Room).cells ({ frames := 0, cells := 0, slots := 0, locals := 0 } : Room).slots s₁ (mkF m 0 #[.val (.ref a1), .val (.int p2), .val (.long q3), .second, .val (.int p4), .val (.int p5), .unset] []) by
    obtain ⟨s2, o2, g1, g2⟩ := hG
    exact ⟨s2, o2, castTop (ef_1 m a1 p2 q3 p4 p5) g1, g2⟩
  have sg1 : ∀ tgt, Steps p.tables e below (s₁.setTop (mkF m 4 #[.val (.ref a1), .val (.int p2), .val (.long q3), .second, .val (.int p4), .val (.int p5), .unset] [(.int p5), (.int p4)])) tgt → Steps p.tables e below (s₁.setTop (mkF m 0 #[.val (.ref a1), .val (.int p2), .val (.long q3), .second, .val (.int p4), .val (.int p5), .unset] [])) tgt := by
    intro tgt kt
    refine XS.iload X0.here hx rfl (hb hby d1_0) rfl ?_
    show Steps p.tables e below (s₁.setTop (mkF m 2 #[.val (.ref a1), .val (.int p2), .val (.long q3), .second, .val (.int p4), .val (.int p5), .unset] [(.int p4)])) _
    refine XS.iload X0.here hx rfl (hb hby d1_2) rfl ?_
    show Steps p.tables e below (s₁.setTop (mkF m 4 #[.val (.ref a1), .val (.int p2), .val (.long q3), .second, .val (.int p4), .val (.int p5), .unset] [(.int p5), (.int p4)])) _
    exact kt
  refine OwnG.st sg1 ?_
  by_cases hc4_2 : p4 < p5
  · have sg3 : ∀ tgt, Steps p.tables e below (s₁.setTop (mkF m 27 #[.val (.ref a1), .val (.int p2), .val (.long q3), .second, .val (.int p4), .val (.int p5), .val (.int ((((q3.toUInt64 >>> (((7 : Int32) * p4) &&& 0x3f).toInt64.toUInt64).toInt64) &&& (127 : Int64)).toInt32))] [(.int (p5 - (1 : Int32))), (.int p4)])) tgt → Steps p.tables e below (s₁.setTop (mkF m 4 #[.val (.ref a1), .val (.int p2), .val (.long q3), .second, .val (.int p4), .val (.int p5), .unset] [(.int p5), (.int p4)])) tgt := by
      intro tgt kt
      refine XS.icmpNo X0.here hx rfl (hb hby d1_4) rfl (tlt hc4_2).2.1 ?_
      show Steps p.tables e below (s₁.setTop (mkF m 7 #[.val (.ref a1), .val (.int p2), .val (.long q3), .second, .val (.int p4), .val (.int p5), .unset] [])) _
      refine XS.lloadN X0.here hx rfl (hb hby d1_7) rfl ?_
      show Steps p.tables e below (s₁.setTop (mkF m 8 #[.val (.ref a1), .val (.int p2), .val (.long q3), .second, .val (.int p4), .val (.int p5), .unset] [(.long q3)])) _
      refine XS.bipush X0.here hx rfl (hb hby d1_8) ?_
      show Steps p.tables e below (s₁.setTop (mkF m 10 #[.val (.ref a1), .val (.int p2), .val (.long q3), .second, .val (.int p4), .val (.int p5), .unset] [(.int (7 : Int32)), (.long q3)])) _
      refine XS.iload X0.here hx rfl (hb hby d1_10) rfl ?_
      show Steps p.tables e below (s₁.setTop (mkF m 12 #[.val (.ref a1), .val (.int p2), .val (.long q3), .second, .val (.int p4), .val (.int p5), .unset] [(.int p4), (.int (7 : Int32)), (.long q3)])) _
      refine XS.imul X0.here hx rfl (hb hby d1_12) rfl ?_
      show Steps p.tables e below (s₁.setTop (mkF m 13 #[.val (.ref a1), .val (.int p2), .val (.long q3), .second, .val (.int p4), .val (.int p5), .unset] [(.int ((7 : Int32) * p4)), (.long q3)])) _
      refine XS.lushr X0.here hx rfl (hb hby d1_13) rfl ?_
      show Steps p.tables e below (s₁.setTop (mkF m 14 #[.val (.ref a1), .val (.int p2), .val (.long q3), .second, .val (.int p4), .val (.int p5), .unset] [(.long ((q3.toUInt64 >>> (((7 : Int32) * p4) &&& 0x3f).toInt64.toUInt64).toInt64))])) _
      refine X0.ldc2Long hx hown (mvT hZ (hw _ (List.mem_of_getElem? (i := 6) rfl))) (g := (mkF m 14 #[.val (.ref a1), .val (.int p2), .val (.long q3), .second, .val (.int p4), .val (.int p5), .unset] [(.long ((q3.toUInt64 >>> (((7 : Int32) * p4) &&& 0x3f).toInt64.toUInt64).toInt64))])) rfl (hb hby d1_14) _ ?_
      show Steps p.tables e below (s₁.setTop (mkF m 17 #[.val (.ref a1), .val (.int p2), .val (.long q3), .second, .val (.int p4), .val (.int p5), .unset] [(.long (127 : Int64)), (.long ((q3.toUInt64 >>> (((7 : Int32) * p4) &&& 0x3f).toInt64.toUInt64).toInt64))])) _
      refine XS.land X0.here hx rfl (hb hby d1_17) rfl ?_
      show Steps p.tables e below (s₁.setTop (mkF m 18 #[.val (.ref a1), .val (.int p2), .val (.long q3), .second, .val (.int p4), .val (.int p5), .unset] [(.long (((q3.toUInt64 >>> (((7 : Int32) * p4) &&& 0x3f).toInt64.toUInt64).toInt64) &&& (127 : Int64)))])) _
      refine XS.l2i X0.here hx rfl (hb hby d1_18) rfl ?_
      show Steps p.tables e below (s₁.setTop (mkF m 19 #[.val (.ref a1), .val (.int p2), .val (.long q3), .second, .val (.int p4), .val (.int p5), .unset] [(.int ((((q3.toUInt64 >>> (((7 : Int32) * p4) &&& 0x3f).toInt64.toUInt64).toInt64) &&& (127 : Int64)).toInt32))])) _
      refine XS.istore X0.here hx rfl (hb hby d1_19) rfl (l' := #[.val (.ref a1), .val (.int p2), .val (.long q3), .second, .val (.int p4), .val (.int p5), .val (.int ((((q3.toUInt64 >>> (((7 : Int32) * p4) &&& 0x3f).toInt64.toUInt64).toInt64) &&& (127 : Int64)).toInt32))]) rfl ?_
      show Steps p.tables e below (s₁.setTop (mkF m 21 #[.val (.ref a1), .val (.int p2), .val (.long q3), .second, .val (.int p4), .val (.int p5), .val (.int ((((q3.toUInt64 >>> (((7 : Int32) * p4) &&& 0x3f).toInt64.toUInt64).toInt64) &&& (127 : Int64)).toInt32))] [])) _
      refine XS.iload X0.here hx rfl (hb hby d1_21) rfl ?_
      show Steps p.tables e below (s₁.setTop (mkF m 23 #[.val (.ref a1), .val (.int p2), .val (.long q3), .second, .val (.int p4), .val (.int p5), .val (.int ((((q3.toUInt64 >>> (((7 : Int32) * p4) &&& 0x3f).toInt64.toUInt64).toInt64) &&& (127 : Int64)).toInt32))] [(.int p4)])) _
      refine XS.iload X0.here hx rfl (hb hby d1_23) rfl ?_
      show Steps p.tables e below (s₁.setTop (mkF m 25 #[.val (.ref a1), .val (.int p2), .val (.long q3), .second, .val (.int p4), .val (.int p5), .val (.int ((((q3.toUInt64 >>> (((7 : Int32) * p4) &&& 0x3f).toInt64.toUInt64).toInt64) &&& (127 : Int64)).toInt32))] [(.int p5), (.int p4)])) _
      refine XS.iconst X0.here hx rfl (hb hby d1_25) ?_
      show Steps p.tables e below (s₁.setTop (mkF m 26 #[.val (.ref a1), .val (.int p2), .val (.long q3), .second, .val (.int p4), .val (.int p5), .val (.int ((((q3.toUInt64 >>> (((7 : Int32) * p4) &&& 0x3f).toInt64.toUInt64).toInt64) &&& (127 : Int64)).toInt32))] [(.int (1 : Int32)), (.int p5), (.int p4)])) _
      refine XS.isub X0.here hx rfl (hb hby d1_26) rfl ?_
      show Steps p.tables e below (s₁.setTop (mkF m 27 #[.val (.ref a1), .val (.int p2), .val (.long q3), .second, .val (.int p4), .val (.int p5), .val (.int ((((q3.toUInt64 >>> (((7 : Int32) * p4) &&& 0x3f).toInt64.toUInt64).toInt64) &&& (127 : Int64)).toInt32))] [(.int (p5 - (1 : Int32))), (.int p4)])) _
      exact kt
    refine OwnG.st sg3 ?_
    obtain ⟨z38_5, hz38_5⟩ : ∃ w : Int32, w = (if p4 < (p5 - (1 : Int32)) then (((((q3.toUInt64 >>> (((7 : Int32) * p4) &&& 0x3f).toInt64.toUInt64).toInt64) &&& (127 : Int64)).toInt32) ||| (128 : Int32)) else ((((q3.toUInt64 >>> (((7 : Int32) * p4) &&& 0x3f).toInt64.toUInt64).toInt64) &&& (127 : Int64)).toInt32)) := ⟨_, rfl⟩
    have dj6 : ∀ tgt, Steps p.tables e below (s₁.setTop (mkF m 38 #[.val (.ref a1), .val (.int p2), .val (.long q3), .second, .val (.int p4), .val (.int p5), .val (.int z38_5)] [])) tgt → Steps p.tables e below (s₁.setTop (mkF m 27 #[.val (.ref a1), .val (.int p2), .val (.long q3), .second, .val (.int p4), .val (.int p5), .val (.int ((((q3.toUInt64 >>> (((7 : Int32) * p4) &&& 0x3f).toInt64.toUInt64).toInt64) &&& (127 : Int64)).toInt32))] [(.int (p5 - (1 : Int32))), (.int p4)])) tgt := by
      intro tgt kt
      by_cases hc27_4 : p4 < (p5 - (1 : Int32))
      · have qz38_5 : z38_5 = (((((q3.toUInt64 >>> (((7 : Int32) * p4) &&& 0x3f).toInt64.toUInt64).toInt64) &&& (127 : Int64)).toInt32) ||| (128 : Int32)) := by rw [hz38_5, if_pos hc27_4]
        rw [qz38_5] at kt
        refine XS.icmpNo X0.here hx rfl (hb hby d1_27) rfl (tlt hc27_4).2.1 ?_
        show Steps p.tables e below (s₁.setTop (mkF m 30 #[.val (.ref a1), .val (.int p2), .val (.long q3), .second, .val (.int p4), .val (.int p5), .val (.int ((((q3.toUInt64 >>> (((7 : Int32) * p4) &&& 0x3f).toInt64.toUInt64).toInt64) &&& (127 : Int64)).toInt32))] [])) _
        refine XS.iload X0.here hx rfl (hb hby d1_30) rfl ?_
        show Steps p.tables e below (s₁.setTop (mkF m 32 #[.val (.ref a1), .val (.int p2), .val (.long q3), .second, .val (.int p4), .val (.int p5), .val (.int ((((q3.toUInt64 >>> (((7 : Int32) * p4) &&& 0x3f).toInt64.toUInt64).toInt64) &&& (127 : Int64)).toInt32))] [(.int ((((q3.toUInt64 >>> (((7 : Int32) * p4) &&& 0x3f).toInt64.toUInt64).toInt64) &&& (127 : Int64)).toInt32))])) _
        refine XS.sipush X0.here hx rfl (hb hby d1_32) ?_
        show Steps p.tables e below (s₁.setTop (mkF m 35 #[.val (.ref a1), .val (.int p2), .val (.long q3), .second, .val (.int p4), .val (.int p5), .val (.int ((((q3.toUInt64 >>> (((7 : Int32) * p4) &&& 0x3f).toInt64.toUInt64).toInt64) &&& (127 : Int64)).toInt32))] [(.int (128 : Int32)), (.int ((((q3.toUInt64 >>> (((7 : Int32) * p4) &&& 0x3f).toInt64.toUInt64).toInt64) &&& (127 : Int64)).toInt32))])) _
        refine XS.ior X0.here hx rfl (hb hby d1_35) rfl ?_
        show Steps p.tables e below (s₁.setTop (mkF m 36 #[.val (.ref a1), .val (.int p2), .val (.long q3), .second, .val (.int p4), .val (.int p5), .val (.int ((((q3.toUInt64 >>> (((7 : Int32) * p4) &&& 0x3f).toInt64.toUInt64).toInt64) &&& (127 : Int64)).toInt32))] [(.int (((((q3.toUInt64 >>> (((7 : Int32) * p4) &&& 0x3f).toInt64.toUInt64).toInt64) &&& (127 : Int64)).toInt32) ||| (128 : Int32)))])) _
        refine XS.istore X0.here hx rfl (hb hby d1_36) rfl (l' := #[.val (.ref a1), .val (.int p2), .val (.long q3), .second, .val (.int p4), .val (.int p5), .val (.int (((((q3.toUInt64 >>> (((7 : Int32) * p4) &&& 0x3f).toInt64.toUInt64).toInt64) &&& (127 : Int64)).toInt32) ||| (128 : Int32)))]) rfl ?_
        show Steps p.tables e below (s₁.setTop (mkF m 38 #[.val (.ref a1), .val (.int p2), .val (.long q3), .second, .val (.int p4), .val (.int p5), .val (.int (((((q3.toUInt64 >>> (((7 : Int32) * p4) &&& 0x3f).toInt64.toUInt64).toInt64) &&& (127 : Int64)).toInt32) ||| (128 : Int32)))] [])) _
        exact kt
      · have qz38_5 : z38_5 = ((((q3.toUInt64 >>> (((7 : Int32) * p4) &&& 0x3f).toInt64.toUInt64).toInt64) &&& (127 : Int64)).toInt32) := by rw [hz38_5, if_neg hc27_4]
        rw [qz38_5] at kt
        refine XS.icmpYes X0.here hx rfl (pc0 := 27) (pc' := 38) rfl (hb hby d1_27) rfl (flt hc27_4).2.1 (by decide) (by decide) ?_
        show Steps p.tables e below (s₁.setTop (mkF m 38 #[.val (.ref a1), .val (.int p2), .val (.long q3), .second, .val (.int p4), .val (.int p5), .val (.int ((((q3.toUInt64 >>> (((7 : Int32) * p4) &&& 0x3f).toInt64.toUInt64).toInt64) &&& (127 : Int64)).toInt32))] [])) _
        exact kt
    refine OwnG.st dj6 ?_
    have sg7 : ∀ tgt, Steps p.tables e below (s₁.setTop (mkF m 46 #[.val (.ref a1), .val (.int p2), .val (.long q3), .second, .val (.int p4), .val (.int p5), .val (.int z38_5)] [(.int (z38_5.toInt8.toInt32)), (.int (p2 + p4)), (.ref a1)])) tgt → Steps p.tables e below (s₁.setTop (mkF m 38 #[.val (.ref a1), .val (.int p2), .val (.long q3), .second, .val (.int p4), .val (.int p5), .val (.int z38_5)] [])) tgt := by
      intro tgt kt
      refine XS.aloadN X0.here hx rfl (hb hby d1_38) rfl rfl ?_
      show Steps p.tables e below (s₁.setTop (mkF m 39 #[.val (.ref a1), .val (.int p2), .val (.long q3), .second, .val (.int p4), .val (.int p5), .val (.int z38_5)] [(.ref a1)])) _
      refine XS.iloadN X0.here hx rfl (hb hby d1_39) rfl ?_
      show Steps p.tables e below (s₁.setTop (mkF m 40 #[.val (.ref a1), .val (.int p2), .val (.long q3), .second, .val (.int p4), .val (.int p5), .val (.int z38_5)] [(.int p2), (.ref a1)])) _
      refine XS.iload X0.here hx rfl (hb hby d1_40) rfl ?_
      show Steps p.tables e below (s₁.setTop (mkF m 42 #[.val (.ref a1), .val (.int p2), .val (.long q3), .second, .val (.int p4), .val (.int p5), .val (.int z38_5)] [(.int p4), (.int p2), (.ref a1)])) _
      refine XS.iadd X0.here hx rfl (hb hby d1_42) rfl ?_
      show Steps p.tables e below (s₁.setTop (mkF m 43 #[.val (.ref a1), .val (.int p2), .val (.long q3), .second, .val (.int p4), .val (.int p5), .val (.int z38_5)] [(.int (p2 + p4)), (.ref a1)])) _
      refine XS.iload X0.here hx rfl (hb hby d1_43) rfl ?_
      show Steps p.tables e below (s₁.setTop (mkF m 45 #[.val (.ref a1), .val (.int p2), .val (.long q3), .second, .val (.int p4), .val (.int p5), .val (.int z38_5)] [(.int z38_5), (.int (p2 + p4)), (.ref a1)])) _
      refine XS.i2b X0.here hx rfl (hb hby d1_45) rfl ?_
      show Steps p.tables e below (s₁.setTop (mkF m 46 #[.val (.ref a1), .val (.int p2), .val (.long q3), .second, .val (.int p4), .val (.int p5), .val (.int z38_5)] [(.int (z38_5.toInt8.toInt32)), (.int (p2 + p4)), (.ref a1)])) _
      exact kt
    refine OwnG.st sg7 ?_
    obtain ⟨T8, h8, X8, e8, W8, V8, st8⟩ := own_stB A_a1 X0 hx hZ e0 (by rw [own_ad p2 p4 hs0 hs1]; omega) (by rw [own_ad p2 p4 hs0 hs1]; show _ < (13 : Int); omega) (gf := (mkF m 46 #[.val (.ref a1), .val (.int p2), .val (.long q3), .second, .val (.int p4), .val (.int p5), .val (.int z38_5)] [(.int (z38_5.toInt8.toInt32)), (.int (p2 + p4)), (.ref a1)])) rfl rfl (hb hby d1_46)
    have V8' : OwnA Z h8 a1 .byte 13 (iv' (updv g (p2 + p4).toInt.toNat (z38_5.toInt8.toInt32))) := by have q := V8; rw [Int8.toInt8_toInt32] at q; exact q
    have N8 := Fr.snoc X8 N0 gb_a1
    have Z8 : n0 ≤ h8.size := by rw [W8.size]; exact Z0
    have K8 : Keep h0 h8 [a1] := (Keep.refl h0 [a1]).wr W8 (Or.inl (by simp))
    refine OwnG.st st8 ?_
    show OwnG p e below s _ _ _ T8 (mkF m 47 #[.val (.ref a1), .val (.int p2), .val (.long q3), .second, .val (.int p4), .val (.int p5), .val (.int z38_5)] [])
    subst hz38_5
    have hV : OwnA Z h8 a1 .byte 13 (iv' (F1 p2 q3 p4 p5 g)) := by simp only [F1, if_pos hc4_2]; exact V8'
    exact OwnG.retV X8 hx Bd.returns (BodyLoose.notSynchronized Bd) (hb hby d1_47) (by rw [e8]; exact ⟨rfl, N8, K8, hV⟩) (by decide) (by decide)
  · have sg9 : ∀ tgt, Steps p.tables e below (s₁.setTop (mkF m 47 #[.val (.ref a1), .val (.int p2), .val (.long q3), .second, .val (.int p4), .val (.int p5), .unset] [])) tgt → Steps p.tables e below (s₁.setTop (mkF m 4 #[.val (.ref a1), .val (.int p2), .val (.long q3), .second, .val (.int p4), .val (.int p5), .unset] [(.int p5), (.int p4)])) tgt := by
      intro tgt kt
      refine XS.icmpYes X0.here hx rfl (pc0 := 4) (pc' := 47) rfl (hb hby d1_4) rfl (flt hc4_2).2.1 (by decide) (by decide) ?_
      show Steps p.tables e below (s₁.setTop (mkF m 47 #[.val (.ref a1), .val (.int p2), .val (.long q3), .second, .val (.int p4), .val (.int p5), .unset] [])) _
      exact kt
    refine OwnG.st sg9 ?_
    have hV : OwnA Z h0 a1 .byte 13 (iv' (F1 p2 q3 p4 p5 g)) := by simp only [F1, if_neg hc4_2]; exact A_a1
    exact OwnG.retV X0 hx Bd.returns (BodyLoose.notSynchronized Bd) (hb hby d1_47) (by rw [e0]; exact ⟨rfl, N0, (Keep.refl h0 [a1]), hV⟩) (by decide) (by decide)
def own_acc (g : Nat → Int32) (a : Nat) : Nat → Int64
  | 0 => 0
  | j + 1 => own_acc g a j ||| (((g (a + j)) &&& (127 : Int32)).toInt64 <<< ((Int32.ofNat (7 * j)) &&& 0x3f).toInt64)
theorem own_as (g : Nat → Int32) (a j : Nat) : own_acc g a (j + 1) = own_acc g a j ||| (((g (a + j)) &&& (127 : Int32)).toInt64 <<< ((Int32.ofNat (7 * j)) &&& 0x3f).toInt64) := rfl
theorem own_lo (x : Int32) (h0 : ¬ x < 0) (h1 : x.toInt ≤ 127) : x &&& (127 : Int32) = x := by
  have h := c_mask x 127 7 (by decide) (by decide)
  rw [Int32.lt_iff_toInt_lt, show (0 : Int32).toInt = 0 from rfl] at h0
  rw [← Int32.toInt_inj]; omega
theorem own_first (g : Nat → Int32) (a : Nat) : own_acc g a 1 = ((g a) &&& (127 : Int32)).toInt64 := by
  apply Int64.toBitVec_inj.mp
  rw [own_as, Int64.toBitVec_or, own_lshl _ (Int32.ofNat (7 * 0)) 0 (by decide), BitVec.shiftLeft_zero, Nat.add_zero]
  show 0#64 ||| _ = _
  rw [BitVec.zero_or]
theorem own_first' (x : Int32) : ((x.toInt64) &&& (127 : Int64)) = (x &&& (127 : Int32)).toInt64 := by
  have h1 := c_mask x 127 7 (by decide) (by decide)
  have h2 := c_maskL x.toInt64 127 7 (by decide) (by decide)
  have h3 := c_i2l x
  have h4 := c_i2l (x &&& (127 : Int32))
  rw [← Int64.toInt_inj]; omega
theorem own_neg (x : Int32) : x.toInt64 < (0 : Int64) ↔ x < (0 : Int32) := by
  have h3 := c_i2l x
  rw [Int64.lt_iff_toInt_lt, Int32.lt_iff_toInt_lt, h3]; rfl
theorem own_i1 (i : Int32) (h0 : 0 ≤ i.toInt) (h1 : i.toInt < 1000) : (i + 1).toInt = i.toInt + 1 ∧ (i + 1).toInt.toNat = i.toInt.toNat + 1 := by
  have h := c_iadd i 1
  have r := rng32 (i + 1)
  have e : (1 : Int32).toInt = 1 := rfl
  omega
theorem own_s7 (j : Nat) (h : j ≤ 20) : Int32.ofNat (7 * j) + 7 = Int32.ofNat (7 * (j + 1)) := by
  rw [Nat.mul_add, Int32.ofNat_add]; rfl
theorem d2_0 : decode prog_27_method_3_code 0 = .ok (.aload_n 0, 1) := by decide +kernel
theorem d2_1 : decode prog_27_method_3_code 1 = .ok (.iload_n 1, 1) := by decide +kernel
theorem d2_2 : decode prog_27_method_3_code 2 = .ok (.baload, 1) := by decide +kernel
theorem d2_3 : decode prog_27_method_3_code 3 = .ok (.i2l, 1) := by decide +kernel
theorem d2_4 : decode prog_27_method_3_code 4 = .ok (.lstore_n 2, 1) := by decide +kernel
theorem d2_5 : decode prog_27_method_3_code 5 = .ok (.lload_n 2, 1) := by decide +kernel
theorem d2_6 : decode prog_27_method_3_code 6 = .ok (.lconst 0, 1) := by decide +kernel
theorem d2_7 : decode prog_27_method_3_code 7 = .ok (.lcmp, 1) := by decide +kernel
theorem d2_8 : decode prog_27_method_3_code 8 = .ok (.ifCond .ge 47, 3) := by decide +kernel
theorem d2_11 : decode prog_27_method_3_code 11 = .ok (.lload_n 2, 1) := by decide +kernel
theorem d2_12 : decode prog_27_method_3_code 12 = .ok (.ldc2_w 9, 3) := by decide +kernel
theorem d2_15 : decode prog_27_method_3_code 15 = .ok (.land, 1) := by decide +kernel
theorem d2_16 : decode prog_27_method_3_code 16 = .ok (.lstore_n 2, 1) := by decide +kernel
theorem d2_17 : decode prog_27_method_3_code 17 = .ok (.bipush 7, 2) := by decide +kernel
theorem d2_19 : decode prog_27_method_3_code 19 = .ok (.istore 4, 2) := by decide +kernel
theorem d2_21 : decode prog_27_method_3_code 21 = .ok (.iload_n 1, 1) := by decide +kernel
theorem d2_22 : decode prog_27_method_3_code 22 = .ok (.iconst 1, 1) := by decide +kernel
theorem d2_23 : decode prog_27_method_3_code 23 = .ok (.iadd, 1) := by decide +kernel
theorem d2_24 : decode prog_27_method_3_code 24 = .ok (.istore 5, 2) := by decide +kernel
theorem d2_26 : decode prog_27_method_3_code 26 = .ok (.aload_n 0, 1) := by decide +kernel
theorem d2_27 : decode prog_27_method_3_code 27 = .ok (.iload 5, 2) := by decide +kernel
theorem d2_29 : decode prog_27_method_3_code 29 = .ok (.baload, 1) := by decide +kernel
theorem d2_30 : decode prog_27_method_3_code 30 = .ok (.istore 6, 2) := by decide +kernel
theorem d2_32 : decode prog_27_method_3_code 32 = .ok (.iinc 5 1, 3) := by decide +kernel
theorem d2_35 : decode prog_27_method_3_code 35 = .ok (.lload_n 2, 1) := by decide +kernel
theorem d2_36 : decode prog_27_method_3_code 36 = .ok (.iload 6, 2) := by decide +kernel
theorem d2_38 : decode prog_27_method_3_code 38 = .ok (.bipush 127, 2) := by decide +kernel
theorem d2_40 : decode prog_27_method_3_code 40 = .ok (.iand, 1) := by decide +kernel
theorem d2_41 : decode prog_27_method_3_code 41 = .ok (.i2l, 1) := by decide +kernel
theorem d2_42 : decode prog_27_method_3_code 42 = .ok (.iload 4, 2) := by decide +kernel
theorem d2_44 : decode prog_27_method_3_code 44 = .ok (.lshl, 1) := by decide +kernel
theorem d2_45 : decode prog_27_method_3_code 45 = .ok (.lor, 1) := by decide +kernel
theorem d2_46 : decode prog_27_method_3_code 46 = .ok (.lstore_n 2, 1) := by decide +kernel
theorem d2_47 : decode prog_27_method_3_code 47 = .ok (.iinc 4 7, 3) := by decide +kernel
theorem d2_50 : decode prog_27_method_3_code 50 = .ok (.iload 6, 2) := by decide +kernel
theorem d2_52 : decode prog_27_method_3_code 52 = .ok (.ifCond .lt (-26), 3) := by decide +kernel
theorem d2_55 : decode prog_27_method_3_code 55 = .ok (.lload_n 2, 1) := by decide +kernel
theorem d2_56 : decode prog_27_method_3_code 56 = .ok (.lreturn, 1) := by decide +kernel
theorem pn_2 : plainName "com/example/guessd/guessd/Varints" = true := by first | (simp [plainName, overriddenIn]; done) | decide +kernel
theorem ef_2 (m : MethodId) (a1 : Addr) (p2 : Int32) : entryFrame m #[(.ref a1), (.int p2)] 7 = mkF m 0 #[.val (.ref a1), .val (.int p2), .unset, .unset, .unset, .unset, .unset] [] := by first | (simp [entryFrame, mkF, argsToLocals, Value.category]; done) | rfl
def Q2 (Z : State) (a1 : Addr) (p2 : Int32) (M : Nat) (g : Nat → Int32) (h0 : Heap) (n0 : Nat) (v : Option Value) (h : Heap) (L : List Loc) : Prop := v = some (.long (own_acc g p2.toInt.toNat M)) ∧ Fr n0 L ∧ h = h0
set_option maxRecDepth 65536 in
set_option maxHeartbeats 40000000 in
theorem rm2 (l : Launch) (Z : State) (a0 : Array Value) (hw : ∀ d ∈ tables_1, d.before a0 Z = true) (ws : List Jvm.Cond) (a1 : Addr) (p2 : Int32) (M : Nat) (g : Nat → Int32) (h0 : Heap) (n0 : Nat) (Z0 : n0 ≤ h0.size) (A_a1 : OwnA Z h0 a1 .byte 13 (iv' g)) (hs0 : 0 ≤ p2.toInt ∧ p2.toInt ≤ 3) (hN : 1 ≤ M ∧ M ≤ 9) (hneg : ∀ j, j + 1 < M → g (p2.toInt.toNat + j) < (0 : Int32)) (hpos : ¬ g (p2.toInt.toNat + (M - 1)) < (0 : Int32)) (hrng : ∀ i, i < 13 → (g i).toInt ≤ 127) :
    MetFree l (⟨"com/example/guessd/guessd/Varints", "read", "([BI)J"⟩ : MethodName) (head1 (Jvm.Cond.code (⟨"com/example/guessd/guessd/Varints", "read", "([BI)J"⟩ : MethodName) prog_27_method_3_code 7 (some .long) :: ws) ({ frames := 0, cells := 0, slots := 0, locals := 0 } : Room)) (fun a U => a = #[(.ref a1), (.int p2)] ∧ Z.Warmed39 U.vm ∧ U.heap = h0) (fun _ _ _ _ _ => True) (fun _ U o U' => ∃ v L, o = .returned v ∧ Q2 Z a1 p2 M g h0 n0 v U'.heap L ∧ FrameEnd U o U' L ({ frames := 0, cells := 0, slots := 0, locals := 0 } : Room).cells ({ frames := 0, cells := 0, slots := 0, locals := 0 } : Room).slots) := by
  refine MetFree.of_bodySF (plainFor_of_name pn_2) hisR ?_
  intro p e s m args below meth c s₁ Bd hml0 hP hK
  obtain ⟨rfl, hZ, hh⟩ := hP
  have hx := Bd.exec
  have hby := Bd.bytes
  have hml : c.maxLocals = 7 := hml0
  have hown : s.vm.findClass "com/example/guessd/guessd/Varints" = some m.cls := findClass_of_methodNamed Bd.named
  have hnm := (name_of_methodNamed Bd.named Bd.method).1
  have X0 : Stand p l e ({ frames := 0, cells := 0, slots := 0, locals := 0 } : Room) s m #[(.ref a1), (.int p2)] below meth c s₁ [] 0 0 := Stand.of_body Bd
  have e0 : s₁.heap = h0 := by rw [← hh, Bd.state]; rfl
  have N0 := Fr.nil n0
  suffices hG : OwnG p e below s (Q2 Z a1 p2 M g h0 n0) ({ frames := 0, cells := 0, slots := 0, locals := 0 } : Room).cells ({ frames := 0, cells := 0, slots := 0, locals := 0 } : Room).slots s₁ (mkF m 0 #[.val (.ref a1), .val (.int p2), .unset, .unset, .unset, .unset, .unset] []) by
    obtain ⟨s2, o2, g1, g2⟩ := hG
    exact ⟨s2, o2, castTop (ef_2 m a1 p2) g1, g2⟩
  have sg1 : ∀ tgt, Steps p.tables e below (s₁.setTop (mkF m 8 #[.val (.ref a1), .val (.int p2), .val (.long ((g p2.toInt.toNat).toInt64)), .second, .unset, .unset, .unset] [(.int (lcmpW ((g p2.toInt.toNat).toInt64) (0 : Int64)))])) tgt → Steps p.tables e below (s₁.setTop (mkF m 0 #[.val (.ref a1), .val (.int p2), .unset, .unset, .unset, .unset, .unset] [])) tgt := by
    intro tgt kt
    refine XS.aloadN X0.here hx rfl (hb hby d2_0) rfl rfl ?_
    show Steps p.tables e below (s₁.setTop (mkF m 1 #[.val (.ref a1), .val (.int p2), .unset, .unset, .unset, .unset, .unset] [(.ref a1)])) _
    refine XS.iloadN X0.here hx rfl (hb hby d2_1) rfl ?_
    show Steps p.tables e below (s₁.setTop (mkF m 2 #[.val (.ref a1), .val (.int p2), .unset, .unset, .unset, .unset, .unset] [(.int p2), (.ref a1)])) _
    refine own_ldB A_a1 X0 hx hZ e0 (by omega) (by show _ < (13 : Int); omega) (gf := (mkF m 2 #[.val (.ref a1), .val (.int p2), .unset, .unset, .unset, .unset, .unset] [(.int p2), (.ref a1)])) rfl rfl (hb hby d2_2) _ ?_
    show Steps p.tables e below (s₁.setTop (mkF m 3 #[.val (.ref a1), .val (.int p2), .unset, .unset, .unset, .unset, .unset] [(.int (g p2.toInt.toNat))])) _
    refine XS.i2l X0.here hx rfl (hb hby d2_3) rfl ?_
    show Steps p.tables e below (s₁.setTop (mkF m 4 #[.val (.ref a1), .val (.int p2), .unset, .unset, .unset, .unset, .unset] [(.long ((g p2.toInt.toNat).toInt64))])) _
    refine XS.lstoreN X0.here hx rfl (hb hby d2_4) rfl (l' := #[.val (.ref a1), .val (.int p2), .val (.long ((g p2.toInt.toNat).toInt64)), .second, .unset, .unset, .unset]) rfl ?_
    show Steps p.tables e below (s₁.setTop (mkF m 5 #[.val (.ref a1), .val (.int p2), .val (.long ((g p2.toInt.toNat).toInt64)), .second, .unset, .unset, .unset] [])) _
    refine XS.lloadN X0.here hx rfl (hb hby d2_5) rfl ?_
    show Steps p.tables e below (s₁.setTop (mkF m 6 #[.val (.ref a1), .val (.int p2), .val (.long ((g p2.toInt.toNat).toInt64)), .second, .unset, .unset, .unset] [(.long ((g p2.toInt.toNat).toInt64))])) _
    refine XS.lconst X0.here hx rfl (hb hby d2_6) ?_
    show Steps p.tables e below (s₁.setTop (mkF m 7 #[.val (.ref a1), .val (.int p2), .val (.long ((g p2.toInt.toNat).toInt64)), .second, .unset, .unset, .unset] [(.long (0 : Int64)), (.long ((g p2.toInt.toNat).toInt64))])) _
    refine XS.lcmp X0.here hx rfl (hb hby d2_7) rfl ?_
    show Steps p.tables e below (s₁.setTop (mkF m 8 #[.val (.ref a1), .val (.int p2), .val (.long ((g p2.toInt.toNat).toInt64)), .second, .unset, .unset, .unset] [(.int (lcmpW ((g p2.toInt.toNat).toInt64) (0 : Int64)))])) _
    exact kt
  refine OwnG.st sg1 ?_
  by_cases hc8_2 : ((g p2.toInt.toNat).toInt64) < (0 : Int64)
  · have sg3 : ∀ tgt, Steps p.tables e below (s₁.setTop (mkF m 26 #[.val (.ref a1), .val (.int p2), .val (.long (((g p2.toInt.toNat).toInt64) &&& (127 : Int64))), .second, .val (.int (7 : Int32)), .val (.int (p2 + (1 : Int32))), .unset] [])) tgt → Steps p.tables e below (s₁.setTop (mkF m 8 #[.val (.ref a1), .val (.int p2), .val (.long ((g p2.toInt.toNat).toInt64)), .second, .unset, .unset, .unset] [(.int (lcmpW ((g p2.toInt.toNat).toInt64) (0 : Int64)))])) tgt := by
      intro tgt kt
      refine XS.ifNo X0.here hx rfl (hb hby d2_8) rfl ((if0 _ _).trans (tlt ((lw_lt ((g p2.toInt.toNat).toInt64) (0 : Int64)).mpr hc8_2)).2.1) ?_
      show Steps p.tables e below (s₁.setTop (mkF m 11 #[.val (.ref a1), .val (.int p2), .val (.long ((g p2.toInt.toNat).toInt64)), .second, .unset, .unset, .unset] [])) _
      refine XS.lloadN X0.here hx rfl (hb hby d2_11) rfl ?_
      show Steps p.tables e below (s₁.setTop (mkF m 12 #[.val (.ref a1), .val (.int p2), .val (.long ((g p2.toInt.toNat).toInt64)), .second, .unset, .unset, .unset] [(.long ((g p2.toInt.toNat).toInt64))])) _
      refine X0.ldc2Long hx hown (mvT hZ (hw _ (List.mem_of_getElem? (i := 11) rfl))) (g := (mkF m 12 #[.val (.ref a1), .val (.int p2), .val (.long ((g p2.toInt.toNat).toInt64)), .second, .unset, .unset, .unset] [(.long ((g p2.toInt.toNat).toInt64))])) rfl (hb hby d2_12) _ ?_
      show Steps p.tables e below (s₁.setTop (mkF m 15 #[.val (.ref a1), .val (.int p2), .val (.long ((g p2.toInt.toNat).toInt64)), .second, .unset, .unset, .unset] [(.long (127 : Int64)), (.long ((g p2.toInt.toNat).toInt64))])) _
      refine XS.land X0.here hx rfl (hb hby d2_15) rfl ?_
      show Steps p.tables e below (s₁.setTop (mkF m 16 #[.val (.ref a1), .val (.int p2), .val (.long ((g p2.toInt.toNat).toInt64)), .second, .unset, .unset, .unset] [(.long (((g p2.toInt.toNat).toInt64) &&& (127 : Int64)))])) _
      refine XS.lstoreN X0.here hx rfl (hb hby d2_16) rfl (l' := #[.val (.ref a1), .val (.int p2), .val (.long (((g p2.toInt.toNat).toInt64) &&& (127 : Int64))), .second, .unset, .unset, .unset]) rfl ?_
      show Steps p.tables e below (s₁.setTop (mkF m 17 #[.val (.ref a1), .val (.int p2), .val (.long (((g p2.toInt.toNat).toInt64) &&& (127 : Int64))), .second, .unset, .unset, .unset] [])) _
      refine XS.bipush X0.here hx rfl (hb hby d2_17) ?_
      show Steps p.tables e below (s₁.setTop (mkF m 19 #[.val (.ref a1), .val (.int p2), .val (.long (((g p2.toInt.toNat).toInt64) &&& (127 : Int64))), .second, .unset, .unset, .unset] [(.int (7 : Int32))])) _
      refine XS.istore X0.here hx rfl (hb hby d2_19) rfl (l' := #[.val (.ref a1), .val (.int p2), .val (.long (((g p2.toInt.toNat).toInt64) &&& (127 : Int64))), .second, .val (.int (7 : Int32)), .unset, .unset]) rfl ?_
      show Steps p.tables e below (s₁.setTop (mkF m 21 #[.val (.ref a1), .val (.int p2), .val (.long (((g p2.toInt.toNat).toInt64) &&& (127 : Int64))), .second, .val (.int (7 : Int32)), .unset, .unset] [])) _
      refine XS.iloadN X0.here hx rfl (hb hby d2_21) rfl ?_
      show Steps p.tables e below (s₁.setTop (mkF m 22 #[.val (.ref a1), .val (.int p2), .val (.long (((g p2.toInt.toNat).toInt64) &&& (127 : Int64))), .second, .val (.int (7 : Int32)), .unset, .unset] [(.int p2)])) _
      refine XS.iconst X0.here hx rfl (hb hby d2_22) ?_
      show Steps p.tables e below (s₁.setTop (mkF m 23 #[.val (.ref a1), .val (.int p2), .val (.long (((g p2.toInt.toNat).toInt64) &&& (127 : Int64))), .second, .val (.int (7 : Int32)), .unset, .unset] [(.int (1 : Int32)), (.int p2)])) _
      refine XS.iadd X0.here hx rfl (hb hby d2_23) rfl ?_
      show Steps p.tables e below (s₁.setTop (mkF m 24 #[.val (.ref a1), .val (.int p2), .val (.long (((g p2.toInt.toNat).toInt64) &&& (127 : Int64))), .second, .val (.int (7 : Int32)), .unset, .unset] [(.int (p2 + (1 : Int32)))])) _
      refine XS.istore X0.here hx rfl (hb hby d2_24) rfl (l' := #[.val (.ref a1), .val (.int p2), .val (.long (((g p2.toInt.toNat).toInt64) &&& (127 : Int64))), .second, .val (.int (7 : Int32)), .val (.int (p2 + (1 : Int32))), .unset]) rfl ?_
      show Steps p.tables e below (s₁.setTop (mkF m 26 #[.val (.ref a1), .val (.int p2), .val (.long (((g p2.toInt.toNat).toInt64) &&& (127 : Int64))), .second, .val (.int (7 : Int32)), .val (.int (p2 + (1 : Int32))), .unset] [])) _
      exact kt
    refine OwnG.st sg3 ?_
    have hN1 : 1 < M := by
      rcases Nat.lt_or_ge 1 M with q | q
      · exact q
      · exact absurd ((own_neg _).mp hc8_2) (by rw [show p2.toInt.toNat = p2.toInt.toNat + (M - 1) by omega]; exact hpos)
    have a0' := own_i1 p2 (by omega) (by omega)
    have lp4 : ∀ (k : Nat) (T : State) (lc : List Loc) (j : Nat) (v2 : Int64) (s4 : Int32) (i5 : Int32) (s6 : Slot) (X : Stand p l e ({ frames := 0, cells := 0, slots := 0, locals := 0 } : Room) s m #[(.ref a1), (.int p2)] below meth c T lc 0 0) (eT : T.heap = h0) (N : Fr n0 lc) (hI : v2 = own_acc g p2.toInt.toNat j) (hsh : s4 = Int32.ofNat (7 * j)) (hi5 : i5.toInt = p2.toInt + (j : Int)) (hj0 : 1 ≤ j) (hj1 : j < M) (hs6 : One s6), M - j = k → OwnG p e below s (Q2 Z a1 p2 M g h0 n0) ({ frames := 0, cells := 0, slots := 0, locals := 0 } : Room).cells ({ frames := 0, cells := 0, slots := 0, locals := 0 } : Room).slots T (mkF m 26 #[.val (.ref a1), .val (.int p2), .val (.long v2), .second, .val (.int s4), .val (.int i5), s6] []) := by
      intro k
      induction k using Nat.strongRecOn with
      | _ k ih =>
        intro T lc j v2 s4 i5 s6 X eT N hI hsh hi5 hj0 hj1 hs6 hk
        have sg5 : ∀ tgt, Steps p.tables e below (T.setTop (mkF m 52 #[.val (.ref a1), .val (.int p2), .val (.long (v2 ||| ((((g i5.toInt.toNat) &&& (127 : Int32)).toInt64) <<< (s4 &&& 0x3f).toInt64))), .second, .val (.int (s4 + (7 : Int32))), .val (.int (i5 + (1 : Int32))), .val (.int (g i5.toInt.toNat))] [(.int (g i5.toInt.toNat))])) tgt → Steps p.tables e below (T.setTop (mkF m 26 #[.val (.ref a1), .val (.int p2), .val (.long v2), .second, .val (.int s4), .val (.int i5), s6] [])) tgt := by
          intro tgt kt
          refine XS.aloadN X.here hx rfl (hb hby d2_26) rfl rfl ?_
          show Steps p.tables e below (T.setTop (mkF m 27 #[.val (.ref a1), .val (.int p2), .val (.long v2), .second, .val (.int s4), .val (.int i5), s6] [(.ref a1)])) _
          refine XS.iload X.here hx rfl (hb hby d2_27) rfl ?_
          show Steps p.tables e below (T.setTop (mkF m 29 #[.val (.ref a1), .val (.int p2), .val (.long v2), .second, .val (.int s4), .val (.int i5), s6] [(.int i5), (.ref a1)])) _
          refine own_ldB A_a1 X hx hZ eT (by omega) (by show _ < (13 : Int); omega) (gf := (mkF m 29 #[.val (.ref a1), .val (.int p2), .val (.long v2), .second, .val (.int s4), .val (.int i5), s6] [(.int i5), (.ref a1)])) rfl rfl (hb hby d2_29) _ ?_
          show Steps p.tables e below (T.setTop (mkF m 30 #[.val (.ref a1), .val (.int p2), .val (.long v2), .second, .val (.int s4), .val (.int i5), s6] [(.int (g i5.toInt.toNat))])) _
          refine XS.istoreS X.here hx rfl (hb hby d2_30) rfl rfl hs6 ?_
          show Steps p.tables e below (T.setTop (mkF m 32 #[.val (.ref a1), .val (.int p2), .val (.long v2), .second, .val (.int s4), .val (.int i5), .val (.int (g i5.toInt.toNat))] [])) _
          refine XS.iinc X.here hx rfl (hb hby d2_32) rfl (l' := #[.val (.ref a1), .val (.int p2), .val (.long v2), .second, .val (.int s4), .val (.int (i5 + (1 : Int32))), .val (.int (g i5.toInt.toNat))]) rfl ?_
          show Steps p.tables e below (T.setTop (mkF m 35 #[.val (.ref a1), .val (.int p2), .val (.long v2), .second, .val (.int s4), .val (.int (i5 + (1 : Int32))), .val (.int (g i5.toInt.toNat))] [])) _
          refine XS.lloadN X.here hx rfl (hb hby d2_35) rfl ?_
          show Steps p.tables e below (T.setTop (mkF m 36 #[.val (.ref a1), .val (.int p2), .val (.long v2), .second, .val (.int s4), .val (.int (i5 + (1 : Int32))), .val (.int (g i5.toInt.toNat))] [(.long v2)])) _
          refine XS.iload X.here hx rfl (hb hby d2_36) rfl ?_
          show Steps p.tables e below (T.setTop (mkF m 38 #[.val (.ref a1), .val (.int p2), .val (.long v2), .second, .val (.int s4), .val (.int (i5 + (1 : Int32))), .val (.int (g i5.toInt.toNat))] [(.int (g i5.toInt.toNat)), (.long v2)])) _
          refine XS.bipush X.here hx rfl (hb hby d2_38) ?_
          show Steps p.tables e below (T.setTop (mkF m 40 #[.val (.ref a1), .val (.int p2), .val (.long v2), .second, .val (.int s4), .val (.int (i5 + (1 : Int32))), .val (.int (g i5.toInt.toNat))] [(.int (127 : Int32)), (.int (g i5.toInt.toNat)), (.long v2)])) _
          refine XS.iand X.here hx rfl (hb hby d2_40) rfl ?_
          show Steps p.tables e below (T.setTop (mkF m 41 #[.val (.ref a1), .val (.int p2), .val (.long v2), .second, .val (.int s4), .val (.int (i5 + (1 : Int32))), .val (.int (g i5.toInt.toNat))] [(.int ((g i5.toInt.toNat) &&& (127 : Int32))), (.long v2)])) _
          refine XS.i2l X.here hx rfl (hb hby d2_41) rfl ?_
          show Steps p.tables e below (T.setTop (mkF m 42 #[.val (.ref a1), .val (.int p2), .val (.long v2), .second, .val (.int s4), .val (.int (i5 + (1 : Int32))), .val (.int (g i5.toInt.toNat))] [(.long (((g i5.toInt.toNat) &&& (127 : Int32)).toInt64)), (.long v2)])) _
          refine XS.iload X.here hx rfl (hb hby d2_42) rfl ?_
          show Steps p.tables e below (T.setTop (mkF m 44 #[.val (.ref a1), .val (.int p2), .val (.long v2), .second, .val (.int s4), .val (.int (i5 + (1 : Int32))), .val (.int (g i5.toInt.toNat))] [(.int s4), (.long (((g i5.toInt.toNat) &&& (127 : Int32)).toInt64)), (.long v2)])) _
          refine XS.lshl X.here hx rfl (hb hby d2_44) rfl ?_
          show Steps p.tables e below (T.setTop (mkF m 45 #[.val (.ref a1), .val (.int p2), .val (.long v2), .second, .val (.int s4), .val (.int (i5 + (1 : Int32))), .val (.int (g i5.toInt.toNat))] [(.long ((((g i5.toInt.toNat) &&& (127 : Int32)).toInt64) <<< (s4 &&& 0x3f).toInt64)), (.long v2)])) _
          refine XS.lor X.here hx rfl (hb hby d2_45) rfl ?_
          show Steps p.tables e below (T.setTop (mkF m 46 #[.val (.ref a1), .val (.int p2), .val (.long v2), .second, .val (.int s4), .val (.int (i5 + (1 : Int32))), .val (.int (g i5.toInt.toNat))] [(.long (v2 ||| ((((g i5.toInt.toNat) &&& (127 : Int32)).toInt64) <<< (s4 &&& 0x3f).toInt64)))])) _
          refine XS.lstoreN X.here hx rfl (hb hby d2_46) rfl (l' := #[.val (.ref a1), .val (.int p2), .val (.long (v2 ||| ((((g i5.toInt.toNat) &&& (127 : Int32)).toInt64) <<< (s4 &&& 0x3f).toInt64))), .second, .val (.int s4), .val (.int (i5 + (1 : Int32))), .val (.int (g i5.toInt.toNat))]) rfl ?_
          show Steps p.tables e below (T.setTop (mkF m 47 #[.val (.ref a1), .val (.int p2), .val (.long (v2 ||| ((((g i5.toInt.toNat) &&& (127 : Int32)).toInt64) <<< (s4 &&& 0x3f).toInt64))), .second, .val (.int s4), .val (.int (i5 + (1 : Int32))), .val (.int (g i5.toInt.toNat))] [])) _
          refine XS.iinc X.here hx rfl (hb hby d2_47) rfl (l' := #[.val (.ref a1), .val (.int p2), .val (.long (v2 ||| ((((g i5.toInt.toNat) &&& (127 : Int32)).toInt64) <<< (s4 &&& 0x3f).toInt64))), .second, .val (.int (s4 + (7 : Int32))), .val (.int (i5 + (1 : Int32))), .val (.int (g i5.toInt.toNat))]) rfl ?_
          show Steps p.tables e below (T.setTop (mkF m 50 #[.val (.ref a1), .val (.int p2), .val (.long (v2 ||| ((((g i5.toInt.toNat) &&& (127 : Int32)).toInt64) <<< (s4 &&& 0x3f).toInt64))), .second, .val (.int (s4 + (7 : Int32))), .val (.int (i5 + (1 : Int32))), .val (.int (g i5.toInt.toNat))] [])) _
          refine XS.iload X.here hx rfl (hb hby d2_50) rfl ?_
          show Steps p.tables e below (T.setTop (mkF m 52 #[.val (.ref a1), .val (.int p2), .val (.long (v2 ||| ((((g i5.toInt.toNat) &&& (127 : Int32)).toInt64) <<< (s4 &&& 0x3f).toInt64))), .second, .val (.int (s4 + (7 : Int32))), .val (.int (i5 + (1 : Int32))), .val (.int (g i5.toInt.toNat))] [(.int (g i5.toInt.toNat))])) _
          exact kt
        refine OwnG.st sg5 ?_
        by_cases hc52_6 : (g i5.toInt.toNat) < (0 : Int32)
        · have sg7 : ∀ tgt, Steps p.tables e below (T.setTop (mkF m 26 #[.val (.ref a1), .val (.int p2), .val (.long (v2 ||| ((((g i5.toInt.toNat) &&& (127 : Int32)).toInt64) <<< (s4 &&& 0x3f).toInt64))), .second, .val (.int (s4 + (7 : Int32))), .val (.int (i5 + (1 : Int32))), .val (.int (g i5.toInt.toNat))] [])) tgt → Steps p.tables e below (T.setTop (mkF m 52 #[.val (.ref a1), .val (.int p2), .val (.long (v2 ||| ((((g i5.toInt.toNat) &&& (127 : Int32)).toInt64) <<< (s4 &&& 0x3f).toInt64))), .second, .val (.int (s4 + (7 : Int32))), .val (.int (i5 + (1 : Int32))), .val (.int (g i5.toInt.toNat))] [(.int (g i5.toInt.toNat))])) tgt := by
            intro tgt kt
            refine XS.ifYes X.here hx rfl (pc0 := 52) (pc' := 26) rfl (hb hby d2_52) rfl ((if0 _ _).trans (tlt hc52_6).1) (by decide) (by decide) ?_
            show Steps p.tables e below (T.setTop (mkF m 26 #[.val (.ref a1), .val (.int p2), .val (.long (v2 ||| ((((g i5.toInt.toNat) &&& (127 : Int32)).toInt64) <<< (s4 &&& 0x3f).toInt64))), .second, .val (.int (s4 + (7 : Int32))), .val (.int (i5 + (1 : Int32))), .val (.int (g i5.toInt.toNat))] [])) _
            exact kt
          refine OwnG.st sg7 ?_
          have a1' := own_i1 i5 (by omega) (by omega)
          have hj1 : j + 1 < M := by
            rcases Nat.lt_or_ge (j + 1) M with q | q
            · exact q
            · exact absurd hc52_6 (by rw [show i5.toInt.toNat = p2.toInt.toNat + (M - 1) by omega]; exact hpos)
          exact ih _ (by rw [← hk]; omega) T lc (j + 1) _ _ _ (.val (.int _)) X eT N (by rw [own_as, ← hI, show p2.toInt.toNat + j = i5.toInt.toNat by omega, hsh]) (by rw [hsh]; exact own_s7 j (by omega)) (by rw [a1'.1]; omega) (by omega) hj1 (One.val rfl) rfl
        · have sg8 : ∀ tgt, Steps p.tables e below (T.setTop (mkF m 56 #[.val (.ref a1), .val (.int p2), .val (.long (v2 ||| ((((g i5.toInt.toNat) &&& (127 : Int32)).toInt64) <<< (s4 &&& 0x3f).toInt64))), .second, .val (.int (s4 + (7 : Int32))), .val (.int (i5 + (1 : Int32))), .val (.int (g i5.toInt.toNat))] [(.long (v2 ||| ((((g i5.toInt.toNat) &&& (127 : Int32)).toInt64) <<< (s4 &&& 0x3f).toInt64)))])) tgt → Steps p.tables e below (T.setTop (mkF m 52 #[.val (.ref a1), .val (.int p2), .val (.long (v2 ||| ((((g i5.toInt.toNat) &&& (127 : Int32)).toInt64) <<< (s4 &&& 0x3f).toInt64))), .second, .val (.int (s4 + (7 : Int32))), .val (.int (i5 + (1 : Int32))), .val (.int (g i5.toInt.toNat))] [(.int (g i5.toInt.toNat))])) tgt := by
            intro tgt kt
            refine XS.ifNo X.here hx rfl (hb hby d2_52) rfl ((if0 _ _).trans (flt hc52_6).1) ?_
            show Steps p.tables e below (T.setTop (mkF m 55 #[.val (.ref a1), .val (.int p2), .val (.long (v2 ||| ((((g i5.toInt.toNat) &&& (127 : Int32)).toInt64) <<< (s4 &&& 0x3f).toInt64))), .second, .val (.int (s4 + (7 : Int32))), .val (.int (i5 + (1 : Int32))), .val (.int (g i5.toInt.toNat))] [])) _
            refine XS.lloadN X.here hx rfl (hb hby d2_55) rfl ?_
            show Steps p.tables e below (T.setTop (mkF m 56 #[.val (.ref a1), .val (.int p2), .val (.long (v2 ||| ((((g i5.toInt.toNat) &&& (127 : Int32)).toInt64) <<< (s4 &&& 0x3f).toInt64))), .second, .val (.int (s4 + (7 : Int32))), .val (.int (i5 + (1 : Int32))), .val (.int (g i5.toInt.toNat))] [(.long (v2 ||| ((((g i5.toInt.toNat) &&& (127 : Int32)).toInt64) <<< (s4 &&& 0x3f).toInt64)))])) _
            exact kt
          refine OwnG.st sg8 ?_
          have hjN : j + 1 = M := by
            rcases Nat.lt_or_ge (j + 1) M with q | q
            · exact absurd (hneg j q) (by rw [show p2.toInt.toNat + j = i5.toInt.toNat by omega]; exact hc52_6)
            · omega
          have hv : (v2 ||| ((((g i5.toInt.toNat) &&& (127 : Int32)).toInt64) <<< (s4 &&& 0x3f).toInt64)) = own_acc g p2.toInt.toNat M := by rw [← hjN, own_as, ← hI, show p2.toInt.toNat + j = i5.toInt.toNat by omega, hsh]
          exact OwnG.retJ X hx Bd.returns (BodyLoose.notSynchronized Bd) (hb hby d2_56) ⟨congrArg (fun w => some (Value.long w)) hv, N, eT⟩ (by decide) (by decide)
    exact lp4 _ s₁ _  1 _ _ _ _ X0 e0 N0 (by rw [own_first, own_first']) rfl (by rw [a0'.1]; omega) (by decide) hN1 One.u  rfl
  · have sg9 : ∀ tgt, Steps p.tables e below (s₁.setTop (mkF m 56 #[.val (.ref a1), .val (.int p2), .val (.long ((g p2.toInt.toNat).toInt64)), .second, .unset, .unset, .unset] [(.long ((g p2.toInt.toNat).toInt64))])) tgt → Steps p.tables e below (s₁.setTop (mkF m 8 #[.val (.ref a1), .val (.int p2), .val (.long ((g p2.toInt.toNat).toInt64)), .second, .unset, .unset, .unset] [(.int (lcmpW ((g p2.toInt.toNat).toInt64) (0 : Int64)))])) tgt := by
      intro tgt kt
      refine XS.ifYes X0.here hx rfl (pc0 := 8) (pc' := 55) rfl (hb hby d2_8) rfl ((if0 _ _).trans (flt (mt (lw_lt ((g p2.toInt.toNat).toInt64) (0 : Int64)).mp hc8_2)).2.1) (by decide) (by decide) ?_
      show Steps p.tables e below (s₁.setTop (mkF m 55 #[.val (.ref a1), .val (.int p2), .val (.long ((g p2.toInt.toNat).toInt64)), .second, .unset, .unset, .unset] [])) _
      refine XS.lloadN X0.here hx rfl (hb hby d2_55) rfl ?_
      show Steps p.tables e below (s₁.setTop (mkF m 56 #[.val (.ref a1), .val (.int p2), .val (.long ((g p2.toInt.toNat).toInt64)), .second, .unset, .unset, .unset] [(.long ((g p2.toInt.toNat).toInt64))])) _
      exact kt
    refine OwnG.st sg9 ?_
    have hN1 : M = 1 := by
      rcases Nat.lt_or_ge 1 M with q | q
      · exact absurd ((own_neg _).mpr (hneg 0 (by omega))) hc8_2
      · omega
    have hv : ((g p2.toInt.toNat).toInt64) = own_acc g p2.toInt.toNat M := by rw [hN1, own_first, own_lo _ (fun q => hc8_2 ((own_neg _).mpr q)) (hrng _ (by omega))]
    exact OwnG.retJ X0 hx Bd.returns (BodyLoose.notSynchronized Bd) (hb hby d2_56) ⟨congrArg (fun w => some (Value.long w)) hv, N0, e0⟩ (by decide) (by decide)
theorem own_dgb (v : Int64) (i : Int32) (k : Nat) (hi : i.toInt = k) (hk : k ≤ 8) (t : Nat) (ht : t < 32) : (own_dg v i).toBitVec.getLsbD t = (decide (t < 7) && v.toBitVec.getLsbD (7 * k + t)) := by
  have h := c_imul 7 i
  have r := rng32 (7 * i)
  have e7 : (7 : Int32).toInt = 7 := rfl
  rw [e7] at h
  have hm : (7 * i).toInt = ((7 * k : Nat) : Int) := by omega
  have hn : (7 * i).toBitVec.toNat = 7 * k := by
    have q : (7 * i).toBitVec.toInt = ((7 * k : Nat) : Int) := hm
    rw [BitVec.toInt_eq_toNat_cond] at q
    have := (7 * i).toBitVec.isLt
    split at q <;> omega
  unfold own_dg
  rw [Int64.toBitVec_toInt32, BitVec.getLsbD_signExtend, Int64.toBitVec_and, BitVec.getLsbD_and, own_lushr _ _ (7 * k) (by rw [hn]; omega), BitVec.getLsbD_ushiftRight]
  have q : ∀ j : Fin 64, ((127 : Int64).toBitVec).getLsbD j.1 = decide (j.1 < 7) := by decide
  rw [q ⟨t, by omega⟩]
  simp [ht, show t < 64 by omega, Bool.and_comm]
theorem own_dgr (v : Int64) (i : Int32) : 0 ≤ (own_dg v i).toInt ∧ (own_dg v i).toInt < 128 := by
  have h := c_maskL ((v.toUInt64 >>> (((7 : Int32) * i) &&& 0x3f).toInt64.toUInt64).toInt64) 127 7 (by decide) (by decide)
  have h2 := c_l2i ((((v.toUInt64 >>> (((7 : Int32) * i) &&& 0x3f).toInt64.toUInt64).toInt64) &&& (127 : Int64)))
  have r := rng32 (own_dg v i)
  unfold own_dg at *
  omega
theorem own_ocv (v : Int64) (i n : Int32) : (own_oc v i n).toInt = (if i < (n - (1 : Int32)) then (own_dg v i).toInt - 128 else (own_dg v i).toInt) := by
  have d := own_dgr v i
  have e : own_oc v i n = ((if i < (n - (1 : Int32)) then ((own_dg v i) ||| (128 : Int32)) else (own_dg v i)).toInt8.toInt32) := rfl
  rw [e]
  by_cases c : i < (n - (1 : Int32))
  · rw [if_pos c, if_pos c]
    have o := c_or' (own_dg v i) 128 7 (by decide) 128 (by decide) (by decide) d.1 d.2
    have e128 : (128 : Int32).toInt = 128 := rfl
    have r := rng32 ((own_dg v i) ||| (128 : Int32))
    have b := c_i2b ((own_dg v i) ||| (128 : Int32))
    omega
  · rw [if_neg c, if_neg c]
    have b := c_i2b (own_dg v i)
    omega
theorem own_ocm (v : Int64) (i n : Int32) : (own_oc v i n) &&& (127 : Int32) = own_dg v i := by
  have d := own_dgr v i
  have h := c_mask (own_oc v i n) 127 7 (by decide) (by decide)
  have o := own_ocv v i n
  rw [← Int32.toInt_inj]
  by_cases c : i < (n - (1 : Int32))
  · rw [if_pos c] at o; omega
  · rw [if_neg c] at o; omega
theorem own_put (p2 : Int32) (v : Int64) (i n : Int32) (g : Nat → Int32) (k j : Nat) (hi : i.toInt = k) (hk : k ≤ 8) (h2 : 0 ≤ p2.toInt ∧ p2.toInt ≤ 3) : F1 p2 v i n g (p2.toInt.toNat + j) = if i < n ∧ j = k then own_oc v i n else g (p2.toInt.toNat + j) := by
  have a := own_ad p2 i h2 (by omega)
  unfold F1
  by_cases c : i < n
  · rw [if_pos c]
    show (if p2.toInt.toNat + j = (p2 + i).toInt.toNat then _ else _) = _
    by_cases e : j = k
    · rw [if_pos (show p2.toInt.toNat + j = (p2 + i).toInt.toNat by omega), if_pos ⟨c, e⟩]
    · rw [if_neg (show ¬ (p2.toInt.toNat + j = (p2 + i).toInt.toNat) by omega), if_neg (fun q => e q.2)]
  · rw [if_neg c, if_neg (fun q => c q.1)]
theorem own_putr (p2 : Int32) (v : Int64) (i n : Int32) (g : Nat → Int32) (hg : ∀ i, (g i).toInt ≤ 127) : ∀ t, (F1 p2 v i n g t).toInt ≤ 127 := by
  intro t
  unfold F1
  by_cases c : i < n
  · rw [if_pos c]
    show (if t = (p2 + i).toInt.toNat then own_oc v i n else g t).toInt ≤ 127
    by_cases e : t = (p2 + i).toInt.toNat
    · rw [if_pos e]
      have d := own_dgr v i
      have o := own_ocv v i n
      by_cases c : i < (n - (1 : Int32))
      · rw [if_pos c] at o; omega
      · rw [if_neg c] at o; omega
    · rw [if_neg e]; exact hg t
  · rw [if_neg c]; exact hg t
theorem own_all (p2 : Int32) (v : Int64) (n : Int32) (g0 g1 g2 g3 g4 g5 g6 g7 g8 g9 : Nat → Int32) (h1 : g1 = F1 p2 v 0 n g0) (h2 : g2 = F1 p2 v 1 n g1) (h3 : g3 = F1 p2 v 2 n g2) (h4 : g4 = F1 p2 v 3 n g3) (h5 : g5 = F1 p2 v 4 n g4) (h6 : g6 = F1 p2 v 5 n g5) (h7 : g7 = F1 p2 v 6 n g6) (h8 : g8 = F1 p2 v 7 n g7) (h9 : g9 = F1 p2 v 8 n g8) (hp : 0 ≤ p2.toInt ∧ p2.toInt ≤ 3) :
    ∀ j, j ≤ 8 → (Int32.ofNat j) < n → g9 (p2.toInt.toNat + j) = own_oc v (Int32.ofNat j) n := by
  intro j hj hn
  rw [h9, own_put p2 v 8 n g8 8 j rfl (by decide) hp, h8, own_put p2 v 7 n g7 7 j rfl (by decide) hp, h7, own_put p2 v 6 n g6 6 j rfl (by decide) hp, h6, own_put p2 v 5 n g5 5 j rfl (by decide) hp, h5, own_put p2 v 4 n g4 4 j rfl (by decide) hp, h4, own_put p2 v 3 n g3 3 j rfl (by decide) hp, h3, own_put p2 v 2 n g2 2 j rfl (by decide) hp, h2, own_put p2 v 1 n g1 1 j rfl (by decide) hp, h1, own_put p2 v 0 n g0 0 j rfl (by decide) hp]
  have c : j = 0 ∨ j = 1 ∨ j = 2 ∨ j = 3 ∨ j = 4 ∨ j = 5 ∨ j = 6 ∨ j = 7 ∨ j = 8 := by omega
  rcases c with rfl | rfl | rfl | rfl | rfl | rfl | rfl | rfl | rfl
  all_goals simp only [Nat.reduceEqDiff, and_false, if_false, and_true]
  all_goals exact if_pos hn
theorem own_accb (v : Int64) (g : Nat → Int32) (a : Nat) (n : Int32) (M : Nat) (hN : M ≤ 9) (hg : ∀ j, j < M → g (a + j) = own_oc v (Int32.ofNat j) n) : ∀ j, j ≤ M → ∀ i, i < 64 → (own_acc g a j).toBitVec.getLsbD i = (decide (i < 7 * j) && v.toBitVec.getLsbD i) := by
  intro j
  induction j with
  | zero => intro _ i hi; show (0#64).getLsbD i = _; simp
  | succ j ih =>
    intro hj i hi
    have hm : (Int32.ofNat (7 * j)).toBitVec.toNat = 7 * j := by
      show (BitVec.ofNat 32 (7 * j)).toNat = _
      rw [BitVec.toNat_ofNat]; omega
    rw [own_as, Int64.toBitVec_or, BitVec.getLsbD_or, ih (by omega) i hi, own_lshl _ _ (7 * j) (by rw [hm]; omega), BitVec.getLsbD_shiftLeft, hg j (by omega), own_ocm, Int32.toBitVec_toInt64, BitVec.getLsbD_signExtend]
    have hmsb : (own_dg v (Int32.ofNat j)).toBitVec.msb = false := by
      rw [BitVec.msb_eq_getLsbD_last, own_dgb v (Int32.ofNat j) j (Int32.toInt_ofNat_of_lt (by omega)) (by omega) 31 (by decide)]; rfl
    rw [hmsb]
    by_cases c : i < 7 * j
    · simp [c, show i < 7 * (j + 1) by omega]
    · by_cases d : i - 7 * j < 32
      · rw [if_pos d, own_dgb v (Int32.ofNat j) j (Int32.toInt_ofNat_of_lt (by omega)) (by omega) _ d, show 7 * j + (i - 7 * j) = i by omega]
        by_cases f : i - 7 * j < 7
        · simp [c, hi, f, show i - 7 * j < 64 by omega, show i < 7 * (j + 1) by omega]
        · simp [c, f, show ¬ i < 7 * (j + 1) by omega]
      · rw [if_neg d]; simp [c, show ¬ i < 7 * (j + 1) by omega]
theorem own_n9 (k : Int32) : 1 ≤ (((k &&& (2147483647 : Int32)) - ((k &&& (2147483647 : Int32)) / (9 : Int32)) * (9 : Int32)) + (1 : Int32)).toInt ∧ (((k &&& (2147483647 : Int32)) - ((k &&& (2147483647 : Int32)) / (9 : Int32)) * (9 : Int32)) + (1 : Int32)).toInt ≤ 9 := by
  have h0 := c_mask k 2147483647 31 (by decide) (by decide)
  rw [own_irem]
  have h1 := (c_irem (k &&& (2147483647 : Int32)) 9 9 rfl).1 (by omega)
  have h2 := c_iadd ((k &&& (2147483647 : Int32)) % 9) 1
  have e : (1 : Int32).toInt = 1 := rfl
  have r := rng32 ((k &&& (2147483647 : Int32)) % 9 + 1)
  omega
theorem own_m3 (x : Int32) : 0 ≤ (x &&& (3 : Int32)).toInt ∧ (x &&& (3 : Int32)).toInt ≤ 3 := by
  have h := c_mask x 3 2 (by decide) (by decide)
  omega
theorem own_msk (n : Int32) (m : Int64) (hn : 1 ≤ n.toInt ∧ n.toInt ≤ 9) (hm : m = (if n = (9 : Int32) then (9223372036854775807 : Int64) else (((1 : Int64) <<< (((7 : Int32) * n) &&& 0x3f).toInt64) - (1 : Int64)))) (i : Nat) (hi : i < 64) : m.toBitVec.getLsbD i = decide (i < 7 * n.toInt.toNat) := by
  have c : n = 1 ∨ n = 2 ∨ n = 3 ∨ n = 4 ∨ n = 5 ∨ n = 6 ∨ n = 7 ∨ n = 8 ∨ n = 9 := by
    have e1 : (1 : Int32).toInt = 1 := rfl
    have e2 : (2 : Int32).toInt = 2 := rfl
    have e3 : (3 : Int32).toInt = 3 := rfl
    have e4 : (4 : Int32).toInt = 4 := rfl
    have e5 : (5 : Int32).toInt = 5 := rfl
    have e6 : (6 : Int32).toInt = 6 := rfl
    have e7 : (7 : Int32).toInt = 7 := rfl
    have e8 : (8 : Int32).toInt = 8 := rfl
    have e9 : (9 : Int32).toInt = 9 := rfl
    simp only [← Int32.toInt_inj]
    omega
  have key : ∀ k : Fin 9, ∀ i : Fin 64, ((if (Int32.ofNat (k.1 + 1)) = (9 : Int32) then (9223372036854775807 : Int64) else (((1 : Int64) <<< (((7 : Int32) * (Int32.ofNat (k.1 + 1))) &&& 0x3f).toInt64) - (1 : Int64))).toBitVec).getLsbD i.1 = decide (i.1 < 7 * (Int32.ofNat (k.1 + 1)).toInt.toNat) := by decide +kernel
  rw [hm]
  rcases c with rfl | rfl | rfl | rfl | rfl | rfl | rfl | rfl | rfl
  · exact key 0 ⟨i, hi⟩
  · exact key 1 ⟨i, hi⟩
  · exact key 2 ⟨i, hi⟩
  · exact key 3 ⟨i, hi⟩
  · exact key 4 ⟨i, hi⟩
  · exact key 5 ⟨i, hi⟩
  · exact key 6 ⟨i, hi⟩
  · exact key 7 ⟨i, hi⟩
  · exact key 8 ⟨i, hi⟩
theorem own_fin (x m : Int64) (g : Nat → Int32) (a : Nat) (n : Int32) (hn : 1 ≤ n.toInt ∧ n.toInt ≤ 9) (hm : m = (if n = (9 : Int32) then (9223372036854775807 : Int64) else (((1 : Int64) <<< (((7 : Int32) * n) &&& 0x3f).toInt64) - (1 : Int64)))) (hg : ∀ j, j ≤ 8 → (Int32.ofNat j) < n → g (a + j) = own_oc (x &&& m) (Int32.ofNat j) n) : own_acc g a n.toInt.toNat = x &&& m := by
  have hg' : ∀ j, j < n.toInt.toNat → g (a + j) = own_oc (x &&& m) (Int32.ofNat j) n := fun j hj => hg j (by omega) (by rw [Int32.lt_iff_toInt_lt, Int32.toInt_ofNat_of_lt (by omega)]; omega)
  apply Int64.toBitVec_inj.mp
  apply BitVec.eq_of_getLsbD_eq
  intro i hi
  rw [own_accb (x &&& m) g a n n.toInt.toNat (by omega) hg' _ (Nat.le_refl _) i hi, Int64.toBitVec_and, BitVec.getLsbD_and, own_msk n m hn hm i hi]
  cases x.toBitVec.getLsbD i <;> cases decide (i < 7 * n.toInt.toNat) <;> rfl
theorem own_rd (v : Int64) (g : Nat → Int32) (a : Nat) (n : Int32) (hn : 1 ≤ n.toInt ∧ n.toInt ≤ 9) (hg : ∀ j, j ≤ 8 → (Int32.ofNat j) < n → g (a + j) = own_oc v (Int32.ofNat j) n) (hr : ∀ i, (g i).toInt ≤ 127) : (∀ j, j + 1 < n.toInt.toNat → g (a + j) < (0 : Int32)) ∧ (¬ g (a + (n.toInt.toNat - 1)) < (0 : Int32)) ∧ (∀ i, i < 13 → (g i).toInt ≤ 127) := by
  have s := c_isub n 1
  have e1 : (1 : Int32).toInt = 1 := rfl
  have r := rng32 (n - 1)
  refine ⟨fun j hj => ?_, ?_, fun i _ => hr i⟩
  · have q := Int32.toInt_ofNat_of_lt (n := j) (by omega)
    rw [hg j (by omega) (by rw [Int32.lt_iff_toInt_lt, q]; omega), Int32.lt_iff_toInt_lt, own_ocv, if_pos (by rw [Int32.lt_iff_toInt_lt, q]; omega)]
    have d := own_dgr v (Int32.ofNat j)
    show _ < (0 : Int)
    omega
  · have q := Int32.toInt_ofNat_of_lt (n := n.toInt.toNat - 1) (by omega)
    rw [hg (n.toInt.toNat - 1) (by omega) (by rw [Int32.lt_iff_toInt_lt, q]; omega), Int32.lt_iff_toInt_lt, own_ocv, if_neg (by rw [Int32.lt_iff_toInt_lt, q]; omega)]
    have d := own_dgr v (Int32.ofNat (n.toInt.toNat - 1))
    show ¬ (_ < (0 : Int))
    omega
theorem own_i8 (x : Int32) : x.toInt8.toInt32.toInt ≤ 127 := by have := c_i2b x; omega
theorem own_ur (g : Nat → Int32) (j : Nat) (x : Int32) (h : ∀ i, (g i).toInt ≤ 127) : ∀ i, (updv g j (x.toInt8.toInt32) i).toInt ≤ 127 := by
  intro i
  show (if i = j then x.toInt8.toInt32 else g i).toInt ≤ 127
  by_cases c : i = j
  · rw [if_pos c]; exact own_i8 x
  · rw [if_neg c]; exact h i
theorem pn_0 : plainName "com/example/guessd/guessd/VarintsReadPinLaw" = true := by first | (simp [plainName, overriddenIn]; done) | decide +kernel
theorem pd_0_0 : parseMethodDescriptor "([BIJII)V" = some ⟨[(.array .byte), .int, .long, .int, .int], none⟩ := by decide +kernel
theorem pd_0_1 : parseMethodDescriptor "([BI)J" = some ⟨[(.array .byte), .int], some .long⟩ := by decide +kernel
theorem ef_0 (m : MethodId) (q1 : Int64) (p2 : Int32) (p3 : Int32) (q4 : Int64) : entryFrame m #[(.long q1), (.int p2), (.int p3), (.long q4)] maxLocals = mkF m 0 #[.val (.long q1), .second, .val (.int p2), .val (.int p3), .val (.long q4), .second, .unset, .unset, .unset, .unset, .unset, .unset, .unset] [] := by first | (simp [entryFrame, mkF, argsToLocals, Value.category, maxLocals]; done) | rfl
def Q0 (Z : State) (q1 : Int64) (p2 : Int32) (p3 : Int32) (q4 : Int64) (h0 : Heap) (n0 : Nat) (v : Option Value) (h : Heap) (L : List Loc) : Prop := v = some (.int 1) ∧ Fr n0 L
set_option maxRecDepth 65536 in
set_option maxHeartbeats 40000000 in
theorem rm0 (l : Launch) (Z : State) (a0 : Array Value) (hw : ∀ d ∈ tables_1, d.before a0 Z = true) (ws : List Jvm.Cond) (q1 : Int64) (p2 : Int32) (p3 : Int32) (q4 : Int64)  (h0 : Heap) (n0 : Nat) (Z0 : n0 ≤ h0.size)  :
    MetFree l x (head1 (Jvm.Cond.code x code maxLocals ret :: ws) room_1) (fun a U => a = #[(.long q1), (.int p2), (.int p3), (.long q4)] ∧ Z.Warmed39 U.vm ∧ U.heap = h0) (fun _ _ _ _ _ => True) (fun _ U o U' => ∃ v L, o = .returned v ∧ Q0 Z q1 p2 p3 q4 h0 n0 v U'.heap L ∧ FrameEnd U o U' L room_1.cells room_1.slots) := by
  refine MetFree.of_bodySF (plainFor_of_name pn_0) hisR ?_
  intro p e s m args below meth c s₁ Bd hml0 hP hK
  obtain ⟨rfl, hZ, hh⟩ := hP
  have hx := Bd.exec
  have hby := Bd.bytes
  have hml : c.maxLocals = 13 := hml0
  have hown : s.vm.findClass "com/example/guessd/guessd/VarintsReadPinLaw" = some m.cls := findClass_of_methodNamed Bd.named
  have hnm := (name_of_methodNamed Bd.named Bd.method).1
  have X0 : Stand p l e room_1 s m #[(.long q1), (.int p2), (.int p3), (.long q4)] below meth c s₁ [] 0 0 := Stand.of_body Bd
  have e0 : s₁.heap = h0 := by rw [← hh, Bd.state]; rfl
  have N0 := Fr.nil n0
  suffices hG : OwnG p e below s (Q0 Z q1 p2 p3 q4 h0 n0) room_1.cells room_1.slots s₁ (mkF m 0 #[.val (.long q1), .second, .val (.int p2), .val (.int p3), .val (.long q4), .second, .unset, .unset, .unset, .unset, .unset, .unset, .unset] []) by
    obtain ⟨s2, o2, g1, g2⟩ := hG
    exact ⟨s2, o2, castTop (ef_0 m q1 p2 p3 q4) g1, g2⟩
  have sg1 : ∀ tgt, Steps p.tables e below (s₁.setTop (mkF m 16 #[.val (.long q1), .second, .val (.int p2), .val (.int p3), .val (.long q4), .second, .val (.int (((p2 &&& (2147483647 : Int32)) - ((p2 &&& (2147483647 : Int32)) / (9 : Int32)) * (9 : Int32)) + (1 : Int32))), .val (.int (p3 &&& (3 : Int32))), .unset, .unset, .unset, .unset, .unset] [])) tgt → Steps p.tables e below (s₁.setTop (mkF m 0 #[.val (.long q1), .second, .val (.int p2), .val (.int p3), .val (.long q4), .second, .unset, .unset, .unset, .unset, .unset, .unset, .unset] [])) tgt := by
    intro tgt kt
    refine XS.iloadN X0.here hx rfl (hb hby at_0) rfl ?_
    show Steps p.tables e below (s₁.setTop (mkF m 1 #[.val (.long q1), .second, .val (.int p2), .val (.int p3), .val (.long q4), .second, .unset, .unset, .unset, .unset, .unset, .unset, .unset] [(.int p2)])) _
    refine X0.ldcInt hx hown (mvT hZ (hw _ (List.mem_of_getElem? (i := 0) rfl))) (g := (mkF m 1 #[.val (.long q1), .second, .val (.int p2), .val (.int p3), .val (.long q4), .second, .unset, .unset, .unset, .unset, .unset, .unset, .unset] [(.int p2)])) rfl (hb hby at_1) _ ?_
    show Steps p.tables e below (s₁.setTop (mkF m 3 #[.val (.long q1), .second, .val (.int p2), .val (.int p3), .val (.long q4), .second, .unset, .unset, .unset, .unset, .unset, .unset, .unset] [(.int (2147483647 : Int32)), (.int p2)])) _
    refine XS.iand X0.here hx rfl (hb hby at_3) rfl ?_
    show Steps p.tables e below (s₁.setTop (mkF m 4 #[.val (.long q1), .second, .val (.int p2), .val (.int p3), .val (.long q4), .second, .unset, .unset, .unset, .unset, .unset, .unset, .unset] [(.int (p2 &&& (2147483647 : Int32)))])) _
    refine XS.bipush X0.here hx rfl (hb hby at_4) ?_
    show Steps p.tables e below (s₁.setTop (mkF m 6 #[.val (.long q1), .second, .val (.int p2), .val (.int p3), .val (.long q4), .second, .unset, .unset, .unset, .unset, .unset, .unset, .unset] [(.int (9 : Int32)), (.int (p2 &&& (2147483647 : Int32)))])) _
    refine XS.irem X0.here hx rfl (hb hby at_6) rfl (by decide) ?_
    show Steps p.tables e below (s₁.setTop (mkF m 7 #[.val (.long q1), .second, .val (.int p2), .val (.int p3), .val (.long q4), .second, .unset, .unset, .unset, .unset, .unset, .unset, .unset] [(.int ((p2 &&& (2147483647 : Int32)) - ((p2 &&& (2147483647 : Int32)) / (9 : Int32)) * (9 : Int32)))])) _
    refine XS.iconst X0.here hx rfl (hb hby at_7) ?_
    show Steps p.tables e below (s₁.setTop (mkF m 8 #[.val (.long q1), .second, .val (.int p2), .val (.int p3), .val (.long q4), .second, .unset, .unset, .unset, .unset, .unset, .unset, .unset] [(.int (1 : Int32)), (.int ((p2 &&& (2147483647 : Int32)) - ((p2 &&& (2147483647 : Int32)) / (9 : Int32)) * (9 : Int32)))])) _
    refine XS.iadd X0.here hx rfl (hb hby at_8) rfl ?_
    show Steps p.tables e below (s₁.setTop (mkF m 9 #[.val (.long q1), .second, .val (.int p2), .val (.int p3), .val (.long q4), .second, .unset, .unset, .unset, .unset, .unset, .unset, .unset] [(.int (((p2 &&& (2147483647 : Int32)) - ((p2 &&& (2147483647 : Int32)) / (9 : Int32)) * (9 : Int32)) + (1 : Int32)))])) _
    refine XS.istore X0.here hx rfl (hb hby at_9) rfl (l' := #[.val (.long q1), .second, .val (.int p2), .val (.int p3), .val (.long q4), .second, .val (.int (((p2 &&& (2147483647 : Int32)) - ((p2 &&& (2147483647 : Int32)) / (9 : Int32)) * (9 : Int32)) + (1 : Int32))), .unset, .unset, .unset, .unset, .unset, .unset]) rfl ?_
    show Steps p.tables e below (s₁.setTop (mkF m 11 #[.val (.long q1), .second, .val (.int p2), .val (.int p3), .val (.long q4), .second, .val (.int (((p2 &&& (2147483647 : Int32)) - ((p2 &&& (2147483647 : Int32)) / (9 : Int32)) * (9 : Int32)) + (1 : Int32))), .unset, .unset, .unset, .unset, .unset, .unset] [])) _
    refine XS.iloadN X0.here hx rfl (hb hby at_11) rfl ?_
    show Steps p.tables e below (s₁.setTop (mkF m 12 #[.val (.long q1), .second, .val (.int p2), .val (.int p3), .val (.long q4), .second, .val (.int (((p2 &&& (2147483647 : Int32)) - ((p2 &&& (2147483647 : Int32)) / (9 : Int32)) * (9 : Int32)) + (1 : Int32))), .unset, .unset, .unset, .unset, .unset, .unset] [(.int p3)])) _
    refine XS.iconst X0.here hx rfl (hb hby at_12) ?_
    show Steps p.tables e below (s₁.setTop (mkF m 13 #[.val (.long q1), .second, .val (.int p2), .val (.int p3), .val (.long q4), .second, .val (.int (((p2 &&& (2147483647 : Int32)) - ((p2 &&& (2147483647 : Int32)) / (9 : Int32)) * (9 : Int32)) + (1 : Int32))), .unset, .unset, .unset, .unset, .unset, .unset] [(.int (3 : Int32)), (.int p3)])) _
    refine XS.iand X0.here hx rfl (hb hby at_13) rfl ?_
    show Steps p.tables e below (s₁.setTop (mkF m 14 #[.val (.long q1), .second, .val (.int p2), .val (.int p3), .val (.long q4), .second, .val (.int (((p2 &&& (2147483647 : Int32)) - ((p2 &&& (2147483647 : Int32)) / (9 : Int32)) * (9 : Int32)) + (1 : Int32))), .unset, .unset, .unset, .unset, .unset, .unset] [(.int (p3 &&& (3 : Int32)))])) _
    refine XS.istore X0.here hx rfl (hb hby at_14) rfl (l' := #[.val (.long q1), .second, .val (.int p2), .val (.int p3), .val (.long q4), .second, .val (.int (((p2 &&& (2147483647 : Int32)) - ((p2 &&& (2147483647 : Int32)) / (9 : Int32)) * (9 : Int32)) + (1 : Int32))), .val (.int (p3 &&& (3 : Int32))), .unset, .unset, .unset, .unset, .unset]) rfl ?_
    show Steps p.tables e below (s₁.setTop (mkF m 16 #[.val (.long q1), .second, .val (.int p2), .val (.int p3), .val (.long q4), .second, .val (.int (((p2 &&& (2147483647 : Int32)) - ((p2 &&& (2147483647 : Int32)) / (9 : Int32)) * (9 : Int32)) + (1 : Int32))), .val (.int (p3 &&& (3 : Int32))), .unset, .unset, .unset, .unset, .unset] [])) _
    exact kt
  refine OwnG.st sg1 ?_
  obtain ⟨z6_2, hz6_2⟩ : ∃ w : Int32, w = (((p2 &&& (2147483647 : Int32)) - ((p2 &&& (2147483647 : Int32)) / (9 : Int32)) * (9 : Int32)) + (1 : Int32)) := ⟨_, rfl⟩
  obtain ⟨z7_3, hz7_3⟩ : ∃ w : Int32, w = (p3 &&& (3 : Int32)) := ⟨_, rfl⟩
  rw [← hz6_2, ← hz7_3]
  show OwnG p e below s _ _ _ s₁ (mkF m 16 #[.val (.long q1), .second, .val (.int p2), .val (.int p3), .val (.long q4), .second, .val (.int z6_2), .val (.int z7_3), .unset, .unset, .unset, .unset, .unset] [])
  have sg4 : ∀ tgt, Steps p.tables e below (s₁.setTop (mkF m 20 #[.val (.long q1), .second, .val (.int p2), .val (.int p3), .val (.long q4), .second, .val (.int z6_2), .val (.int z7_3), .unset, .unset, .unset, .unset, .unset] [(.int (9 : Int32)), (.int z6_2)])) tgt → Steps p.tables e below (s₁.setTop (mkF m 16 #[.val (.long q1), .second, .val (.int p2), .val (.int p3), .val (.long q4), .second, .val (.int z6_2), .val (.int z7_3), .unset, .unset, .unset, .unset, .unset] [])) tgt := by
    intro tgt kt
    refine XS.iload X0.here hx rfl (hb hby at_16) rfl ?_
    show Steps p.tables e below (s₁.setTop (mkF m 18 #[.val (.long q1), .second, .val (.int p2), .val (.int p3), .val (.long q4), .second, .val (.int z6_2), .val (.int z7_3), .unset, .unset, .unset, .unset, .unset] [(.int z6_2)])) _
    refine XS.bipush X0.here hx rfl (hb hby at_18) ?_
    show Steps p.tables e below (s₁.setTop (mkF m 20 #[.val (.long q1), .second, .val (.int p2), .val (.int p3), .val (.long q4), .second, .val (.int z6_2), .val (.int z7_3), .unset, .unset, .unset, .unset, .unset] [(.int (9 : Int32)), (.int z6_2)])) _
    exact kt
  refine OwnG.st sg4 ?_
  obtain ⟨z38_6, hz38_6⟩ : ∃ w : Int64, w = (if z6_2 = (9 : Int32) then (9223372036854775807 : Int64) else (((1 : Int64) <<< (((7 : Int32) * z6_2) &&& 0x3f).toInt64) - (1 : Int64))) := ⟨_, rfl⟩
  have dj7 : ∀ tgt, Steps p.tables e below (s₁.setTop (mkF m 38 #[.val (.long q1), .second, .val (.int p2), .val (.int p3), .val (.long q4), .second, .val (.int z6_2), .val (.int z7_3), .unset, .unset, .unset, .unset, .unset] [(.long z38_6)])) tgt → Steps p.tables e below (s₁.setTop (mkF m 20 #[.val (.long q1), .second, .val (.int p2), .val (.int p3), .val (.long q4), .second, .val (.int z6_2), .val (.int z7_3), .unset, .unset, .unset, .unset, .unset] [(.int (9 : Int32)), (.int z6_2)])) tgt := by
    intro tgt kt
    by_cases hc20_5 : z6_2 = (9 : Int32)
    · have qz38_6 : z38_6 = (9223372036854775807 : Int64) := by rw [hz38_6, if_pos hc20_5]
      rw [qz38_6] at kt
      refine XS.icmpNo X0.here hx rfl (hb hby at_20) rfl (teq hc20_5).2 ?_
      show Steps p.tables e below (s₁.setTop (mkF m 23 #[.val (.long q1), .second, .val (.int p2), .val (.int p3), .val (.long q4), .second, .val (.int z6_2), .val (.int z7_3), .unset, .unset, .unset, .unset, .unset] [])) _
      refine X0.ldc2Long hx hown (mvT hZ (hw _ (List.mem_of_getElem? (i := 12) rfl))) (g := (mkF m 23 #[.val (.long q1), .second, .val (.int p2), .val (.int p3), .val (.long q4), .second, .val (.int z6_2), .val (.int z7_3), .unset, .unset, .unset, .unset, .unset] [])) rfl (hb hby at_23) _ ?_
      show Steps p.tables e below (s₁.setTop (mkF m 26 #[.val (.long q1), .second, .val (.int p2), .val (.int p3), .val (.long q4), .second, .val (.int z6_2), .val (.int z7_3), .unset, .unset, .unset, .unset, .unset] [(.long (9223372036854775807 : Int64))])) _
      refine XS.goto X0.here hx rfl (pc0 := 26) (pc' := 38) rfl (hb hby at_26) (by decide) (by decide) ?_
      show Steps p.tables e below (s₁.setTop (mkF m 38 #[.val (.long q1), .second, .val (.int p2), .val (.int p3), .val (.long q4), .second, .val (.int z6_2), .val (.int z7_3), .unset, .unset, .unset, .unset, .unset] [(.long (9223372036854775807 : Int64))])) _
      exact kt
    · have qz38_6 : z38_6 = (((1 : Int64) <<< (((7 : Int32) * z6_2) &&& 0x3f).toInt64) - (1 : Int64)) := by rw [hz38_6, if_neg hc20_5]
      rw [qz38_6] at kt
      refine XS.icmpYes X0.here hx rfl (pc0 := 20) (pc' := 29) rfl (hb hby at_20) rfl (feq hc20_5).2 (by decide) (by decide) ?_
      show Steps p.tables e below (s₁.setTop (mkF m 29 #[.val (.long q1), .second, .val (.int p2), .val (.int p3), .val (.long q4), .second, .val (.int z6_2), .val (.int z7_3), .unset, .unset, .unset, .unset, .unset] [])) _
      refine XS.lconst X0.here hx rfl (hb hby at_29) ?_
      show Steps p.tables e below (s₁.setTop (mkF m 30 #[.val (.long q1), .second, .val (.int p2), .val (.int p3), .val (.long q4), .second, .val (.int z6_2), .val (.int z7_3), .unset, .unset, .unset, .unset, .unset] [(.long (1 : Int64))])) _
      refine XS.bipush X0.here hx rfl (hb hby at_30) ?_
      show Steps p.tables e below (s₁.setTop (mkF m 32 #[.val (.long q1), .second, .val (.int p2), .val (.int p3), .val (.long q4), .second, .val (.int z6_2), .val (.int z7_3), .unset, .unset, .unset, .unset, .unset] [(.int (7 : Int32)), (.long (1 : Int64))])) _
      refine XS.iload X0.here hx rfl (hb hby at_32) rfl ?_
      show Steps p.tables e below (s₁.setTop (mkF m 34 #[.val (.long q1), .second, .val (.int p2), .val (.int p3), .val (.long q4), .second, .val (.int z6_2), .val (.int z7_3), .unset, .unset, .unset, .unset, .unset] [(.int z6_2), (.int (7 : Int32)), (.long (1 : Int64))])) _
      refine XS.imul X0.here hx rfl (hb hby at_34) rfl ?_
      show Steps p.tables e below (s₁.setTop (mkF m 35 #[.val (.long q1), .second, .val (.int p2), .val (.int p3), .val (.long q4), .second, .val (.int z6_2), .val (.int z7_3), .unset, .unset, .unset, .unset, .unset] [(.int ((7 : Int32) * z6_2)), (.long (1 : Int64))])) _
      refine XS.lshl X0.here hx rfl (hb hby at_35) rfl ?_
      show Steps p.tables e below (s₁.setTop (mkF m 36 #[.val (.long q1), .second, .val (.int p2), .val (.int p3), .val (.long q4), .second, .val (.int z6_2), .val (.int z7_3), .unset, .unset, .unset, .unset, .unset] [(.long ((1 : Int64) <<< (((7 : Int32) * z6_2) &&& 0x3f).toInt64))])) _
      refine XS.lconst X0.here hx rfl (hb hby at_36) ?_
      show Steps p.tables e below (s₁.setTop (mkF m 37 #[.val (.long q1), .second, .val (.int p2), .val (.int p3), .val (.long q4), .second, .val (.int z6_2), .val (.int z7_3), .unset, .unset, .unset, .unset, .unset] [(.long (1 : Int64)), (.long ((1 : Int64) <<< (((7 : Int32) * z6_2) &&& 0x3f).toInt64))])) _
      refine XS.lsub X0.here hx rfl (hb hby at_37) rfl ?_
      show Steps p.tables e below (s₁.setTop (mkF m 38 #[.val (.long q1), .second, .val (.int p2), .val (.int p3), .val (.long q4), .second, .val (.int z6_2), .val (.int z7_3), .unset, .unset, .unset, .unset, .unset] [(.long (((1 : Int64) <<< (((7 : Int32) * z6_2) &&& 0x3f).toInt64) - (1 : Int64)))])) _
      exact kt
  refine OwnG.st dj7 ?_
  have sg8 : ∀ tgt, Steps p.tables e below (s₁.setTop (mkF m 40 #[.val (.long q1), .second, .val (.int p2), .val (.int p3), .val (.long q4), .second, .val (.int z6_2), .val (.int z7_3), .val (.long z38_6), .second, .unset, .unset, .unset] [])) tgt → Steps p.tables e below (s₁.setTop (mkF m 38 #[.val (.long q1), .second, .val (.int p2), .val (.int p3), .val (.long q4), .second, .val (.int z6_2), .val (.int z7_3), .unset, .unset, .unset, .unset, .unset] [(.long z38_6)])) tgt := by
    intro tgt kt
    refine XS.lstore X0.here hx rfl (hb hby at_38) rfl (l' := #[.val (.long q1), .second, .val (.int p2), .val (.int p3), .val (.long q4), .second, .val (.int z6_2), .val (.int z7_3), .val (.long z38_6), .second, .unset, .unset, .unset]) rfl ?_
    show Steps p.tables e below (s₁.setTop (mkF m 40 #[.val (.long q1), .second, .val (.int p2), .val (.int p3), .val (.long q4), .second, .val (.int z6_2), .val (.int z7_3), .val (.long z38_6), .second, .unset, .unset, .unset] [])) _
    exact kt
  refine OwnG.st sg8 ?_
  show OwnG p e below s _ _ _ s₁ (mkF m 40 #[.val (.long q1), .second, .val (.int p2), .val (.int p3), .val (.long q4), .second, .val (.int z6_2), .val (.int z7_3), .val (.long z38_6), .second, .unset, .unset, .unset] [])
  have sg9 : ∀ tgt, Steps p.tables e below (s₁.setTop (mkF m 46 #[.val (.long q1), .second, .val (.int p2), .val (.int p3), .val (.long q4), .second, .val (.int z6_2), .val (.int z7_3), .val (.long z38_6), .second, .val (.long (q1 &&& z38_6)), .second, .unset] [])) tgt → Steps p.tables e below (s₁.setTop (mkF m 40 #[.val (.long q1), .second, .val (.int p2), .val (.int p3), .val (.long q4), .second, .val (.int z6_2), .val (.int z7_3), .val (.long z38_6), .second, .unset, .unset, .unset] [])) tgt := by
    intro tgt kt
    refine XS.lloadN X0.here hx rfl (hb hby at_40) rfl ?_
    show Steps p.tables e below (s₁.setTop (mkF m 41 #[.val (.long q1), .second, .val (.int p2), .val (.int p3), .val (.long q4), .second, .val (.int z6_2), .val (.int z7_3), .val (.long z38_6), .second, .unset, .unset, .unset] [(.long q1)])) _
    refine XS.lload X0.here hx rfl (hb hby at_41) rfl ?_
    show Steps p.tables e below (s₁.setTop (mkF m 43 #[.val (.long q1), .second, .val (.int p2), .val (.int p3), .val (.long q4), .second, .val (.int z6_2), .val (.int z7_3), .val (.long z38_6), .second, .unset, .unset, .unset] [(.long z38_6), (.long q1)])) _
    refine XS.land X0.here hx rfl (hb hby at_43) rfl ?_
    show Steps p.tables e below (s₁.setTop (mkF m 44 #[.val (.long q1), .second, .val (.int p2), .val (.int p3), .val (.long q4), .second, .val (.int z6_2), .val (.int z7_3), .val (.long z38_6), .second, .unset, .unset, .unset] [(.long (q1 &&& z38_6))])) _
    refine XS.lstore X0.here hx rfl (hb hby at_44) rfl (l' := #[.val (.long q1), .second, .val (.int p2), .val (.int p3), .val (.long q4), .second, .val (.int z6_2), .val (.int z7_3), .val (.long z38_6), .second, .val (.long (q1 &&& z38_6)), .second, .unset]) rfl ?_
    show Steps p.tables e below (s₁.setTop (mkF m 46 #[.val (.long q1), .second, .val (.int p2), .val (.int p3), .val (.long q4), .second, .val (.int z6_2), .val (.int z7_3), .val (.long z38_6), .second, .val (.long (q1 &&& z38_6)), .second, .unset] [])) _
    exact kt
  refine OwnG.st sg9 ?_
  obtain ⟨z10_10, hz10_10⟩ : ∃ w : Int64, w = (q1 &&& z38_6) := ⟨_, rfl⟩
  rw [← hz10_10]
  show OwnG p e below s _ _ _ s₁ (mkF m 46 #[.val (.long q1), .second, .val (.int p2), .val (.int p3), .val (.long q4), .second, .val (.int z6_2), .val (.int z7_3), .val (.long z38_6), .second, .val (.long z10_10), .second, .unset] [])
  have hnn0 := own_n9 p2
  rw [← hz6_2] at hnn0
  have hat := own_m3 p3
  rw [← hz7_3] at hat
  have hnn : 1 ≤ z6_2.toInt.toNat ∧ z6_2.toInt.toNat ≤ 9 := by omega
  have sg11 : ∀ tgt, Steps p.tables e below (s₁.setTop (mkF m 48 #[.val (.long q1), .second, .val (.int p2), .val (.int p3), .val (.long q4), .second, .val (.int z6_2), .val (.int z7_3), .val (.long z38_6), .second, .val (.long z10_10), .second, .unset] [(.int (13 : Int32))])) tgt → Steps p.tables e below (s₁.setTop (mkF m 46 #[.val (.long q1), .second, .val (.int p2), .val (.int p3), .val (.long q4), .second, .val (.int z6_2), .val (.int z7_3), .val (.long z38_6), .second, .val (.long z10_10), .second, .unset] [])) tgt := by
    intro tgt kt
    refine XS.bipush X0.here hx rfl (hb hby at_46) ?_
    show Steps p.tables e below (s₁.setTop (mkF m 48 #[.val (.long q1), .second, .val (.int p2), .val (.int p3), .val (.long q4), .second, .val (.int z6_2), .val (.int z7_3), .val (.long z38_6), .second, .val (.long z10_10), .second, .unset] [(.int (13 : Int32))])) _
    exact kt
  refine OwnG.st sg11 ?_
  obtain ⟨T12, h12, k12, X12, e12, E12, A12, st12⟩ := newP X0 hx hZ (hw _ (List.mem_of_getElem? (i := 1) rfl)) e0 (g := (mkF m 48 #[.val (.long q1), .second, .val (.int p2), .val (.int p3), .val (.long q4), .second, .val (.int z6_2), .val (.int z7_3), .val (.long z38_6), .second, .val (.long z10_10), .second, .unset] [(.int (13 : Int32))])) rfl (hb hby at_48) rfl (by decide) (cap := 13) (by decide) (by decide) (by decide) (by decide)
  obtain ⟨b12, g12⟩ : ∃ z, z = h0.size := ⟨_, rfl⟩
  rw [← g12] at A12 st12
  have V12 : OwnA Z h12 b12 .byte 13 (iv' fun _ => 0) := own_newA A12 (by decide)
  have gb_b12 : n0 ≤ b12 := Nat.le_trans Z0 (Nat.le_of_eq g12.symm)
  have Z12 : n0 ≤ h12.size := Nat.le_trans Z0 E12.1
  have X12 : Stand p l e room_1 s m #[(.long q1), (.int p2), (.int p3), (.long q4)] below meth c T12 _ 1 13 := X12
  refine OwnG.st st12 ?_
  show OwnG p e below s _ _ _ T12 (mkF m 50 #[.val (.long q1), .second, .val (.int p2), .val (.int p3), .val (.long q4), .second, .val (.int z6_2), .val (.int z7_3), .val (.long z38_6), .second, .val (.long z10_10), .second, .unset] [(.ref b12)])
  have sg13 : ∀ tgt, Steps p.tables e below (T12.setTop (mkF m 61 #[.val (.long q1), .second, .val (.int p2), .val (.int p3), .val (.long q4), .second, .val (.int z6_2), .val (.int z7_3), .val (.long z38_6), .second, .val (.long z10_10), .second, .val (.ref b12)] [(.int ((((q4.toUInt64 >>> ((0 : Int32) &&& 0x3f).toInt64.toUInt64).toInt64).toInt32).toInt8.toInt32)), (.int (0 : Int32)), (.ref b12)])) tgt → Steps p.tables e below (T12.setTop (mkF m 50 #[.val (.long q1), .second, .val (.int p2), .val (.int p3), .val (.long q4), .second, .val (.int z6_2), .val (.int z7_3), .val (.long z38_6), .second, .val (.long z10_10), .second, .unset] [(.ref b12)])) tgt := by
    intro tgt kt
    refine XS.astore X12.here hx rfl (hb hby at_50) rfl rfl (l' := #[.val (.long q1), .second, .val (.int p2), .val (.int p3), .val (.long q4), .second, .val (.int z6_2), .val (.int z7_3), .val (.long z38_6), .second, .val (.long z10_10), .second, .val (.ref b12)]) rfl ?_
    show Steps p.tables e below (T12.setTop (mkF m 52 #[.val (.long q1), .second, .val (.int p2), .val (.int p3), .val (.long q4), .second, .val (.int z6_2), .val (.int z7_3), .val (.long z38_6), .second, .val (.long z10_10), .second, .val (.ref b12)] [])) _
    refine XS.aload X12.here hx rfl (hb hby at_52) rfl rfl ?_
    show Steps p.tables e below (T12.setTop (mkF m 54 #[.val (.long q1), .second, .val (.int p2), .val (.int p3), .val (.long q4), .second, .val (.int z6_2), .val (.int z7_3), .val (.long z38_6), .second, .val (.long z10_10), .second, .val (.ref b12)] [(.ref b12)])) _
    refine XS.iconst X12.here hx rfl (hb hby at_54) ?_
    show Steps p.tables e below (T12.setTop (mkF m 55 #[.val (.long q1), .second, .val (.int p2), .val (.int p3), .val (.long q4), .second, .val (.int z6_2), .val (.int z7_3), .val (.long z38_6), .second, .val (.long z10_10), .second, .val (.ref b12)] [(.int (0 : Int32)), (.ref b12)])) _
    refine XS.lload X12.here hx rfl (hb hby at_55) rfl ?_
    show Steps p.tables e below (T12.setTop (mkF m 57 #[.val (.long q1), .second, .val (.int p2), .val (.int p3), .val (.long q4), .second, .val (.int z6_2), .val (.int z7_3), .val (.long z38_6), .second, .val (.long z10_10), .second, .val (.ref b12)] [(.long q4), (.int (0 : Int32)), (.ref b12)])) _
    refine XS.iconst X12.here hx rfl (hb hby at_57) ?_
    show Steps p.tables e below (T12.setTop (mkF m 58 #[.val (.long q1), .second, .val (.int p2), .val (.int p3), .val (.long q4), .second, .val (.int z6_2), .val (.int z7_3), .val (.long z38_6), .second, .val (.long z10_10), .second, .val (.ref b12)] [(.int (0 : Int32)), (.long q4), (.int (0 : Int32)), (.ref b12)])) _
    refine XS.lushr X12.here hx rfl (hb hby at_58) rfl ?_
    show Steps p.tables e below (T12.setTop (mkF m 59 #[.val (.long q1), .second, .val (.int p2), .val (.int p3), .val (.long q4), .second, .val (.int z6_2), .val (.int z7_3), .val (.long z38_6), .second, .val (.long z10_10), .second, .val (.ref b12)] [(.long ((q4.toUInt64 >>> ((0 : Int32) &&& 0x3f).toInt64.toUInt64).toInt64)), (.int (0 : Int32)), (.ref b12)])) _
    refine XS.l2i X12.here hx rfl (hb hby at_59) rfl ?_
    show Steps p.tables e below (T12.setTop (mkF m 60 #[.val (.long q1), .second, .val (.int p2), .val (.int p3), .val (.long q4), .second, .val (.int z6_2), .val (.int z7_3), .val (.long z38_6), .second, .val (.long z10_10), .second, .val (.ref b12)] [(.int (((q4.toUInt64 >>> ((0 : Int32) &&& 0x3f).toInt64.toUInt64).toInt64).toInt32)), (.int (0 : Int32)), (.ref b12)])) _
    refine XS.i2b X12.here hx rfl (hb hby at_60) rfl ?_
    show Steps p.tables e below (T12.setTop (mkF m 61 #[.val (.long q1), .second, .val (.int p2), .val (.int p3), .val (.long q4), .second, .val (.int z6_2), .val (.int z7_3), .val (.long z38_6), .second, .val (.long z10_10), .second, .val (.ref b12)] [(.int ((((q4.toUInt64 >>> ((0 : Int32) &&& 0x3f).toInt64.toUInt64).toInt64).toInt32).toInt8.toInt32)), (.int (0 : Int32)), (.ref b12)])) _
    exact kt
  refine OwnG.st sg13 ?_
  obtain ⟨T14, h14, X14, e14, W14, V14, st14⟩ := own_stB V12 X12 hx hZ e12 (by decide) (by decide) (gf := (mkF m 61 #[.val (.long q1), .second, .val (.int p2), .val (.int p3), .val (.long q4), .second, .val (.int z6_2), .val (.int z7_3), .val (.long z38_6), .second, .val (.long z10_10), .second, .val (.ref b12)] [(.int ((((q4.toUInt64 >>> ((0 : Int32) &&& 0x3f).toInt64.toUInt64).toInt64).toInt32).toInt8.toInt32)), (.int (0 : Int32)), (.ref b12)])) rfl rfl (hb hby at_61)
  have V14' : OwnA Z h14 b12 .byte 13 (iv' (updv (fun _ => 0) 0 ((((q4.toUInt64 >>> ((0 : Int32) &&& 0x3f).toInt64.toUInt64).toInt64).toInt32).toInt8.toInt32))) := by have q := V14; rw [Int8.toInt8_toInt32] at q; exact q
  obtain ⟨gs14, hgs14⟩ : ∃ g : Nat → Int32, g = (updv (fun _ => 0) 0 ((((q4.toUInt64 >>> ((0 : Int32) &&& 0x3f).toInt64.toUInt64).toInt64).toInt32).toInt8.toInt32)) := ⟨_, rfl⟩
  have Vg14 : OwnA Z h14 b12 .byte 13 (iv' gs14) := by rw [hgs14]; exact V14'
  have N14 := Fr.snoc X14 N0 gb_b12
  have Z14 : n0 ≤ h14.size := by rw [W14.size]; exact Z12
  refine OwnG.st st14 ?_
  show OwnG p e below s _ _ _ T14 (mkF m 62 #[.val (.long q1), .second, .val (.int p2), .val (.int p3), .val (.long q4), .second, .val (.int z6_2), .val (.int z7_3), .val (.long z38_6), .second, .val (.long z10_10), .second, .val (.ref b12)] [])
  have sg15 : ∀ tgt, Steps p.tables e below (T14.setTop (mkF m 71 #[.val (.long q1), .second, .val (.int p2), .val (.int p3), .val (.long q4), .second, .val (.int z6_2), .val (.int z7_3), .val (.long z38_6), .second, .val (.long z10_10), .second, .val (.ref b12)] [(.int ((((q4.toUInt64 >>> ((5 : Int32) &&& 0x3f).toInt64.toUInt64).toInt64).toInt32).toInt8.toInt32)), (.int (1 : Int32)), (.ref b12)])) tgt → Steps p.tables e below (T14.setTop (mkF m 62 #[.val (.long q1), .second, .val (.int p2), .val (.int p3), .val (.long q4), .second, .val (.int z6_2), .val (.int z7_3), .val (.long z38_6), .second, .val (.long z10_10), .second, .val (.ref b12)] [])) tgt := by
    intro tgt kt
    refine XS.aload X14.here hx rfl (hb hby at_62) rfl rfl ?_
    show Steps p.tables e below (T14.setTop (mkF m 64 #[.val (.long q1), .second, .val (.int p2), .val (.int p3), .val (.long q4), .second, .val (.int z6_2), .val (.int z7_3), .val (.long z38_6), .second, .val (.long z10_10), .second, .val (.ref b12)] [(.ref b12)])) _
    refine XS.iconst X14.here hx rfl (hb hby at_64) ?_
    show Steps p.tables e below (T14.setTop (mkF m 65 #[.val (.long q1), .second, .val (.int p2), .val (.int p3), .val (.long q4), .second, .val (.int z6_2), .val (.int z7_3), .val (.long z38_6), .second, .val (.long z10_10), .second, .val (.ref b12)] [(.int (1 : Int32)), (.ref b12)])) _
    refine XS.lload X14.here hx rfl (hb hby at_65) rfl ?_
    show Steps p.tables e below (T14.setTop (mkF m 67 #[.val (.long q1), .second, .val (.int p2), .val (.int p3), .val (.long q4), .second, .val (.int z6_2), .val (.int z7_3), .val (.long z38_6), .second, .val (.long z10_10), .second, .val (.ref b12)] [(.long q4), (.int (1 : Int32)), (.ref b12)])) _
    refine XS.iconst X14.here hx rfl (hb hby at_67) ?_
    show Steps p.tables e below (T14.setTop (mkF m 68 #[.val (.long q1), .second, .val (.int p2), .val (.int p3), .val (.long q4), .second, .val (.int z6_2), .val (.int z7_3), .val (.long z38_6), .second, .val (.long z10_10), .second, .val (.ref b12)] [(.int (5 : Int32)), (.long q4), (.int (1 : Int32)), (.ref b12)])) _
    refine XS.lushr X14.here hx rfl (hb hby at_68) rfl ?_
    show Steps p.tables e below (T14.setTop (mkF m 69 #[.val (.long q1), .second, .val (.int p2), .val (.int p3), .val (.long q4), .second, .val (.int z6_2), .val (.int z7_3), .val (.long z38_6), .second, .val (.long z10_10), .second, .val (.ref b12)] [(.long ((q4.toUInt64 >>> ((5 : Int32) &&& 0x3f).toInt64.toUInt64).toInt64)), (.int (1 : Int32)), (.ref b12)])) _
    refine XS.l2i X14.here hx rfl (hb hby at_69) rfl ?_
    show Steps p.tables e below (T14.setTop (mkF m 70 #[.val (.long q1), .second, .val (.int p2), .val (.int p3), .val (.long q4), .second, .val (.int z6_2), .val (.int z7_3), .val (.long z38_6), .second, .val (.long z10_10), .second, .val (.ref b12)] [(.int (((q4.toUInt64 >>> ((5 : Int32) &&& 0x3f).toInt64.toUInt64).toInt64).toInt32)), (.int (1 : Int32)), (.ref b12)])) _
    refine XS.i2b X14.here hx rfl (hb hby at_70) rfl ?_
    show Steps p.tables e below (T14.setTop (mkF m 71 #[.val (.long q1), .second, .val (.int p2), .val (.int p3), .val (.long q4), .second, .val (.int z6_2), .val (.int z7_3), .val (.long z38_6), .second, .val (.long z10_10), .second, .val (.ref b12)] [(.int ((((q4.toUInt64 >>> ((5 : Int32) &&& 0x3f).toInt64.toUInt64).toInt64).toInt32).toInt8.toInt32)), (.int (1 : Int32)), (.ref b12)])) _
    exact kt
  refine OwnG.st sg15 ?_
  obtain ⟨T16, h16, X16, e16, W16, V16, st16⟩ := own_stB Vg14 X14 hx hZ e14 (by decide) (by decide) (gf := (mkF m 71 #[.val (.long q1), .second, .val (.int p2), .val (.int p3), .val (.long q4), .second, .val (.int z6_2), .val (.int z7_3), .val (.long z38_6), .second, .val (.long z10_10), .second, .val (.ref b12)] [(.int ((((q4.toUInt64 >>> ((5 : Int32) &&& 0x3f).toInt64.toUInt64).toInt64).toInt32).toInt8.toInt32)), (.int (1 : Int32)), (.ref b12)])) rfl rfl (hb hby at_71)
  have V16' : OwnA Z h16 b12 .byte 13 (iv' (updv gs14 1 ((((q4.toUInt64 >>> ((5 : Int32) &&& 0x3f).toInt64.toUInt64).toInt64).toInt32).toInt8.toInt32))) := by have q := V16; rw [Int8.toInt8_toInt32] at q; exact q
  obtain ⟨gs16, hgs16⟩ : ∃ g : Nat → Int32, g = (updv gs14 1 ((((q4.toUInt64 >>> ((5 : Int32) &&& 0x3f).toInt64.toUInt64).toInt64).toInt32).toInt8.toInt32)) := ⟨_, rfl⟩
  have Vg16 : OwnA Z h16 b12 .byte 13 (iv' gs16) := by rw [hgs16]; exact V16'
  have N16 := Fr.snoc X16 N14 gb_b12
  have Z16 : n0 ≤ h16.size := by rw [W16.size]; exact Z14
  refine OwnG.st st16 ?_
  show OwnG p e below s _ _ _ T16 (mkF m 72 #[.val (.long q1), .second, .val (.int p2), .val (.int p3), .val (.long q4), .second, .val (.int z6_2), .val (.int z7_3), .val (.long z38_6), .second, .val (.long z10_10), .second, .val (.ref b12)] [])
  have sg17 : ∀ tgt, Steps p.tables e below (T16.setTop (mkF m 82 #[.val (.long q1), .second, .val (.int p2), .val (.int p3), .val (.long q4), .second, .val (.int z6_2), .val (.int z7_3), .val (.long z38_6), .second, .val (.long z10_10), .second, .val (.ref b12)] [(.int ((((q4.toUInt64 >>> ((10 : Int32) &&& 0x3f).toInt64.toUInt64).toInt64).toInt32).toInt8.toInt32)), (.int (2 : Int32)), (.ref b12)])) tgt → Steps p.tables e below (T16.setTop (mkF m 72 #[.val (.long q1), .second, .val (.int p2), .val (.int p3), .val (.long q4), .second, .val (.int z6_2), .val (.int z7_3), .val (.long z38_6), .second, .val (.long z10_10), .second, .val (.ref b12)] [])) tgt := by
    intro tgt kt
    refine XS.aload X16.here hx rfl (hb hby at_72) rfl rfl ?_
    show Steps p.tables e below (T16.setTop (mkF m 74 #[.val (.long q1), .second, .val (.int p2), .val (.int p3), .val (.long q4), .second, .val (.int z6_2), .val (.int z7_3), .val (.long z38_6), .second, .val (.long z10_10), .second, .val (.ref b12)] [(.ref b12)])) _
    refine XS.iconst X16.here hx rfl (hb hby at_74) ?_
    show Steps p.tables e below (T16.setTop (mkF m 75 #[.val (.long q1), .second, .val (.int p2), .val (.int p3), .val (.long q4), .second, .val (.int z6_2), .val (.int z7_3), .val (.long z38_6), .second, .val (.long z10_10), .second, .val (.ref b12)] [(.int (2 : Int32)), (.ref b12)])) _
    refine XS.lload X16.here hx rfl (hb hby at_75) rfl ?_
    show Steps p.tables e below (T16.setTop (mkF m 77 #[.val (.long q1), .second, .val (.int p2), .val (.int p3), .val (.long q4), .second, .val (.int z6_2), .val (.int z7_3), .val (.long z38_6), .second, .val (.long z10_10), .second, .val (.ref b12)] [(.long q4), (.int (2 : Int32)), (.ref b12)])) _
    refine XS.bipush X16.here hx rfl (hb hby at_77) ?_
    show Steps p.tables e below (T16.setTop (mkF m 79 #[.val (.long q1), .second, .val (.int p2), .val (.int p3), .val (.long q4), .second, .val (.int z6_2), .val (.int z7_3), .val (.long z38_6), .second, .val (.long z10_10), .second, .val (.ref b12)] [(.int (10 : Int32)), (.long q4), (.int (2 : Int32)), (.ref b12)])) _
    refine XS.lushr X16.here hx rfl (hb hby at_79) rfl ?_
    show Steps p.tables e below (T16.setTop (mkF m 80 #[.val (.long q1), .second, .val (.int p2), .val (.int p3), .val (.long q4), .second, .val (.int z6_2), .val (.int z7_3), .val (.long z38_6), .second, .val (.long z10_10), .second, .val (.ref b12)] [(.long ((q4.toUInt64 >>> ((10 : Int32) &&& 0x3f).toInt64.toUInt64).toInt64)), (.int (2 : Int32)), (.ref b12)])) _
    refine XS.l2i X16.here hx rfl (hb hby at_80) rfl ?_
    show Steps p.tables e below (T16.setTop (mkF m 81 #[.val (.long q1), .second, .val (.int p2), .val (.int p3), .val (.long q4), .second, .val (.int z6_2), .val (.int z7_3), .val (.long z38_6), .second, .val (.long z10_10), .second, .val (.ref b12)] [(.int (((q4.toUInt64 >>> ((10 : Int32) &&& 0x3f).toInt64.toUInt64).toInt64).toInt32)), (.int (2 : Int32)), (.ref b12)])) _
    refine XS.i2b X16.here hx rfl (hb hby at_81) rfl ?_
    show Steps p.tables e below (T16.setTop (mkF m 82 #[.val (.long q1), .second, .val (.int p2), .val (.int p3), .val (.long q4), .second, .val (.int z6_2), .val (.int z7_3), .val (.long z38_6), .second, .val (.long z10_10), .second, .val (.ref b12)] [(.int ((((q4.toUInt64 >>> ((10 : Int32) &&& 0x3f).toInt64.toUInt64).toInt64).toInt32).toInt8.toInt32)), (.int (2 : Int32)), (.ref b12)])) _
    exact kt
  refine OwnG.st sg17 ?_
  obtain ⟨T18, h18, X18, e18, W18, V18, st18⟩ := own_stB Vg16 X16 hx hZ e16 (by decide) (by decide) (gf := (mkF m 82 #[.val (.long q1), .second, .val (.int p2), .val (.int p3), .val (.long q4), .second, .val (.int z6_2), .val (.int z7_3), .val (.long z38_6), .second, .val (.long z10_10), .second, .val (.ref b12)] [(.int ((((q4.toUInt64 >>> ((10 : Int32) &&& 0x3f).toInt64.toUInt64).toInt64).toInt32).toInt8.toInt32)), (.int (2 : Int32)), (.ref b12)])) rfl rfl (hb hby at_82)
  have V18' : OwnA Z h18 b12 .byte 13 (iv' (updv gs16 2 ((((q4.toUInt64 >>> ((10 : Int32) &&& 0x3f).toInt64.toUInt64).toInt64).toInt32).toInt8.toInt32))) := by have q := V18; rw [Int8.toInt8_toInt32] at q; exact q
  obtain ⟨gs18, hgs18⟩ : ∃ g : Nat → Int32, g = (updv gs16 2 ((((q4.toUInt64 >>> ((10 : Int32) &&& 0x3f).toInt64.toUInt64).toInt64).toInt32).toInt8.toInt32)) := ⟨_, rfl⟩
  have Vg18 : OwnA Z h18 b12 .byte 13 (iv' gs18) := by rw [hgs18]; exact V18'
  have N18 := Fr.snoc X18 N16 gb_b12
  have Z18 : n0 ≤ h18.size := by rw [W18.size]; exact Z16
  refine OwnG.st st18 ?_
  show OwnG p e below s _ _ _ T18 (mkF m 83 #[.val (.long q1), .second, .val (.int p2), .val (.int p3), .val (.long q4), .second, .val (.int z6_2), .val (.int z7_3), .val (.long z38_6), .second, .val (.long z10_10), .second, .val (.ref b12)] [])
  have sg19 : ∀ tgt, Steps p.tables e below (T18.setTop (mkF m 93 #[.val (.long q1), .second, .val (.int p2), .val (.int p3), .val (.long q4), .second, .val (.int z6_2), .val (.int z7_3), .val (.long z38_6), .second, .val (.long z10_10), .second, .val (.ref b12)] [(.int ((((q4.toUInt64 >>> ((15 : Int32) &&& 0x3f).toInt64.toUInt64).toInt64).toInt32).toInt8.toInt32)), (.int (3 : Int32)), (.ref b12)])) tgt → Steps p.tables e below (T18.setTop (mkF m 83 #[.val (.long q1), .second, .val (.int p2), .val (.int p3), .val (.long q4), .second, .val (.int z6_2), .val (.int z7_3), .val (.long z38_6), .second, .val (.long z10_10), .second, .val (.ref b12)] [])) tgt := by
    intro tgt kt
    refine XS.aload X18.here hx rfl (hb hby at_83) rfl rfl ?_
    show Steps p.tables e below (T18.setTop (mkF m 85 #[.val (.long q1), .second, .val (.int p2), .val (.int p3), .val (.long q4), .second, .val (.int z6_2), .val (.int z7_3), .val (.long z38_6), .second, .val (.long z10_10), .second, .val (.ref b12)] [(.ref b12)])) _
    refine XS.iconst X18.here hx rfl (hb hby at_85) ?_
    show Steps p.tables e below (T18.setTop (mkF m 86 #[.val (.long q1), .second, .val (.int p2), .val (.int p3), .val (.long q4), .second, .val (.int z6_2), .val (.int z7_3), .val (.long z38_6), .second, .val (.long z10_10), .second, .val (.ref b12)] [(.int (3 : Int32)), (.ref b12)])) _
    refine XS.lload X18.here hx rfl (hb hby at_86) rfl ?_
    show Steps p.tables e below (T18.setTop (mkF m 88 #[.val (.long q1), .second, .val (.int p2), .val (.int p3), .val (.long q4), .second, .val (.int z6_2), .val (.int z7_3), .val (.long z38_6), .second, .val (.long z10_10), .second, .val (.ref b12)] [(.long q4), (.int (3 : Int32)), (.ref b12)])) _
    refine XS.bipush X18.here hx rfl (hb hby at_88) ?_
    show Steps p.tables e below (T18.setTop (mkF m 90 #[.val (.long q1), .second, .val (.int p2), .val (.int p3), .val (.long q4), .second, .val (.int z6_2), .val (.int z7_3), .val (.long z38_6), .second, .val (.long z10_10), .second, .val (.ref b12)] [(.int (15 : Int32)), (.long q4), (.int (3 : Int32)), (.ref b12)])) _
    refine XS.lushr X18.here hx rfl (hb hby at_90) rfl ?_
    show Steps p.tables e below (T18.setTop (mkF m 91 #[.val (.long q1), .second, .val (.int p2), .val (.int p3), .val (.long q4), .second, .val (.int z6_2), .val (.int z7_3), .val (.long z38_6), .second, .val (.long z10_10), .second, .val (.ref b12)] [(.long ((q4.toUInt64 >>> ((15 : Int32) &&& 0x3f).toInt64.toUInt64).toInt64)), (.int (3 : Int32)), (.ref b12)])) _
    refine XS.l2i X18.here hx rfl (hb hby at_91) rfl ?_
    show Steps p.tables e below (T18.setTop (mkF m 92 #[.val (.long q1), .second, .val (.int p2), .val (.int p3), .val (.long q4), .second, .val (.int z6_2), .val (.int z7_3), .val (.long z38_6), .second, .val (.long z10_10), .second, .val (.ref b12)] [(.int (((q4.toUInt64 >>> ((15 : Int32) &&& 0x3f).toInt64.toUInt64).toInt64).toInt32)), (.int (3 : Int32)), (.ref b12)])) _
    refine XS.i2b X18.here hx rfl (hb hby at_92) rfl ?_
    show Steps p.tables e below (T18.setTop (mkF m 93 #[.val (.long q1), .second, .val (.int p2), .val (.int p3), .val (.long q4), .second, .val (.int z6_2), .val (.int z7_3), .val (.long z38_6), .second, .val (.long z10_10), .second, .val (.ref b12)] [(.int ((((q4.toUInt64 >>> ((15 : Int32) &&& 0x3f).toInt64.toUInt64).toInt64).toInt32).toInt8.toInt32)), (.int (3 : Int32)), (.ref b12)])) _
    exact kt
  refine OwnG.st sg19 ?_
  obtain ⟨T20, h20, X20, e20, W20, V20, st20⟩ := own_stB Vg18 X18 hx hZ e18 (by decide) (by decide) (gf := (mkF m 93 #[.val (.long q1), .second, .val (.int p2), .val (.int p3), .val (.long q4), .second, .val (.int z6_2), .val (.int z7_3), .val (.long z38_6), .second, .val (.long z10_10), .second, .val (.ref b12)] [(.int ((((q4.toUInt64 >>> ((15 : Int32) &&& 0x3f).toInt64.toUInt64).toInt64).toInt32).toInt8.toInt32)), (.int (3 : Int32)), (.ref b12)])) rfl rfl (hb hby at_93)
  have V20' : OwnA Z h20 b12 .byte 13 (iv' (updv gs18 3 ((((q4.toUInt64 >>> ((15 : Int32) &&& 0x3f).toInt64.toUInt64).toInt64).toInt32).toInt8.toInt32))) := by have q := V20; rw [Int8.toInt8_toInt32] at q; exact q
  obtain ⟨gs20, hgs20⟩ : ∃ g : Nat → Int32, g = (updv gs18 3 ((((q4.toUInt64 >>> ((15 : Int32) &&& 0x3f).toInt64.toUInt64).toInt64).toInt32).toInt8.toInt32)) := ⟨_, rfl⟩
  have Vg20 : OwnA Z h20 b12 .byte 13 (iv' gs20) := by rw [hgs20]; exact V20'
  have N20 := Fr.snoc X20 N18 gb_b12
  have Z20 : n0 ≤ h20.size := by rw [W20.size]; exact Z18
  refine OwnG.st st20 ?_
  show OwnG p e below s _ _ _ T20 (mkF m 94 #[.val (.long q1), .second, .val (.int p2), .val (.int p3), .val (.long q4), .second, .val (.int z6_2), .val (.int z7_3), .val (.long z38_6), .second, .val (.long z10_10), .second, .val (.ref b12)] [])
  have sg21 : ∀ tgt, Steps p.tables e below (T20.setTop (mkF m 104 #[.val (.long q1), .second, .val (.int p2), .val (.int p3), .val (.long q4), .second, .val (.int z6_2), .val (.int z7_3), .val (.long z38_6), .second, .val (.long z10_10), .second, .val (.ref b12)] [(.int ((((q4.toUInt64 >>> ((20 : Int32) &&& 0x3f).toInt64.toUInt64).toInt64).toInt32).toInt8.toInt32)), (.int (4 : Int32)), (.ref b12)])) tgt → Steps p.tables e below (T20.setTop (mkF m 94 #[.val (.long q1), .second, .val (.int p2), .val (.int p3), .val (.long q4), .second, .val (.int z6_2), .val (.int z7_3), .val (.long z38_6), .second, .val (.long z10_10), .second, .val (.ref b12)] [])) tgt := by
    intro tgt kt
    refine XS.aload X20.here hx rfl (hb hby at_94) rfl rfl ?_
    show Steps p.tables e below (T20.setTop (mkF m 96 #[.val (.long q1), .second, .val (.int p2), .val (.int p3), .val (.long q4), .second, .val (.int z6_2), .val (.int z7_3), .val (.long z38_6), .second, .val (.long z10_10), .second, .val (.ref b12)] [(.ref b12)])) _
    refine XS.iconst X20.here hx rfl (hb hby at_96) ?_
    show Steps p.tables e below (T20.setTop (mkF m 97 #[.val (.long q1), .second, .val (.int p2), .val (.int p3), .val (.long q4), .second, .val (.int z6_2), .val (.int z7_3), .val (.long z38_6), .second, .val (.long z10_10), .second, .val (.ref b12)] [(.int (4 : Int32)), (.ref b12)])) _
    refine XS.lload X20.here hx rfl (hb hby at_97) rfl ?_
    show Steps p.tables e below (T20.setTop (mkF m 99 #[.val (.long q1), .second, .val (.int p2), .val (.int p3), .val (.long q4), .second, .val (.int z6_2), .val (.int z7_3), .val (.long z38_6), .second, .val (.long z10_10), .second, .val (.ref b12)] [(.long q4), (.int (4 : Int32)), (.ref b12)])) _
    refine XS.bipush X20.here hx rfl (hb hby at_99) ?_
    show Steps p.tables e below (T20.setTop (mkF m 101 #[.val (.long q1), .second, .val (.int p2), .val (.int p3), .val (.long q4), .second, .val (.int z6_2), .val (.int z7_3), .val (.long z38_6), .second, .val (.long z10_10), .second, .val (.ref b12)] [(.int (20 : Int32)), (.long q4), (.int (4 : Int32)), (.ref b12)])) _
    refine XS.lushr X20.here hx rfl (hb hby at_101) rfl ?_
    show Steps p.tables e below (T20.setTop (mkF m 102 #[.val (.long q1), .second, .val (.int p2), .val (.int p3), .val (.long q4), .second, .val (.int z6_2), .val (.int z7_3), .val (.long z38_6), .second, .val (.long z10_10), .second, .val (.ref b12)] [(.long ((q4.toUInt64 >>> ((20 : Int32) &&& 0x3f).toInt64.toUInt64).toInt64)), (.int (4 : Int32)), (.ref b12)])) _
    refine XS.l2i X20.here hx rfl (hb hby at_102) rfl ?_
    show Steps p.tables e below (T20.setTop (mkF m 103 #[.val (.long q1), .second, .val (.int p2), .val (.int p3), .val (.long q4), .second, .val (.int z6_2), .val (.int z7_3), .val (.long z38_6), .second, .val (.long z10_10), .second, .val (.ref b12)] [(.int (((q4.toUInt64 >>> ((20 : Int32) &&& 0x3f).toInt64.toUInt64).toInt64).toInt32)), (.int (4 : Int32)), (.ref b12)])) _
    refine XS.i2b X20.here hx rfl (hb hby at_103) rfl ?_
    show Steps p.tables e below (T20.setTop (mkF m 104 #[.val (.long q1), .second, .val (.int p2), .val (.int p3), .val (.long q4), .second, .val (.int z6_2), .val (.int z7_3), .val (.long z38_6), .second, .val (.long z10_10), .second, .val (.ref b12)] [(.int ((((q4.toUInt64 >>> ((20 : Int32) &&& 0x3f).toInt64.toUInt64).toInt64).toInt32).toInt8.toInt32)), (.int (4 : Int32)), (.ref b12)])) _
    exact kt
  refine OwnG.st sg21 ?_
  obtain ⟨T22, h22, X22, e22, W22, V22, st22⟩ := own_stB Vg20 X20 hx hZ e20 (by decide) (by decide) (gf := (mkF m 104 #[.val (.long q1), .second, .val (.int p2), .val (.int p3), .val (.long q4), .second, .val (.int z6_2), .val (.int z7_3), .val (.long z38_6), .second, .val (.long z10_10), .second, .val (.ref b12)] [(.int ((((q4.toUInt64 >>> ((20 : Int32) &&& 0x3f).toInt64.toUInt64).toInt64).toInt32).toInt8.toInt32)), (.int (4 : Int32)), (.ref b12)])) rfl rfl (hb hby at_104)
  have V22' : OwnA Z h22 b12 .byte 13 (iv' (updv gs20 4 ((((q4.toUInt64 >>> ((20 : Int32) &&& 0x3f).toInt64.toUInt64).toInt64).toInt32).toInt8.toInt32))) := by have q := V22; rw [Int8.toInt8_toInt32] at q; exact q
  obtain ⟨gs22, hgs22⟩ : ∃ g : Nat → Int32, g = (updv gs20 4 ((((q4.toUInt64 >>> ((20 : Int32) &&& 0x3f).toInt64.toUInt64).toInt64).toInt32).toInt8.toInt32)) := ⟨_, rfl⟩
  have Vg22 : OwnA Z h22 b12 .byte 13 (iv' gs22) := by rw [hgs22]; exact V22'
  have N22 := Fr.snoc X22 N20 gb_b12
  have Z22 : n0 ≤ h22.size := by rw [W22.size]; exact Z20
  refine OwnG.st st22 ?_
  show OwnG p e below s _ _ _ T22 (mkF m 105 #[.val (.long q1), .second, .val (.int p2), .val (.int p3), .val (.long q4), .second, .val (.int z6_2), .val (.int z7_3), .val (.long z38_6), .second, .val (.long z10_10), .second, .val (.ref b12)] [])
  have sg23 : ∀ tgt, Steps p.tables e below (T22.setTop (mkF m 115 #[.val (.long q1), .second, .val (.int p2), .val (.int p3), .val (.long q4), .second, .val (.int z6_2), .val (.int z7_3), .val (.long z38_6), .second, .val (.long z10_10), .second, .val (.ref b12)] [(.int ((((q4.toUInt64 >>> ((25 : Int32) &&& 0x3f).toInt64.toUInt64).toInt64).toInt32).toInt8.toInt32)), (.int (5 : Int32)), (.ref b12)])) tgt → Steps p.tables e below (T22.setTop (mkF m 105 #[.val (.long q1), .second, .val (.int p2), .val (.int p3), .val (.long q4), .second, .val (.int z6_2), .val (.int z7_3), .val (.long z38_6), .second, .val (.long z10_10), .second, .val (.ref b12)] [])) tgt := by
    intro tgt kt
    refine XS.aload X22.here hx rfl (hb hby at_105) rfl rfl ?_
    show Steps p.tables e below (T22.setTop (mkF m 107 #[.val (.long q1), .second, .val (.int p2), .val (.int p3), .val (.long q4), .second, .val (.int z6_2), .val (.int z7_3), .val (.long z38_6), .second, .val (.long z10_10), .second, .val (.ref b12)] [(.ref b12)])) _
    refine XS.iconst X22.here hx rfl (hb hby at_107) ?_
    show Steps p.tables e below (T22.setTop (mkF m 108 #[.val (.long q1), .second, .val (.int p2), .val (.int p3), .val (.long q4), .second, .val (.int z6_2), .val (.int z7_3), .val (.long z38_6), .second, .val (.long z10_10), .second, .val (.ref b12)] [(.int (5 : Int32)), (.ref b12)])) _
    refine XS.lload X22.here hx rfl (hb hby at_108) rfl ?_
    show Steps p.tables e below (T22.setTop (mkF m 110 #[.val (.long q1), .second, .val (.int p2), .val (.int p3), .val (.long q4), .second, .val (.int z6_2), .val (.int z7_3), .val (.long z38_6), .second, .val (.long z10_10), .second, .val (.ref b12)] [(.long q4), (.int (5 : Int32)), (.ref b12)])) _
    refine XS.bipush X22.here hx rfl (hb hby at_110) ?_
    show Steps p.tables e below (T22.setTop (mkF m 112 #[.val (.long q1), .second, .val (.int p2), .val (.int p3), .val (.long q4), .second, .val (.int z6_2), .val (.int z7_3), .val (.long z38_6), .second, .val (.long z10_10), .second, .val (.ref b12)] [(.int (25 : Int32)), (.long q4), (.int (5 : Int32)), (.ref b12)])) _
    refine XS.lushr X22.here hx rfl (hb hby at_112) rfl ?_
    show Steps p.tables e below (T22.setTop (mkF m 113 #[.val (.long q1), .second, .val (.int p2), .val (.int p3), .val (.long q4), .second, .val (.int z6_2), .val (.int z7_3), .val (.long z38_6), .second, .val (.long z10_10), .second, .val (.ref b12)] [(.long ((q4.toUInt64 >>> ((25 : Int32) &&& 0x3f).toInt64.toUInt64).toInt64)), (.int (5 : Int32)), (.ref b12)])) _
    refine XS.l2i X22.here hx rfl (hb hby at_113) rfl ?_
    show Steps p.tables e below (T22.setTop (mkF m 114 #[.val (.long q1), .second, .val (.int p2), .val (.int p3), .val (.long q4), .second, .val (.int z6_2), .val (.int z7_3), .val (.long z38_6), .second, .val (.long z10_10), .second, .val (.ref b12)] [(.int (((q4.toUInt64 >>> ((25 : Int32) &&& 0x3f).toInt64.toUInt64).toInt64).toInt32)), (.int (5 : Int32)), (.ref b12)])) _
    refine XS.i2b X22.here hx rfl (hb hby at_114) rfl ?_
    show Steps p.tables e below (T22.setTop (mkF m 115 #[.val (.long q1), .second, .val (.int p2), .val (.int p3), .val (.long q4), .second, .val (.int z6_2), .val (.int z7_3), .val (.long z38_6), .second, .val (.long z10_10), .second, .val (.ref b12)] [(.int ((((q4.toUInt64 >>> ((25 : Int32) &&& 0x3f).toInt64.toUInt64).toInt64).toInt32).toInt8.toInt32)), (.int (5 : Int32)), (.ref b12)])) _
    exact kt
  refine OwnG.st sg23 ?_
  obtain ⟨T24, h24, X24, e24, W24, V24, st24⟩ := own_stB Vg22 X22 hx hZ e22 (by decide) (by decide) (gf := (mkF m 115 #[.val (.long q1), .second, .val (.int p2), .val (.int p3), .val (.long q4), .second, .val (.int z6_2), .val (.int z7_3), .val (.long z38_6), .second, .val (.long z10_10), .second, .val (.ref b12)] [(.int ((((q4.toUInt64 >>> ((25 : Int32) &&& 0x3f).toInt64.toUInt64).toInt64).toInt32).toInt8.toInt32)), (.int (5 : Int32)), (.ref b12)])) rfl rfl (hb hby at_115)
  have V24' : OwnA Z h24 b12 .byte 13 (iv' (updv gs22 5 ((((q4.toUInt64 >>> ((25 : Int32) &&& 0x3f).toInt64.toUInt64).toInt64).toInt32).toInt8.toInt32))) := by have q := V24; rw [Int8.toInt8_toInt32] at q; exact q
  obtain ⟨gs24, hgs24⟩ : ∃ g : Nat → Int32, g = (updv gs22 5 ((((q4.toUInt64 >>> ((25 : Int32) &&& 0x3f).toInt64.toUInt64).toInt64).toInt32).toInt8.toInt32)) := ⟨_, rfl⟩
  have Vg24 : OwnA Z h24 b12 .byte 13 (iv' gs24) := by rw [hgs24]; exact V24'
  have N24 := Fr.snoc X24 N22 gb_b12
  have Z24 : n0 ≤ h24.size := by rw [W24.size]; exact Z22
  refine OwnG.st st24 ?_
  show OwnG p e below s _ _ _ T24 (mkF m 116 #[.val (.long q1), .second, .val (.int p2), .val (.int p3), .val (.long q4), .second, .val (.int z6_2), .val (.int z7_3), .val (.long z38_6), .second, .val (.long z10_10), .second, .val (.ref b12)] [])
  have sg25 : ∀ tgt, Steps p.tables e below (T24.setTop (mkF m 127 #[.val (.long q1), .second, .val (.int p2), .val (.int p3), .val (.long q4), .second, .val (.int z6_2), .val (.int z7_3), .val (.long z38_6), .second, .val (.long z10_10), .second, .val (.ref b12)] [(.int ((((q4.toUInt64 >>> ((30 : Int32) &&& 0x3f).toInt64.toUInt64).toInt64).toInt32).toInt8.toInt32)), (.int (6 : Int32)), (.ref b12)])) tgt → Steps p.tables e below (T24.setTop (mkF m 116 #[.val (.long q1), .second, .val (.int p2), .val (.int p3), .val (.long q4), .second, .val (.int z6_2), .val (.int z7_3), .val (.long z38_6), .second, .val (.long z10_10), .second, .val (.ref b12)] [])) tgt := by
    intro tgt kt
    refine XS.aload X24.here hx rfl (hb hby at_116) rfl rfl ?_
    show Steps p.tables e below (T24.setTop (mkF m 118 #[.val (.long q1), .second, .val (.int p2), .val (.int p3), .val (.long q4), .second, .val (.int z6_2), .val (.int z7_3), .val (.long z38_6), .second, .val (.long z10_10), .second, .val (.ref b12)] [(.ref b12)])) _
    refine XS.bipush X24.here hx rfl (hb hby at_118) ?_
    show Steps p.tables e below (T24.setTop (mkF m 120 #[.val (.long q1), .second, .val (.int p2), .val (.int p3), .val (.long q4), .second, .val (.int z6_2), .val (.int z7_3), .val (.long z38_6), .second, .val (.long z10_10), .second, .val (.ref b12)] [(.int (6 : Int32)), (.ref b12)])) _
    refine XS.lload X24.here hx rfl (hb hby at_120) rfl ?_
    show Steps p.tables e below (T24.setTop (mkF m 122 #[.val (.long q1), .second, .val (.int p2), .val (.int p3), .val (.long q4), .second, .val (.int z6_2), .val (.int z7_3), .val (.long z38_6), .second, .val (.long z10_10), .second, .val (.ref b12)] [(.long q4), (.int (6 : Int32)), (.ref b12)])) _
    refine XS.bipush X24.here hx rfl (hb hby at_122) ?_
    show Steps p.tables e below (T24.setTop (mkF m 124 #[.val (.long q1), .second, .val (.int p2), .val (.int p3), .val (.long q4), .second, .val (.int z6_2), .val (.int z7_3), .val (.long z38_6), .second, .val (.long z10_10), .second, .val (.ref b12)] [(.int (30 : Int32)), (.long q4), (.int (6 : Int32)), (.ref b12)])) _
    refine XS.lushr X24.here hx rfl (hb hby at_124) rfl ?_
    show Steps p.tables e below (T24.setTop (mkF m 125 #[.val (.long q1), .second, .val (.int p2), .val (.int p3), .val (.long q4), .second, .val (.int z6_2), .val (.int z7_3), .val (.long z38_6), .second, .val (.long z10_10), .second, .val (.ref b12)] [(.long ((q4.toUInt64 >>> ((30 : Int32) &&& 0x3f).toInt64.toUInt64).toInt64)), (.int (6 : Int32)), (.ref b12)])) _
    refine XS.l2i X24.here hx rfl (hb hby at_125) rfl ?_
    show Steps p.tables e below (T24.setTop (mkF m 126 #[.val (.long q1), .second, .val (.int p2), .val (.int p3), .val (.long q4), .second, .val (.int z6_2), .val (.int z7_3), .val (.long z38_6), .second, .val (.long z10_10), .second, .val (.ref b12)] [(.int (((q4.toUInt64 >>> ((30 : Int32) &&& 0x3f).toInt64.toUInt64).toInt64).toInt32)), (.int (6 : Int32)), (.ref b12)])) _
    refine XS.i2b X24.here hx rfl (hb hby at_126) rfl ?_
    show Steps p.tables e below (T24.setTop (mkF m 127 #[.val (.long q1), .second, .val (.int p2), .val (.int p3), .val (.long q4), .second, .val (.int z6_2), .val (.int z7_3), .val (.long z38_6), .second, .val (.long z10_10), .second, .val (.ref b12)] [(.int ((((q4.toUInt64 >>> ((30 : Int32) &&& 0x3f).toInt64.toUInt64).toInt64).toInt32).toInt8.toInt32)), (.int (6 : Int32)), (.ref b12)])) _
    exact kt
  refine OwnG.st sg25 ?_
  obtain ⟨T26, h26, X26, e26, W26, V26, st26⟩ := own_stB Vg24 X24 hx hZ e24 (by decide) (by decide) (gf := (mkF m 127 #[.val (.long q1), .second, .val (.int p2), .val (.int p3), .val (.long q4), .second, .val (.int z6_2), .val (.int z7_3), .val (.long z38_6), .second, .val (.long z10_10), .second, .val (.ref b12)] [(.int ((((q4.toUInt64 >>> ((30 : Int32) &&& 0x3f).toInt64.toUInt64).toInt64).toInt32).toInt8.toInt32)), (.int (6 : Int32)), (.ref b12)])) rfl rfl (hb hby at_127)
  have V26' : OwnA Z h26 b12 .byte 13 (iv' (updv gs24 6 ((((q4.toUInt64 >>> ((30 : Int32) &&& 0x3f).toInt64.toUInt64).toInt64).toInt32).toInt8.toInt32))) := by have q := V26; rw [Int8.toInt8_toInt32] at q; exact q
  obtain ⟨gs26, hgs26⟩ : ∃ g : Nat → Int32, g = (updv gs24 6 ((((q4.toUInt64 >>> ((30 : Int32) &&& 0x3f).toInt64.toUInt64).toInt64).toInt32).toInt8.toInt32)) := ⟨_, rfl⟩
  have Vg26 : OwnA Z h26 b12 .byte 13 (iv' gs26) := by rw [hgs26]; exact V26'
  have N26 := Fr.snoc X26 N24 gb_b12
  have Z26 : n0 ≤ h26.size := by rw [W26.size]; exact Z24
  refine OwnG.st st26 ?_
  show OwnG p e below s _ _ _ T26 (mkF m 128 #[.val (.long q1), .second, .val (.int p2), .val (.int p3), .val (.long q4), .second, .val (.int z6_2), .val (.int z7_3), .val (.long z38_6), .second, .val (.long z10_10), .second, .val (.ref b12)] [])
  have sg27 : ∀ tgt, Steps p.tables e below (T26.setTop (mkF m 139 #[.val (.long q1), .second, .val (.int p2), .val (.int p3), .val (.long q4), .second, .val (.int z6_2), .val (.int z7_3), .val (.long z38_6), .second, .val (.long z10_10), .second, .val (.ref b12)] [(.int ((((q4.toUInt64 >>> ((35 : Int32) &&& 0x3f).toInt64.toUInt64).toInt64).toInt32).toInt8.toInt32)), (.int (7 : Int32)), (.ref b12)])) tgt → Steps p.tables e below (T26.setTop (mkF m 128 #[.val (.long q1), .second, .val (.int p2), .val (.int p3), .val (.long q4), .second, .val (.int z6_2), .val (.int z7_3), .val (.long z38_6), .second, .val (.long z10_10), .second, .val (.ref b12)] [])) tgt := by
    intro tgt kt
    refine XS.aload X26.here hx rfl (hb hby at_128) rfl rfl ?_
    show Steps p.tables e below (T26.setTop (mkF m 130 #[.val (.long q1), .second, .val (.int p2), .val (.int p3), .val (.long q4), .second, .val (.int z6_2), .val (.int z7_3), .val (.long z38_6), .second, .val (.long z10_10), .second, .val (.ref b12)] [(.ref b12)])) _
    refine XS.bipush X26.here hx rfl (hb hby at_130) ?_
    show Steps p.tables e below (T26.setTop (mkF m 132 #[.val (.long q1), .second, .val (.int p2), .val (.int p3), .val (.long q4), .second, .val (.int z6_2), .val (.int z7_3), .val (.long z38_6), .second, .val (.long z10_10), .second, .val (.ref b12)] [(.int (7 : Int32)), (.ref b12)])) _
    refine XS.lload X26.here hx rfl (hb hby at_132) rfl ?_
    show Steps p.tables e below (T26.setTop (mkF m 134 #[.val (.long q1), .second, .val (.int p2), .val (.int p3), .val (.long q4), .second, .val (.int z6_2), .val (.int z7_3), .val (.long z38_6), .second, .val (.long z10_10), .second, .val (.ref b12)] [(.long q4), (.int (7 : Int32)), (.ref b12)])) _
    refine XS.bipush X26.here hx rfl (hb hby at_134) ?_
    show Steps p.tables e below (T26.setTop (mkF m 136 #[.val (.long q1), .second, .val (.int p2), .val (.int p3), .val (.long q4), .second, .val (.int z6_2), .val (.int z7_3), .val (.long z38_6), .second, .val (.long z10_10), .second, .val (.ref b12)] [(.int (35 : Int32)), (.long q4), (.int (7 : Int32)), (.ref b12)])) _
    refine XS.lushr X26.here hx rfl (hb hby at_136) rfl ?_
    show Steps p.tables e below (T26.setTop (mkF m 137 #[.val (.long q1), .second, .val (.int p2), .val (.int p3), .val (.long q4), .second, .val (.int z6_2), .val (.int z7_3), .val (.long z38_6), .second, .val (.long z10_10), .second, .val (.ref b12)] [(.long ((q4.toUInt64 >>> ((35 : Int32) &&& 0x3f).toInt64.toUInt64).toInt64)), (.int (7 : Int32)), (.ref b12)])) _
    refine XS.l2i X26.here hx rfl (hb hby at_137) rfl ?_
    show Steps p.tables e below (T26.setTop (mkF m 138 #[.val (.long q1), .second, .val (.int p2), .val (.int p3), .val (.long q4), .second, .val (.int z6_2), .val (.int z7_3), .val (.long z38_6), .second, .val (.long z10_10), .second, .val (.ref b12)] [(.int (((q4.toUInt64 >>> ((35 : Int32) &&& 0x3f).toInt64.toUInt64).toInt64).toInt32)), (.int (7 : Int32)), (.ref b12)])) _
    refine XS.i2b X26.here hx rfl (hb hby at_138) rfl ?_
    show Steps p.tables e below (T26.setTop (mkF m 139 #[.val (.long q1), .second, .val (.int p2), .val (.int p3), .val (.long q4), .second, .val (.int z6_2), .val (.int z7_3), .val (.long z38_6), .second, .val (.long z10_10), .second, .val (.ref b12)] [(.int ((((q4.toUInt64 >>> ((35 : Int32) &&& 0x3f).toInt64.toUInt64).toInt64).toInt32).toInt8.toInt32)), (.int (7 : Int32)), (.ref b12)])) _
    exact kt
  refine OwnG.st sg27 ?_
  obtain ⟨T28, h28, X28, e28, W28, V28, st28⟩ := own_stB Vg26 X26 hx hZ e26 (by decide) (by decide) (gf := (mkF m 139 #[.val (.long q1), .second, .val (.int p2), .val (.int p3), .val (.long q4), .second, .val (.int z6_2), .val (.int z7_3), .val (.long z38_6), .second, .val (.long z10_10), .second, .val (.ref b12)] [(.int ((((q4.toUInt64 >>> ((35 : Int32) &&& 0x3f).toInt64.toUInt64).toInt64).toInt32).toInt8.toInt32)), (.int (7 : Int32)), (.ref b12)])) rfl rfl (hb hby at_139)
  have V28' : OwnA Z h28 b12 .byte 13 (iv' (updv gs26 7 ((((q4.toUInt64 >>> ((35 : Int32) &&& 0x3f).toInt64.toUInt64).toInt64).toInt32).toInt8.toInt32))) := by have q := V28; rw [Int8.toInt8_toInt32] at q; exact q
  obtain ⟨gs28, hgs28⟩ : ∃ g : Nat → Int32, g = (updv gs26 7 ((((q4.toUInt64 >>> ((35 : Int32) &&& 0x3f).toInt64.toUInt64).toInt64).toInt32).toInt8.toInt32)) := ⟨_, rfl⟩
  have Vg28 : OwnA Z h28 b12 .byte 13 (iv' gs28) := by rw [hgs28]; exact V28'
  have N28 := Fr.snoc X28 N26 gb_b12
  have Z28 : n0 ≤ h28.size := by rw [W28.size]; exact Z26
  refine OwnG.st st28 ?_
  show OwnG p e below s _ _ _ T28 (mkF m 140 #[.val (.long q1), .second, .val (.int p2), .val (.int p3), .val (.long q4), .second, .val (.int z6_2), .val (.int z7_3), .val (.long z38_6), .second, .val (.long z10_10), .second, .val (.ref b12)] [])
  have sg29 : ∀ tgt, Steps p.tables e below (T28.setTop (mkF m 151 #[.val (.long q1), .second, .val (.int p2), .val (.int p3), .val (.long q4), .second, .val (.int z6_2), .val (.int z7_3), .val (.long z38_6), .second, .val (.long z10_10), .second, .val (.ref b12)] [(.int ((((q4.toUInt64 >>> ((40 : Int32) &&& 0x3f).toInt64.toUInt64).toInt64).toInt32).toInt8.toInt32)), (.int (8 : Int32)), (.ref b12)])) tgt → Steps p.tables e below (T28.setTop (mkF m 140 #[.val (.long q1), .second, .val (.int p2), .val (.int p3), .val (.long q4), .second, .val (.int z6_2), .val (.int z7_3), .val (.long z38_6), .second, .val (.long z10_10), .second, .val (.ref b12)] [])) tgt := by
    intro tgt kt
    refine XS.aload X28.here hx rfl (hb hby at_140) rfl rfl ?_
    show Steps p.tables e below (T28.setTop (mkF m 142 #[.val (.long q1), .second, .val (.int p2), .val (.int p3), .val (.long q4), .second, .val (.int z6_2), .val (.int z7_3), .val (.long z38_6), .second, .val (.long z10_10), .second, .val (.ref b12)] [(.ref b12)])) _
    refine XS.bipush X28.here hx rfl (hb hby at_142) ?_
    show Steps p.tables e below (T28.setTop (mkF m 144 #[.val (.long q1), .second, .val (.int p2), .val (.int p3), .val (.long q4), .second, .val (.int z6_2), .val (.int z7_3), .val (.long z38_6), .second, .val (.long z10_10), .second, .val (.ref b12)] [(.int (8 : Int32)), (.ref b12)])) _
    refine XS.lload X28.here hx rfl (hb hby at_144) rfl ?_
    show Steps p.tables e below (T28.setTop (mkF m 146 #[.val (.long q1), .second, .val (.int p2), .val (.int p3), .val (.long q4), .second, .val (.int z6_2), .val (.int z7_3), .val (.long z38_6), .second, .val (.long z10_10), .second, .val (.ref b12)] [(.long q4), (.int (8 : Int32)), (.ref b12)])) _
    refine XS.bipush X28.here hx rfl (hb hby at_146) ?_
    show Steps p.tables e below (T28.setTop (mkF m 148 #[.val (.long q1), .second, .val (.int p2), .val (.int p3), .val (.long q4), .second, .val (.int z6_2), .val (.int z7_3), .val (.long z38_6), .second, .val (.long z10_10), .second, .val (.ref b12)] [(.int (40 : Int32)), (.long q4), (.int (8 : Int32)), (.ref b12)])) _
    refine XS.lushr X28.here hx rfl (hb hby at_148) rfl ?_
    show Steps p.tables e below (T28.setTop (mkF m 149 #[.val (.long q1), .second, .val (.int p2), .val (.int p3), .val (.long q4), .second, .val (.int z6_2), .val (.int z7_3), .val (.long z38_6), .second, .val (.long z10_10), .second, .val (.ref b12)] [(.long ((q4.toUInt64 >>> ((40 : Int32) &&& 0x3f).toInt64.toUInt64).toInt64)), (.int (8 : Int32)), (.ref b12)])) _
    refine XS.l2i X28.here hx rfl (hb hby at_149) rfl ?_
    show Steps p.tables e below (T28.setTop (mkF m 150 #[.val (.long q1), .second, .val (.int p2), .val (.int p3), .val (.long q4), .second, .val (.int z6_2), .val (.int z7_3), .val (.long z38_6), .second, .val (.long z10_10), .second, .val (.ref b12)] [(.int (((q4.toUInt64 >>> ((40 : Int32) &&& 0x3f).toInt64.toUInt64).toInt64).toInt32)), (.int (8 : Int32)), (.ref b12)])) _
    refine XS.i2b X28.here hx rfl (hb hby at_150) rfl ?_
    show Steps p.tables e below (T28.setTop (mkF m 151 #[.val (.long q1), .second, .val (.int p2), .val (.int p3), .val (.long q4), .second, .val (.int z6_2), .val (.int z7_3), .val (.long z38_6), .second, .val (.long z10_10), .second, .val (.ref b12)] [(.int ((((q4.toUInt64 >>> ((40 : Int32) &&& 0x3f).toInt64.toUInt64).toInt64).toInt32).toInt8.toInt32)), (.int (8 : Int32)), (.ref b12)])) _
    exact kt
  refine OwnG.st sg29 ?_
  obtain ⟨T30, h30, X30, e30, W30, V30, st30⟩ := own_stB Vg28 X28 hx hZ e28 (by decide) (by decide) (gf := (mkF m 151 #[.val (.long q1), .second, .val (.int p2), .val (.int p3), .val (.long q4), .second, .val (.int z6_2), .val (.int z7_3), .val (.long z38_6), .second, .val (.long z10_10), .second, .val (.ref b12)] [(.int ((((q4.toUInt64 >>> ((40 : Int32) &&& 0x3f).toInt64.toUInt64).toInt64).toInt32).toInt8.toInt32)), (.int (8 : Int32)), (.ref b12)])) rfl rfl (hb hby at_151)
  have V30' : OwnA Z h30 b12 .byte 13 (iv' (updv gs28 8 ((((q4.toUInt64 >>> ((40 : Int32) &&& 0x3f).toInt64.toUInt64).toInt64).toInt32).toInt8.toInt32))) := by have q := V30; rw [Int8.toInt8_toInt32] at q; exact q
  obtain ⟨gs30, hgs30⟩ : ∃ g : Nat → Int32, g = (updv gs28 8 ((((q4.toUInt64 >>> ((40 : Int32) &&& 0x3f).toInt64.toUInt64).toInt64).toInt32).toInt8.toInt32)) := ⟨_, rfl⟩
  have Vg30 : OwnA Z h30 b12 .byte 13 (iv' gs30) := by rw [hgs30]; exact V30'
  have N30 := Fr.snoc X30 N28 gb_b12
  have Z30 : n0 ≤ h30.size := by rw [W30.size]; exact Z28
  refine OwnG.st st30 ?_
  show OwnG p e below s _ _ _ T30 (mkF m 152 #[.val (.long q1), .second, .val (.int p2), .val (.int p3), .val (.long q4), .second, .val (.int z6_2), .val (.int z7_3), .val (.long z38_6), .second, .val (.long z10_10), .second, .val (.ref b12)] [])
  have sg31 : ∀ tgt, Steps p.tables e below (T30.setTop (mkF m 163 #[.val (.long q1), .second, .val (.int p2), .val (.int p3), .val (.long q4), .second, .val (.int z6_2), .val (.int z7_3), .val (.long z38_6), .second, .val (.long z10_10), .second, .val (.ref b12)] [(.int ((((q4.toUInt64 >>> ((45 : Int32) &&& 0x3f).toInt64.toUInt64).toInt64).toInt32).toInt8.toInt32)), (.int (9 : Int32)), (.ref b12)])) tgt → Steps p.tables e below (T30.setTop (mkF m 152 #[.val (.long q1), .second, .val (.int p2), .val (.int p3), .val (.long q4), .second, .val (.int z6_2), .val (.int z7_3), .val (.long z38_6), .second, .val (.long z10_10), .second, .val (.ref b12)] [])) tgt := by
    intro tgt kt
    refine XS.aload X30.here hx rfl (hb hby at_152) rfl rfl ?_
    show Steps p.tables e below (T30.setTop (mkF m 154 #[.val (.long q1), .second, .val (.int p2), .val (.int p3), .val (.long q4), .second, .val (.int z6_2), .val (.int z7_3), .val (.long z38_6), .second, .val (.long z10_10), .second, .val (.ref b12)] [(.ref b12)])) _
    refine XS.bipush X30.here hx rfl (hb hby at_154) ?_
    show Steps p.tables e below (T30.setTop (mkF m 156 #[.val (.long q1), .second, .val (.int p2), .val (.int p3), .val (.long q4), .second, .val (.int z6_2), .val (.int z7_3), .val (.long z38_6), .second, .val (.long z10_10), .second, .val (.ref b12)] [(.int (9 : Int32)), (.ref b12)])) _
    refine XS.lload X30.here hx rfl (hb hby at_156) rfl ?_
    show Steps p.tables e below (T30.setTop (mkF m 158 #[.val (.long q1), .second, .val (.int p2), .val (.int p3), .val (.long q4), .second, .val (.int z6_2), .val (.int z7_3), .val (.long z38_6), .second, .val (.long z10_10), .second, .val (.ref b12)] [(.long q4), (.int (9 : Int32)), (.ref b12)])) _
    refine XS.bipush X30.here hx rfl (hb hby at_158) ?_
    show Steps p.tables e below (T30.setTop (mkF m 160 #[.val (.long q1), .second, .val (.int p2), .val (.int p3), .val (.long q4), .second, .val (.int z6_2), .val (.int z7_3), .val (.long z38_6), .second, .val (.long z10_10), .second, .val (.ref b12)] [(.int (45 : Int32)), (.long q4), (.int (9 : Int32)), (.ref b12)])) _
    refine XS.lushr X30.here hx rfl (hb hby at_160) rfl ?_
    show Steps p.tables e below (T30.setTop (mkF m 161 #[.val (.long q1), .second, .val (.int p2), .val (.int p3), .val (.long q4), .second, .val (.int z6_2), .val (.int z7_3), .val (.long z38_6), .second, .val (.long z10_10), .second, .val (.ref b12)] [(.long ((q4.toUInt64 >>> ((45 : Int32) &&& 0x3f).toInt64.toUInt64).toInt64)), (.int (9 : Int32)), (.ref b12)])) _
    refine XS.l2i X30.here hx rfl (hb hby at_161) rfl ?_
    show Steps p.tables e below (T30.setTop (mkF m 162 #[.val (.long q1), .second, .val (.int p2), .val (.int p3), .val (.long q4), .second, .val (.int z6_2), .val (.int z7_3), .val (.long z38_6), .second, .val (.long z10_10), .second, .val (.ref b12)] [(.int (((q4.toUInt64 >>> ((45 : Int32) &&& 0x3f).toInt64.toUInt64).toInt64).toInt32)), (.int (9 : Int32)), (.ref b12)])) _
    refine XS.i2b X30.here hx rfl (hb hby at_162) rfl ?_
    show Steps p.tables e below (T30.setTop (mkF m 163 #[.val (.long q1), .second, .val (.int p2), .val (.int p3), .val (.long q4), .second, .val (.int z6_2), .val (.int z7_3), .val (.long z38_6), .second, .val (.long z10_10), .second, .val (.ref b12)] [(.int ((((q4.toUInt64 >>> ((45 : Int32) &&& 0x3f).toInt64.toUInt64).toInt64).toInt32).toInt8.toInt32)), (.int (9 : Int32)), (.ref b12)])) _
    exact kt
  refine OwnG.st sg31 ?_
  obtain ⟨T32, h32, X32, e32, W32, V32, st32⟩ := own_stB Vg30 X30 hx hZ e30 (by decide) (by decide) (gf := (mkF m 163 #[.val (.long q1), .second, .val (.int p2), .val (.int p3), .val (.long q4), .second, .val (.int z6_2), .val (.int z7_3), .val (.long z38_6), .second, .val (.long z10_10), .second, .val (.ref b12)] [(.int ((((q4.toUInt64 >>> ((45 : Int32) &&& 0x3f).toInt64.toUInt64).toInt64).toInt32).toInt8.toInt32)), (.int (9 : Int32)), (.ref b12)])) rfl rfl (hb hby at_163)
  have V32' : OwnA Z h32 b12 .byte 13 (iv' (updv gs30 9 ((((q4.toUInt64 >>> ((45 : Int32) &&& 0x3f).toInt64.toUInt64).toInt64).toInt32).toInt8.toInt32))) := by have q := V32; rw [Int8.toInt8_toInt32] at q; exact q
  obtain ⟨gs32, hgs32⟩ : ∃ g : Nat → Int32, g = (updv gs30 9 ((((q4.toUInt64 >>> ((45 : Int32) &&& 0x3f).toInt64.toUInt64).toInt64).toInt32).toInt8.toInt32)) := ⟨_, rfl⟩
  have Vg32 : OwnA Z h32 b12 .byte 13 (iv' gs32) := by rw [hgs32]; exact V32'
  have N32 := Fr.snoc X32 N30 gb_b12
  have Z32 : n0 ≤ h32.size := by rw [W32.size]; exact Z30
  refine OwnG.st st32 ?_
  show OwnG p e below s _ _ _ T32 (mkF m 164 #[.val (.long q1), .second, .val (.int p2), .val (.int p3), .val (.long q4), .second, .val (.int z6_2), .val (.int z7_3), .val (.long z38_6), .second, .val (.long z10_10), .second, .val (.ref b12)] [])
  have sg33 : ∀ tgt, Steps p.tables e below (T32.setTop (mkF m 175 #[.val (.long q1), .second, .val (.int p2), .val (.int p3), .val (.long q4), .second, .val (.int z6_2), .val (.int z7_3), .val (.long z38_6), .second, .val (.long z10_10), .second, .val (.ref b12)] [(.int ((((q4.toUInt64 >>> ((50 : Int32) &&& 0x3f).toInt64.toUInt64).toInt64).toInt32).toInt8.toInt32)), (.int (10 : Int32)), (.ref b12)])) tgt → Steps p.tables e below (T32.setTop (mkF m 164 #[.val (.long q1), .second, .val (.int p2), .val (.int p3), .val (.long q4), .second, .val (.int z6_2), .val (.int z7_3), .val (.long z38_6), .second, .val (.long z10_10), .second, .val (.ref b12)] [])) tgt := by
    intro tgt kt
    refine XS.aload X32.here hx rfl (hb hby at_164) rfl rfl ?_
    show Steps p.tables e below (T32.setTop (mkF m 166 #[.val (.long q1), .second, .val (.int p2), .val (.int p3), .val (.long q4), .second, .val (.int z6_2), .val (.int z7_3), .val (.long z38_6), .second, .val (.long z10_10), .second, .val (.ref b12)] [(.ref b12)])) _
    refine XS.bipush X32.here hx rfl (hb hby at_166) ?_
    show Steps p.tables e below (T32.setTop (mkF m 168 #[.val (.long q1), .second, .val (.int p2), .val (.int p3), .val (.long q4), .second, .val (.int z6_2), .val (.int z7_3), .val (.long z38_6), .second, .val (.long z10_10), .second, .val (.ref b12)] [(.int (10 : Int32)), (.ref b12)])) _
    refine XS.lload X32.here hx rfl (hb hby at_168) rfl ?_
    show Steps p.tables e below (T32.setTop (mkF m 170 #[.val (.long q1), .second, .val (.int p2), .val (.int p3), .val (.long q4), .second, .val (.int z6_2), .val (.int z7_3), .val (.long z38_6), .second, .val (.long z10_10), .second, .val (.ref b12)] [(.long q4), (.int (10 : Int32)), (.ref b12)])) _
    refine XS.bipush X32.here hx rfl (hb hby at_170) ?_
    show Steps p.tables e below (T32.setTop (mkF m 172 #[.val (.long q1), .second, .val (.int p2), .val (.int p3), .val (.long q4), .second, .val (.int z6_2), .val (.int z7_3), .val (.long z38_6), .second, .val (.long z10_10), .second, .val (.ref b12)] [(.int (50 : Int32)), (.long q4), (.int (10 : Int32)), (.ref b12)])) _
    refine XS.lushr X32.here hx rfl (hb hby at_172) rfl ?_
    show Steps p.tables e below (T32.setTop (mkF m 173 #[.val (.long q1), .second, .val (.int p2), .val (.int p3), .val (.long q4), .second, .val (.int z6_2), .val (.int z7_3), .val (.long z38_6), .second, .val (.long z10_10), .second, .val (.ref b12)] [(.long ((q4.toUInt64 >>> ((50 : Int32) &&& 0x3f).toInt64.toUInt64).toInt64)), (.int (10 : Int32)), (.ref b12)])) _
    refine XS.l2i X32.here hx rfl (hb hby at_173) rfl ?_
    show Steps p.tables e below (T32.setTop (mkF m 174 #[.val (.long q1), .second, .val (.int p2), .val (.int p3), .val (.long q4), .second, .val (.int z6_2), .val (.int z7_3), .val (.long z38_6), .second, .val (.long z10_10), .second, .val (.ref b12)] [(.int (((q4.toUInt64 >>> ((50 : Int32) &&& 0x3f).toInt64.toUInt64).toInt64).toInt32)), (.int (10 : Int32)), (.ref b12)])) _
    refine XS.i2b X32.here hx rfl (hb hby at_174) rfl ?_
    show Steps p.tables e below (T32.setTop (mkF m 175 #[.val (.long q1), .second, .val (.int p2), .val (.int p3), .val (.long q4), .second, .val (.int z6_2), .val (.int z7_3), .val (.long z38_6), .second, .val (.long z10_10), .second, .val (.ref b12)] [(.int ((((q4.toUInt64 >>> ((50 : Int32) &&& 0x3f).toInt64.toUInt64).toInt64).toInt32).toInt8.toInt32)), (.int (10 : Int32)), (.ref b12)])) _
    exact kt
  refine OwnG.st sg33 ?_
  obtain ⟨T34, h34, X34, e34, W34, V34, st34⟩ := own_stB Vg32 X32 hx hZ e32 (by decide) (by decide) (gf := (mkF m 175 #[.val (.long q1), .second, .val (.int p2), .val (.int p3), .val (.long q4), .second, .val (.int z6_2), .val (.int z7_3), .val (.long z38_6), .second, .val (.long z10_10), .second, .val (.ref b12)] [(.int ((((q4.toUInt64 >>> ((50 : Int32) &&& 0x3f).toInt64.toUInt64).toInt64).toInt32).toInt8.toInt32)), (.int (10 : Int32)), (.ref b12)])) rfl rfl (hb hby at_175)
  have V34' : OwnA Z h34 b12 .byte 13 (iv' (updv gs32 10 ((((q4.toUInt64 >>> ((50 : Int32) &&& 0x3f).toInt64.toUInt64).toInt64).toInt32).toInt8.toInt32))) := by have q := V34; rw [Int8.toInt8_toInt32] at q; exact q
  obtain ⟨gs34, hgs34⟩ : ∃ g : Nat → Int32, g = (updv gs32 10 ((((q4.toUInt64 >>> ((50 : Int32) &&& 0x3f).toInt64.toUInt64).toInt64).toInt32).toInt8.toInt32)) := ⟨_, rfl⟩
  have Vg34 : OwnA Z h34 b12 .byte 13 (iv' gs34) := by rw [hgs34]; exact V34'
  have N34 := Fr.snoc X34 N32 gb_b12
  have Z34 : n0 ≤ h34.size := by rw [W34.size]; exact Z32
  refine OwnG.st st34 ?_
  show OwnG p e below s _ _ _ T34 (mkF m 176 #[.val (.long q1), .second, .val (.int p2), .val (.int p3), .val (.long q4), .second, .val (.int z6_2), .val (.int z7_3), .val (.long z38_6), .second, .val (.long z10_10), .second, .val (.ref b12)] [])
  have sg35 : ∀ tgt, Steps p.tables e below (T34.setTop (mkF m 187 #[.val (.long q1), .second, .val (.int p2), .val (.int p3), .val (.long q4), .second, .val (.int z6_2), .val (.int z7_3), .val (.long z38_6), .second, .val (.long z10_10), .second, .val (.ref b12)] [(.int ((((q4.toUInt64 >>> ((55 : Int32) &&& 0x3f).toInt64.toUInt64).toInt64).toInt32).toInt8.toInt32)), (.int (11 : Int32)), (.ref b12)])) tgt → Steps p.tables e below (T34.setTop (mkF m 176 #[.val (.long q1), .second, .val (.int p2), .val (.int p3), .val (.long q4), .second, .val (.int z6_2), .val (.int z7_3), .val (.long z38_6), .second, .val (.long z10_10), .second, .val (.ref b12)] [])) tgt := by
    intro tgt kt
    refine XS.aload X34.here hx rfl (hb hby at_176) rfl rfl ?_
    show Steps p.tables e below (T34.setTop (mkF m 178 #[.val (.long q1), .second, .val (.int p2), .val (.int p3), .val (.long q4), .second, .val (.int z6_2), .val (.int z7_3), .val (.long z38_6), .second, .val (.long z10_10), .second, .val (.ref b12)] [(.ref b12)])) _
    refine XS.bipush X34.here hx rfl (hb hby at_178) ?_
    show Steps p.tables e below (T34.setTop (mkF m 180 #[.val (.long q1), .second, .val (.int p2), .val (.int p3), .val (.long q4), .second, .val (.int z6_2), .val (.int z7_3), .val (.long z38_6), .second, .val (.long z10_10), .second, .val (.ref b12)] [(.int (11 : Int32)), (.ref b12)])) _
    refine XS.lload X34.here hx rfl (hb hby at_180) rfl ?_
    show Steps p.tables e below (T34.setTop (mkF m 182 #[.val (.long q1), .second, .val (.int p2), .val (.int p3), .val (.long q4), .second, .val (.int z6_2), .val (.int z7_3), .val (.long z38_6), .second, .val (.long z10_10), .second, .val (.ref b12)] [(.long q4), (.int (11 : Int32)), (.ref b12)])) _
    refine XS.bipush X34.here hx rfl (hb hby at_182) ?_
    show Steps p.tables e below (T34.setTop (mkF m 184 #[.val (.long q1), .second, .val (.int p2), .val (.int p3), .val (.long q4), .second, .val (.int z6_2), .val (.int z7_3), .val (.long z38_6), .second, .val (.long z10_10), .second, .val (.ref b12)] [(.int (55 : Int32)), (.long q4), (.int (11 : Int32)), (.ref b12)])) _
    refine XS.lushr X34.here hx rfl (hb hby at_184) rfl ?_
    show Steps p.tables e below (T34.setTop (mkF m 185 #[.val (.long q1), .second, .val (.int p2), .val (.int p3), .val (.long q4), .second, .val (.int z6_2), .val (.int z7_3), .val (.long z38_6), .second, .val (.long z10_10), .second, .val (.ref b12)] [(.long ((q4.toUInt64 >>> ((55 : Int32) &&& 0x3f).toInt64.toUInt64).toInt64)), (.int (11 : Int32)), (.ref b12)])) _
    refine XS.l2i X34.here hx rfl (hb hby at_185) rfl ?_
    show Steps p.tables e below (T34.setTop (mkF m 186 #[.val (.long q1), .second, .val (.int p2), .val (.int p3), .val (.long q4), .second, .val (.int z6_2), .val (.int z7_3), .val (.long z38_6), .second, .val (.long z10_10), .second, .val (.ref b12)] [(.int (((q4.toUInt64 >>> ((55 : Int32) &&& 0x3f).toInt64.toUInt64).toInt64).toInt32)), (.int (11 : Int32)), (.ref b12)])) _
    refine XS.i2b X34.here hx rfl (hb hby at_186) rfl ?_
    show Steps p.tables e below (T34.setTop (mkF m 187 #[.val (.long q1), .second, .val (.int p2), .val (.int p3), .val (.long q4), .second, .val (.int z6_2), .val (.int z7_3), .val (.long z38_6), .second, .val (.long z10_10), .second, .val (.ref b12)] [(.int ((((q4.toUInt64 >>> ((55 : Int32) &&& 0x3f).toInt64.toUInt64).toInt64).toInt32).toInt8.toInt32)), (.int (11 : Int32)), (.ref b12)])) _
    exact kt
  refine OwnG.st sg35 ?_
  obtain ⟨T36, h36, X36, e36, W36, V36, st36⟩ := own_stB Vg34 X34 hx hZ e34 (by decide) (by decide) (gf := (mkF m 187 #[.val (.long q1), .second, .val (.int p2), .val (.int p3), .val (.long q4), .second, .val (.int z6_2), .val (.int z7_3), .val (.long z38_6), .second, .val (.long z10_10), .second, .val (.ref b12)] [(.int ((((q4.toUInt64 >>> ((55 : Int32) &&& 0x3f).toInt64.toUInt64).toInt64).toInt32).toInt8.toInt32)), (.int (11 : Int32)), (.ref b12)])) rfl rfl (hb hby at_187)
  have V36' : OwnA Z h36 b12 .byte 13 (iv' (updv gs34 11 ((((q4.toUInt64 >>> ((55 : Int32) &&& 0x3f).toInt64.toUInt64).toInt64).toInt32).toInt8.toInt32))) := by have q := V36; rw [Int8.toInt8_toInt32] at q; exact q
  obtain ⟨gs36, hgs36⟩ : ∃ g : Nat → Int32, g = (updv gs34 11 ((((q4.toUInt64 >>> ((55 : Int32) &&& 0x3f).toInt64.toUInt64).toInt64).toInt32).toInt8.toInt32)) := ⟨_, rfl⟩
  have Vg36 : OwnA Z h36 b12 .byte 13 (iv' gs36) := by rw [hgs36]; exact V36'
  have N36 := Fr.snoc X36 N34 gb_b12
  have Z36 : n0 ≤ h36.size := by rw [W36.size]; exact Z34
  refine OwnG.st st36 ?_
  show OwnG p e below s _ _ _ T36 (mkF m 188 #[.val (.long q1), .second, .val (.int p2), .val (.int p3), .val (.long q4), .second, .val (.int z6_2), .val (.int z7_3), .val (.long z38_6), .second, .val (.long z10_10), .second, .val (.ref b12)] [])
  have sg37 : ∀ tgt, Steps p.tables e below (T36.setTop (mkF m 199 #[.val (.long q1), .second, .val (.int p2), .val (.int p3), .val (.long q4), .second, .val (.int z6_2), .val (.int z7_3), .val (.long z38_6), .second, .val (.long z10_10), .second, .val (.ref b12)] [(.int ((((q4.toUInt64 >>> ((60 : Int32) &&& 0x3f).toInt64.toUInt64).toInt64).toInt32).toInt8.toInt32)), (.int (12 : Int32)), (.ref b12)])) tgt → Steps p.tables e below (T36.setTop (mkF m 188 #[.val (.long q1), .second, .val (.int p2), .val (.int p3), .val (.long q4), .second, .val (.int z6_2), .val (.int z7_3), .val (.long z38_6), .second, .val (.long z10_10), .second, .val (.ref b12)] [])) tgt := by
    intro tgt kt
    refine XS.aload X36.here hx rfl (hb hby at_188) rfl rfl ?_
    show Steps p.tables e below (T36.setTop (mkF m 190 #[.val (.long q1), .second, .val (.int p2), .val (.int p3), .val (.long q4), .second, .val (.int z6_2), .val (.int z7_3), .val (.long z38_6), .second, .val (.long z10_10), .second, .val (.ref b12)] [(.ref b12)])) _
    refine XS.bipush X36.here hx rfl (hb hby at_190) ?_
    show Steps p.tables e below (T36.setTop (mkF m 192 #[.val (.long q1), .second, .val (.int p2), .val (.int p3), .val (.long q4), .second, .val (.int z6_2), .val (.int z7_3), .val (.long z38_6), .second, .val (.long z10_10), .second, .val (.ref b12)] [(.int (12 : Int32)), (.ref b12)])) _
    refine XS.lload X36.here hx rfl (hb hby at_192) rfl ?_
    show Steps p.tables e below (T36.setTop (mkF m 194 #[.val (.long q1), .second, .val (.int p2), .val (.int p3), .val (.long q4), .second, .val (.int z6_2), .val (.int z7_3), .val (.long z38_6), .second, .val (.long z10_10), .second, .val (.ref b12)] [(.long q4), (.int (12 : Int32)), (.ref b12)])) _
    refine XS.bipush X36.here hx rfl (hb hby at_194) ?_
    show Steps p.tables e below (T36.setTop (mkF m 196 #[.val (.long q1), .second, .val (.int p2), .val (.int p3), .val (.long q4), .second, .val (.int z6_2), .val (.int z7_3), .val (.long z38_6), .second, .val (.long z10_10), .second, .val (.ref b12)] [(.int (60 : Int32)), (.long q4), (.int (12 : Int32)), (.ref b12)])) _
    refine XS.lushr X36.here hx rfl (hb hby at_196) rfl ?_
    show Steps p.tables e below (T36.setTop (mkF m 197 #[.val (.long q1), .second, .val (.int p2), .val (.int p3), .val (.long q4), .second, .val (.int z6_2), .val (.int z7_3), .val (.long z38_6), .second, .val (.long z10_10), .second, .val (.ref b12)] [(.long ((q4.toUInt64 >>> ((60 : Int32) &&& 0x3f).toInt64.toUInt64).toInt64)), (.int (12 : Int32)), (.ref b12)])) _
    refine XS.l2i X36.here hx rfl (hb hby at_197) rfl ?_
    show Steps p.tables e below (T36.setTop (mkF m 198 #[.val (.long q1), .second, .val (.int p2), .val (.int p3), .val (.long q4), .second, .val (.int z6_2), .val (.int z7_3), .val (.long z38_6), .second, .val (.long z10_10), .second, .val (.ref b12)] [(.int (((q4.toUInt64 >>> ((60 : Int32) &&& 0x3f).toInt64.toUInt64).toInt64).toInt32)), (.int (12 : Int32)), (.ref b12)])) _
    refine XS.i2b X36.here hx rfl (hb hby at_198) rfl ?_
    show Steps p.tables e below (T36.setTop (mkF m 199 #[.val (.long q1), .second, .val (.int p2), .val (.int p3), .val (.long q4), .second, .val (.int z6_2), .val (.int z7_3), .val (.long z38_6), .second, .val (.long z10_10), .second, .val (.ref b12)] [(.int ((((q4.toUInt64 >>> ((60 : Int32) &&& 0x3f).toInt64.toUInt64).toInt64).toInt32).toInt8.toInt32)), (.int (12 : Int32)), (.ref b12)])) _
    exact kt
  refine OwnG.st sg37 ?_
  obtain ⟨T38, h38, X38, e38, W38, V38, st38⟩ := own_stB Vg36 X36 hx hZ e36 (by decide) (by decide) (gf := (mkF m 199 #[.val (.long q1), .second, .val (.int p2), .val (.int p3), .val (.long q4), .second, .val (.int z6_2), .val (.int z7_3), .val (.long z38_6), .second, .val (.long z10_10), .second, .val (.ref b12)] [(.int ((((q4.toUInt64 >>> ((60 : Int32) &&& 0x3f).toInt64.toUInt64).toInt64).toInt32).toInt8.toInt32)), (.int (12 : Int32)), (.ref b12)])) rfl rfl (hb hby at_199)
  have V38' : OwnA Z h38 b12 .byte 13 (iv' (updv gs36 12 ((((q4.toUInt64 >>> ((60 : Int32) &&& 0x3f).toInt64.toUInt64).toInt64).toInt32).toInt8.toInt32))) := by have q := V38; rw [Int8.toInt8_toInt32] at q; exact q
  obtain ⟨gs38, hgs38⟩ : ∃ g : Nat → Int32, g = (updv gs36 12 ((((q4.toUInt64 >>> ((60 : Int32) &&& 0x3f).toInt64.toUInt64).toInt64).toInt32).toInt8.toInt32)) := ⟨_, rfl⟩
  have Vg38 : OwnA Z h38 b12 .byte 13 (iv' gs38) := by rw [hgs38]; exact V38'
  have N38 := Fr.snoc X38 N36 gb_b12
  have Z38 : n0 ≤ h38.size := by rw [W38.size]; exact Z36
  refine OwnG.st st38 ?_
  show OwnG p e below s _ _ _ T38 (mkF m 200 #[.val (.long q1), .second, .val (.int p2), .val (.int p3), .val (.long q4), .second, .val (.int z6_2), .val (.int z7_3), .val (.long z38_6), .second, .val (.long z10_10), .second, .val (.ref b12)] [])
  obtain ⟨gB, hgB⟩ : ∃ g : Nat → Int32, g = gs38 := ⟨_, rfl⟩
  rw [hgs38, hgs36, hgs34, hgs32, hgs30, hgs28, hgs26, hgs24, hgs22, hgs20, hgs18, hgs16, hgs14] at hgB
  have VgB : OwnA Z h38 b12 .byte 13 (iv' gB) := by rw [hgB]; exact (by have q := Vg38; rw [hgs38, hgs36, hgs34, hgs32, hgs30, hgs28, hgs26, hgs24, hgs22, hgs20, hgs18, hgs16, hgs14] at q; exact q)
  have sg39 : ∀ tgt, Steps p.tables e below (T38.setTop (mkF m 209 #[.val (.long q1), .second, .val (.int p2), .val (.int p3), .val (.long q4), .second, .val (.int z6_2), .val (.int z7_3), .val (.long z38_6), .second, .val (.long z10_10), .second, .val (.ref b12)] [(.int z6_2), (.int (0 : Int32)), (.long z10_10), (.int z7_3), (.ref b12)])) tgt → Steps p.tables e below (T38.setTop (mkF m 200 #[.val (.long q1), .second, .val (.int p2), .val (.int p3), .val (.long q4), .second, .val (.int z6_2), .val (.int z7_3), .val (.long z38_6), .second, .val (.long z10_10), .second, .val (.ref b12)] [])) tgt := by
    intro tgt kt
    refine XS.aload X38.here hx rfl (hb hby at_200) rfl rfl ?_
    show Steps p.tables e below (T38.setTop (mkF m 202 #[.val (.long q1), .second, .val (.int p2), .val (.int p3), .val (.long q4), .second, .val (.int z6_2), .val (.int z7_3), .val (.long z38_6), .second, .val (.long z10_10), .second, .val (.ref b12)] [(.ref b12)])) _
    refine XS.iload X38.here hx rfl (hb hby at_202) rfl ?_
    show Steps p.tables e below (T38.setTop (mkF m 204 #[.val (.long q1), .second, .val (.int p2), .val (.int p3), .val (.long q4), .second, .val (.int z6_2), .val (.int z7_3), .val (.long z38_6), .second, .val (.long z10_10), .second, .val (.ref b12)] [(.int z7_3), (.ref b12)])) _
    refine XS.lload X38.here hx rfl (hb hby at_204) rfl ?_
    show Steps p.tables e below (T38.setTop (mkF m 206 #[.val (.long q1), .second, .val (.int p2), .val (.int p3), .val (.long q4), .second, .val (.int z6_2), .val (.int z7_3), .val (.long z38_6), .second, .val (.long z10_10), .second, .val (.ref b12)] [(.long z10_10), (.int z7_3), (.ref b12)])) _
    refine XS.iconst X38.here hx rfl (hb hby at_206) ?_
    show Steps p.tables e below (T38.setTop (mkF m 207 #[.val (.long q1), .second, .val (.int p2), .val (.int p3), .val (.long q4), .second, .val (.int z6_2), .val (.int z7_3), .val (.long z38_6), .second, .val (.long z10_10), .second, .val (.ref b12)] [(.int (0 : Int32)), (.long z10_10), (.int z7_3), (.ref b12)])) _
    refine XS.iload X38.here hx rfl (hb hby at_207) rfl ?_
    show Steps p.tables e below (T38.setTop (mkF m 209 #[.val (.long q1), .second, .val (.int p2), .val (.int p3), .val (.long q4), .second, .val (.int z6_2), .val (.int z7_3), .val (.long z38_6), .second, .val (.long z10_10), .second, .val (.ref b12)] [(.int z6_2), (.int (0 : Int32)), (.long z10_10), (.int z7_3), (.ref b12)])) _
    exact kt
  refine OwnG.st sg39 ?_
  obtain ⟨vb40, _, B40, -, Xb40, hb40, sb40⟩ := Jvm.LawKit.callS X38 hx (y := (⟨"com/example/guessd/guessd/VarintsReadPinLaw", "put", "([BIJII)V"⟩ : MethodName)) hown (mvT hZ (hw _ (List.mem_of_getElem? (i := 2) rfl))) (mvT hZ (hw _ (List.mem_of_getElem? (i := 3) rfl))) (mvT hZ (hw _ (List.mem_of_getElem? (i := 4) rfl))) (mvT hZ (hw _ (List.mem_of_getElem? (i := 5) rfl))) (by decide) (backOf (W := 0) (rm1 l Z a0 hw [] b12 z7_3 z10_10 (0 : Int32) z6_2 gB h38 n0 Z38 gb_b12 VgB hat (by decide)) hZ (hw _ (List.mem_of_getElem? (i := 5) rfl)) (hw _ (List.mem_of_getElem? (i := 4) rfl)) (by decide) (by decide)) (g := (mkF m 209 #[.val (.long q1), .second, .val (.int p2), .val (.int p3), .val (.long q4), .second, .val (.int z6_2), .val (.int z7_3), .val (.long z38_6), .second, .val (.long z10_10), .second, .val (.ref b12)] [(.int z6_2), (.int (0 : Int32)), (.long z10_10), (.int z7_3), (.ref b12)])) rfl (by rw [hml]; rfl) (argsL := [(.ref b12), (.int z7_3), (.long z10_10), (.int (0 : Int32)), (.int z6_2)]) (rest := []) (lenOf pd_0_0 rfl) rfl (by show 2 * 0 + _ ≤ _; exact Nat.le_of_eq rfl) (hb hby at_209) (fun _ _ => ⟨rfl, e38, (by decide : 1 + 0 ≤ _), (by decide : 13 + 0 ≤ _)⟩)
  obtain ⟨T40, Lc40, vc40, X40, hQ40, st40⟩ := own_bk (F' := fun v => { ((mkF m 209 #[.val (.long q1), .second, .val (.int p2), .val (.int p3), .val (.long q4), .second, .val (.int z6_2), .val (.int z7_3), .val (.long z38_6), .second, .val (.long z10_10), .second, .val (.ref b12)] [(.int z6_2), (.int (0 : Int32)), (.long z10_10), (.int z7_3), (.ref b12)]) : JFrame) with pc := 212, stack := v.toList ++ [] }) (ck := 1) (sn := 13) Xb40 hb40 sb40 rfl rfl
  obtain ⟨hv40, N40q, Kq40, Vq40⟩ := hQ40
  have Z40 : n0 ≤ T40.heap.size := Nat.le_trans Z38 Kq40.1
  obtain ⟨gP40, hgP40⟩ : ∃ g : Nat → Int32, g = (F1 z7_3 z10_10 (0 : Int32) z6_2 gB) := ⟨_, rfl⟩
  have VgP40 : OwnA Z T40.heap b12 .byte 13 (iv' gP40) := by rw [hgP40]; exact Vq40
  have N40 := Fr.app N38 N40q
  refine OwnG.st (F' := (mkF m 212 #[.val (.long q1), .second, .val (.int p2), .val (.int p3), .val (.long q4), .second, .val (.int z6_2), .val (.int z7_3), .val (.long z38_6), .second, .val (.long z10_10), .second, .val (.ref b12)] [])) (fun t k => st40 t (by rw [hv40]; exact k)) ?_
  clear Xb40 hb40 sb40 st40 hv40
  have sg41 : ∀ tgt, Steps p.tables e below (T40.setTop (mkF m 221 #[.val (.long q1), .second, .val (.int p2), .val (.int p3), .val (.long q4), .second, .val (.int z6_2), .val (.int z7_3), .val (.long z38_6), .second, .val (.long z10_10), .second, .val (.ref b12)] [(.int z6_2), (.int (1 : Int32)), (.long z10_10), (.int z7_3), (.ref b12)])) tgt → Steps p.tables e below (T40.setTop (mkF m 212 #[.val (.long q1), .second, .val (.int p2), .val (.int p3), .val (.long q4), .second, .val (.int z6_2), .val (.int z7_3), .val (.long z38_6), .second, .val (.long z10_10), .second, .val (.ref b12)] [])) tgt := by
    intro tgt kt
    refine XS.aload X40.here hx rfl (hb hby at_212) rfl rfl ?_
    show Steps p.tables e below (T40.setTop (mkF m 214 #[.val (.long q1), .second, .val (.int p2), .val (.int p3), .val (.long q4), .second, .val (.int z6_2), .val (.int z7_3), .val (.long z38_6), .second, .val (.long z10_10), .second, .val (.ref b12)] [(.ref b12)])) _
    refine XS.iload X40.here hx rfl (hb hby at_214) rfl ?_
    show Steps p.tables e below (T40.setTop (mkF m 216 #[.val (.long q1), .second, .val (.int p2), .val (.int p3), .val (.long q4), .second, .val (.int z6_2), .val (.int z7_3), .val (.long z38_6), .second, .val (.long z10_10), .second, .val (.ref b12)] [(.int z7_3), (.ref b12)])) _
    refine XS.lload X40.here hx rfl (hb hby at_216) rfl ?_
    show Steps p.tables e below (T40.setTop (mkF m 218 #[.val (.long q1), .second, .val (.int p2), .val (.int p3), .val (.long q4), .second, .val (.int z6_2), .val (.int z7_3), .val (.long z38_6), .second, .val (.long z10_10), .second, .val (.ref b12)] [(.long z10_10), (.int z7_3), (.ref b12)])) _
    refine XS.iconst X40.here hx rfl (hb hby at_218) ?_
    show Steps p.tables e below (T40.setTop (mkF m 219 #[.val (.long q1), .second, .val (.int p2), .val (.int p3), .val (.long q4), .second, .val (.int z6_2), .val (.int z7_3), .val (.long z38_6), .second, .val (.long z10_10), .second, .val (.ref b12)] [(.int (1 : Int32)), (.long z10_10), (.int z7_3), (.ref b12)])) _
    refine XS.iload X40.here hx rfl (hb hby at_219) rfl ?_
    show Steps p.tables e below (T40.setTop (mkF m 221 #[.val (.long q1), .second, .val (.int p2), .val (.int p3), .val (.long q4), .second, .val (.int z6_2), .val (.int z7_3), .val (.long z38_6), .second, .val (.long z10_10), .second, .val (.ref b12)] [(.int z6_2), (.int (1 : Int32)), (.long z10_10), (.int z7_3), (.ref b12)])) _
    exact kt
  refine OwnG.st sg41 ?_
  obtain ⟨vb42, _, B42, -, Xb42, hb42, sb42⟩ := Jvm.LawKit.callS X40 hx (y := (⟨"com/example/guessd/guessd/VarintsReadPinLaw", "put", "([BIJII)V"⟩ : MethodName)) hown (mvT hZ (hw _ (List.mem_of_getElem? (i := 2) rfl))) (mvT hZ (hw _ (List.mem_of_getElem? (i := 3) rfl))) (mvT hZ (hw _ (List.mem_of_getElem? (i := 4) rfl))) (mvT hZ (hw _ (List.mem_of_getElem? (i := 5) rfl))) (by decide) (backOf (W := 0) (rm1 l Z a0 hw [] b12 z7_3 z10_10 (1 : Int32) z6_2 gP40 T40.heap n0 Z40 gb_b12 VgP40 hat (by decide)) hZ (hw _ (List.mem_of_getElem? (i := 5) rfl)) (hw _ (List.mem_of_getElem? (i := 4) rfl)) (by decide) (by decide)) (g := (mkF m 221 #[.val (.long q1), .second, .val (.int p2), .val (.int p3), .val (.long q4), .second, .val (.int z6_2), .val (.int z7_3), .val (.long z38_6), .second, .val (.long z10_10), .second, .val (.ref b12)] [(.int z6_2), (.int (1 : Int32)), (.long z10_10), (.int z7_3), (.ref b12)])) rfl (by rw [hml]; rfl) (argsL := [(.ref b12), (.int z7_3), (.long z10_10), (.int (1 : Int32)), (.int z6_2)]) (rest := []) (lenOf pd_0_0 rfl) rfl (by show 2 * 0 + _ ≤ _; exact Nat.le_of_eq rfl) (hb hby at_221) (fun _ _ => ⟨rfl, rfl, (by decide : 1 + 0 ≤ _), (by decide : 13 + 0 ≤ _)⟩)
  obtain ⟨T42, Lc42, vc42, X42, hQ42, st42⟩ := own_bk (F' := fun v => { ((mkF m 221 #[.val (.long q1), .second, .val (.int p2), .val (.int p3), .val (.long q4), .second, .val (.int z6_2), .val (.int z7_3), .val (.long z38_6), .second, .val (.long z10_10), .second, .val (.ref b12)] [(.int z6_2), (.int (1 : Int32)), (.long z10_10), (.int z7_3), (.ref b12)]) : JFrame) with pc := 224, stack := v.toList ++ [] }) (ck := 1) (sn := 13) Xb42 hb42 sb42 rfl rfl
  obtain ⟨hv42, N42q, Kq42, Vq42⟩ := hQ42
  have Z42 : n0 ≤ T42.heap.size := Nat.le_trans Z40 Kq42.1
  obtain ⟨gP42, hgP42⟩ : ∃ g : Nat → Int32, g = (F1 z7_3 z10_10 (1 : Int32) z6_2 gP40) := ⟨_, rfl⟩
  have VgP42 : OwnA Z T42.heap b12 .byte 13 (iv' gP42) := by rw [hgP42]; exact Vq42
  have N42 := Fr.app N40 N42q
  refine OwnG.st (F' := (mkF m 224 #[.val (.long q1), .second, .val (.int p2), .val (.int p3), .val (.long q4), .second, .val (.int z6_2), .val (.int z7_3), .val (.long z38_6), .second, .val (.long z10_10), .second, .val (.ref b12)] [])) (fun t k => st42 t (by rw [hv42]; exact k)) ?_
  clear Xb42 hb42 sb42 st42 hv42
  have sg43 : ∀ tgt, Steps p.tables e below (T42.setTop (mkF m 233 #[.val (.long q1), .second, .val (.int p2), .val (.int p3), .val (.long q4), .second, .val (.int z6_2), .val (.int z7_3), .val (.long z38_6), .second, .val (.long z10_10), .second, .val (.ref b12)] [(.int z6_2), (.int (2 : Int32)), (.long z10_10), (.int z7_3), (.ref b12)])) tgt → Steps p.tables e below (T42.setTop (mkF m 224 #[.val (.long q1), .second, .val (.int p2), .val (.int p3), .val (.long q4), .second, .val (.int z6_2), .val (.int z7_3), .val (.long z38_6), .second, .val (.long z10_10), .second, .val (.ref b12)] [])) tgt := by
    intro tgt kt
    refine XS.aload X42.here hx rfl (hb hby at_224) rfl rfl ?_
    show Steps p.tables e below (T42.setTop (mkF m 226 #[.val (.long q1), .second, .val (.int p2), .val (.int p3), .val (.long q4), .second, .val (.int z6_2), .val (.int z7_3), .val (.long z38_6), .second, .val (.long z10_10), .second, .val (.ref b12)] [(.ref b12)])) _
    refine XS.iload X42.here hx rfl (hb hby at_226) rfl ?_
    show Steps p.tables e below (T42.setTop (mkF m 228 #[.val (.long q1), .second, .val (.int p2), .val (.int p3), .val (.long q4), .second, .val (.int z6_2), .val (.int z7_3), .val (.long z38_6), .second, .val (.long z10_10), .second, .val (.ref b12)] [(.int z7_3), (.ref b12)])) _
    refine XS.lload X42.here hx rfl (hb hby at_228) rfl ?_
    show Steps p.tables e below (T42.setTop (mkF m 230 #[.val (.long q1), .second, .val (.int p2), .val (.int p3), .val (.long q4), .second, .val (.int z6_2), .val (.int z7_3), .val (.long z38_6), .second, .val (.long z10_10), .second, .val (.ref b12)] [(.long z10_10), (.int z7_3), (.ref b12)])) _
    refine XS.iconst X42.here hx rfl (hb hby at_230) ?_
    show Steps p.tables e below (T42.setTop (mkF m 231 #[.val (.long q1), .second, .val (.int p2), .val (.int p3), .val (.long q4), .second, .val (.int z6_2), .val (.int z7_3), .val (.long z38_6), .second, .val (.long z10_10), .second, .val (.ref b12)] [(.int (2 : Int32)), (.long z10_10), (.int z7_3), (.ref b12)])) _
    refine XS.iload X42.here hx rfl (hb hby at_231) rfl ?_
    show Steps p.tables e below (T42.setTop (mkF m 233 #[.val (.long q1), .second, .val (.int p2), .val (.int p3), .val (.long q4), .second, .val (.int z6_2), .val (.int z7_3), .val (.long z38_6), .second, .val (.long z10_10), .second, .val (.ref b12)] [(.int z6_2), (.int (2 : Int32)), (.long z10_10), (.int z7_3), (.ref b12)])) _
    exact kt
  refine OwnG.st sg43 ?_
  obtain ⟨vb44, _, B44, -, Xb44, hb44, sb44⟩ := Jvm.LawKit.callS X42 hx (y := (⟨"com/example/guessd/guessd/VarintsReadPinLaw", "put", "([BIJII)V"⟩ : MethodName)) hown (mvT hZ (hw _ (List.mem_of_getElem? (i := 2) rfl))) (mvT hZ (hw _ (List.mem_of_getElem? (i := 3) rfl))) (mvT hZ (hw _ (List.mem_of_getElem? (i := 4) rfl))) (mvT hZ (hw _ (List.mem_of_getElem? (i := 5) rfl))) (by decide) (backOf (W := 0) (rm1 l Z a0 hw [] b12 z7_3 z10_10 (2 : Int32) z6_2 gP42 T42.heap n0 Z42 gb_b12 VgP42 hat (by decide)) hZ (hw _ (List.mem_of_getElem? (i := 5) rfl)) (hw _ (List.mem_of_getElem? (i := 4) rfl)) (by decide) (by decide)) (g := (mkF m 233 #[.val (.long q1), .second, .val (.int p2), .val (.int p3), .val (.long q4), .second, .val (.int z6_2), .val (.int z7_3), .val (.long z38_6), .second, .val (.long z10_10), .second, .val (.ref b12)] [(.int z6_2), (.int (2 : Int32)), (.long z10_10), (.int z7_3), (.ref b12)])) rfl (by rw [hml]; rfl) (argsL := [(.ref b12), (.int z7_3), (.long z10_10), (.int (2 : Int32)), (.int z6_2)]) (rest := []) (lenOf pd_0_0 rfl) rfl (by show 2 * 0 + _ ≤ _; exact Nat.le_of_eq rfl) (hb hby at_233) (fun _ _ => ⟨rfl, rfl, (by decide : 1 + 0 ≤ _), (by decide : 13 + 0 ≤ _)⟩)
  obtain ⟨T44, Lc44, vc44, X44, hQ44, st44⟩ := own_bk (F' := fun v => { ((mkF m 233 #[.val (.long q1), .second, .val (.int p2), .val (.int p3), .val (.long q4), .second, .val (.int z6_2), .val (.int z7_3), .val (.long z38_6), .second, .val (.long z10_10), .second, .val (.ref b12)] [(.int z6_2), (.int (2 : Int32)), (.long z10_10), (.int z7_3), (.ref b12)]) : JFrame) with pc := 236, stack := v.toList ++ [] }) (ck := 1) (sn := 13) Xb44 hb44 sb44 rfl rfl
  obtain ⟨hv44, N44q, Kq44, Vq44⟩ := hQ44
  have Z44 : n0 ≤ T44.heap.size := Nat.le_trans Z42 Kq44.1
  obtain ⟨gP44, hgP44⟩ : ∃ g : Nat → Int32, g = (F1 z7_3 z10_10 (2 : Int32) z6_2 gP42) := ⟨_, rfl⟩
  have VgP44 : OwnA Z T44.heap b12 .byte 13 (iv' gP44) := by rw [hgP44]; exact Vq44
  have N44 := Fr.app N42 N44q
  refine OwnG.st (F' := (mkF m 236 #[.val (.long q1), .second, .val (.int p2), .val (.int p3), .val (.long q4), .second, .val (.int z6_2), .val (.int z7_3), .val (.long z38_6), .second, .val (.long z10_10), .second, .val (.ref b12)] [])) (fun t k => st44 t (by rw [hv44]; exact k)) ?_
  clear Xb44 hb44 sb44 st44 hv44
  have sg45 : ∀ tgt, Steps p.tables e below (T44.setTop (mkF m 245 #[.val (.long q1), .second, .val (.int p2), .val (.int p3), .val (.long q4), .second, .val (.int z6_2), .val (.int z7_3), .val (.long z38_6), .second, .val (.long z10_10), .second, .val (.ref b12)] [(.int z6_2), (.int (3 : Int32)), (.long z10_10), (.int z7_3), (.ref b12)])) tgt → Steps p.tables e below (T44.setTop (mkF m 236 #[.val (.long q1), .second, .val (.int p2), .val (.int p3), .val (.long q4), .second, .val (.int z6_2), .val (.int z7_3), .val (.long z38_6), .second, .val (.long z10_10), .second, .val (.ref b12)] [])) tgt := by
    intro tgt kt
    refine XS.aload X44.here hx rfl (hb hby at_236) rfl rfl ?_
    show Steps p.tables e below (T44.setTop (mkF m 238 #[.val (.long q1), .second, .val (.int p2), .val (.int p3), .val (.long q4), .second, .val (.int z6_2), .val (.int z7_3), .val (.long z38_6), .second, .val (.long z10_10), .second, .val (.ref b12)] [(.ref b12)])) _
    refine XS.iload X44.here hx rfl (hb hby at_238) rfl ?_
    show Steps p.tables e below (T44.setTop (mkF m 240 #[.val (.long q1), .second, .val (.int p2), .val (.int p3), .val (.long q4), .second, .val (.int z6_2), .val (.int z7_3), .val (.long z38_6), .second, .val (.long z10_10), .second, .val (.ref b12)] [(.int z7_3), (.ref b12)])) _
    refine XS.lload X44.here hx rfl (hb hby at_240) rfl ?_
    show Steps p.tables e below (T44.setTop (mkF m 242 #[.val (.long q1), .second, .val (.int p2), .val (.int p3), .val (.long q4), .second, .val (.int z6_2), .val (.int z7_3), .val (.long z38_6), .second, .val (.long z10_10), .second, .val (.ref b12)] [(.long z10_10), (.int z7_3), (.ref b12)])) _
    refine XS.iconst X44.here hx rfl (hb hby at_242) ?_
    show Steps p.tables e below (T44.setTop (mkF m 243 #[.val (.long q1), .second, .val (.int p2), .val (.int p3), .val (.long q4), .second, .val (.int z6_2), .val (.int z7_3), .val (.long z38_6), .second, .val (.long z10_10), .second, .val (.ref b12)] [(.int (3 : Int32)), (.long z10_10), (.int z7_3), (.ref b12)])) _
    refine XS.iload X44.here hx rfl (hb hby at_243) rfl ?_
    show Steps p.tables e below (T44.setTop (mkF m 245 #[.val (.long q1), .second, .val (.int p2), .val (.int p3), .val (.long q4), .second, .val (.int z6_2), .val (.int z7_3), .val (.long z38_6), .second, .val (.long z10_10), .second, .val (.ref b12)] [(.int z6_2), (.int (3 : Int32)), (.long z10_10), (.int z7_3), (.ref b12)])) _
    exact kt
  refine OwnG.st sg45 ?_
  obtain ⟨vb46, _, B46, -, Xb46, hb46, sb46⟩ := Jvm.LawKit.callS X44 hx (y := (⟨"com/example/guessd/guessd/VarintsReadPinLaw", "put", "([BIJII)V"⟩ : MethodName)) hown (mvT hZ (hw _ (List.mem_of_getElem? (i := 2) rfl))) (mvT hZ (hw _ (List.mem_of_getElem? (i := 3) rfl))) (mvT hZ (hw _ (List.mem_of_getElem? (i := 4) rfl))) (mvT hZ (hw _ (List.mem_of_getElem? (i := 5) rfl))) (by decide) (backOf (W := 0) (rm1 l Z a0 hw [] b12 z7_3 z10_10 (3 : Int32) z6_2 gP44 T44.heap n0 Z44 gb_b12 VgP44 hat (by decide)) hZ (hw _ (List.mem_of_getElem? (i := 5) rfl)) (hw _ (List.mem_of_getElem? (i := 4) rfl)) (by decide) (by decide)) (g := (mkF m 245 #[.val (.long q1), .second, .val (.int p2), .val (.int p3), .val (.long q4), .second, .val (.int z6_2), .val (.int z7_3), .val (.long z38_6), .second, .val (.long z10_10), .second, .val (.ref b12)] [(.int z6_2), (.int (3 : Int32)), (.long z10_10), (.int z7_3), (.ref b12)])) rfl (by rw [hml]; rfl) (argsL := [(.ref b12), (.int z7_3), (.long z10_10), (.int (3 : Int32)), (.int z6_2)]) (rest := []) (lenOf pd_0_0 rfl) rfl (by show 2 * 0 + _ ≤ _; exact Nat.le_of_eq rfl) (hb hby at_245) (fun _ _ => ⟨rfl, rfl, (by decide : 1 + 0 ≤ _), (by decide : 13 + 0 ≤ _)⟩)
  obtain ⟨T46, Lc46, vc46, X46, hQ46, st46⟩ := own_bk (F' := fun v => { ((mkF m 245 #[.val (.long q1), .second, .val (.int p2), .val (.int p3), .val (.long q4), .second, .val (.int z6_2), .val (.int z7_3), .val (.long z38_6), .second, .val (.long z10_10), .second, .val (.ref b12)] [(.int z6_2), (.int (3 : Int32)), (.long z10_10), (.int z7_3), (.ref b12)]) : JFrame) with pc := 248, stack := v.toList ++ [] }) (ck := 1) (sn := 13) Xb46 hb46 sb46 rfl rfl
  obtain ⟨hv46, N46q, Kq46, Vq46⟩ := hQ46
  have Z46 : n0 ≤ T46.heap.size := Nat.le_trans Z44 Kq46.1
  obtain ⟨gP46, hgP46⟩ : ∃ g : Nat → Int32, g = (F1 z7_3 z10_10 (3 : Int32) z6_2 gP44) := ⟨_, rfl⟩
  have VgP46 : OwnA Z T46.heap b12 .byte 13 (iv' gP46) := by rw [hgP46]; exact Vq46
  have N46 := Fr.app N44 N46q
  refine OwnG.st (F' := (mkF m 248 #[.val (.long q1), .second, .val (.int p2), .val (.int p3), .val (.long q4), .second, .val (.int z6_2), .val (.int z7_3), .val (.long z38_6), .second, .val (.long z10_10), .second, .val (.ref b12)] [])) (fun t k => st46 t (by rw [hv46]; exact k)) ?_
  clear Xb46 hb46 sb46 st46 hv46
  have sg47 : ∀ tgt, Steps p.tables e below (T46.setTop (mkF m 257 #[.val (.long q1), .second, .val (.int p2), .val (.int p3), .val (.long q4), .second, .val (.int z6_2), .val (.int z7_3), .val (.long z38_6), .second, .val (.long z10_10), .second, .val (.ref b12)] [(.int z6_2), (.int (4 : Int32)), (.long z10_10), (.int z7_3), (.ref b12)])) tgt → Steps p.tables e below (T46.setTop (mkF m 248 #[.val (.long q1), .second, .val (.int p2), .val (.int p3), .val (.long q4), .second, .val (.int z6_2), .val (.int z7_3), .val (.long z38_6), .second, .val (.long z10_10), .second, .val (.ref b12)] [])) tgt := by
    intro tgt kt
    refine XS.aload X46.here hx rfl (hb hby at_248) rfl rfl ?_
    show Steps p.tables e below (T46.setTop (mkF m 250 #[.val (.long q1), .second, .val (.int p2), .val (.int p3), .val (.long q4), .second, .val (.int z6_2), .val (.int z7_3), .val (.long z38_6), .second, .val (.long z10_10), .second, .val (.ref b12)] [(.ref b12)])) _
    refine XS.iload X46.here hx rfl (hb hby at_250) rfl ?_
    show Steps p.tables e below (T46.setTop (mkF m 252 #[.val (.long q1), .second, .val (.int p2), .val (.int p3), .val (.long q4), .second, .val (.int z6_2), .val (.int z7_3), .val (.long z38_6), .second, .val (.long z10_10), .second, .val (.ref b12)] [(.int z7_3), (.ref b12)])) _
    refine XS.lload X46.here hx rfl (hb hby at_252) rfl ?_
    show Steps p.tables e below (T46.setTop (mkF m 254 #[.val (.long q1), .second, .val (.int p2), .val (.int p3), .val (.long q4), .second, .val (.int z6_2), .val (.int z7_3), .val (.long z38_6), .second, .val (.long z10_10), .second, .val (.ref b12)] [(.long z10_10), (.int z7_3), (.ref b12)])) _
    refine XS.iconst X46.here hx rfl (hb hby at_254) ?_
    show Steps p.tables e below (T46.setTop (mkF m 255 #[.val (.long q1), .second, .val (.int p2), .val (.int p3), .val (.long q4), .second, .val (.int z6_2), .val (.int z7_3), .val (.long z38_6), .second, .val (.long z10_10), .second, .val (.ref b12)] [(.int (4 : Int32)), (.long z10_10), (.int z7_3), (.ref b12)])) _
    refine XS.iload X46.here hx rfl (hb hby at_255) rfl ?_
    show Steps p.tables e below (T46.setTop (mkF m 257 #[.val (.long q1), .second, .val (.int p2), .val (.int p3), .val (.long q4), .second, .val (.int z6_2), .val (.int z7_3), .val (.long z38_6), .second, .val (.long z10_10), .second, .val (.ref b12)] [(.int z6_2), (.int (4 : Int32)), (.long z10_10), (.int z7_3), (.ref b12)])) _
    exact kt
  refine OwnG.st sg47 ?_
  obtain ⟨vb48, _, B48, -, Xb48, hb48, sb48⟩ := Jvm.LawKit.callS X46 hx (y := (⟨"com/example/guessd/guessd/VarintsReadPinLaw", "put", "([BIJII)V"⟩ : MethodName)) hown (mvT hZ (hw _ (List.mem_of_getElem? (i := 2) rfl))) (mvT hZ (hw _ (List.mem_of_getElem? (i := 3) rfl))) (mvT hZ (hw _ (List.mem_of_getElem? (i := 4) rfl))) (mvT hZ (hw _ (List.mem_of_getElem? (i := 5) rfl))) (by decide) (backOf (W := 0) (rm1 l Z a0 hw [] b12 z7_3 z10_10 (4 : Int32) z6_2 gP46 T46.heap n0 Z46 gb_b12 VgP46 hat (by decide)) hZ (hw _ (List.mem_of_getElem? (i := 5) rfl)) (hw _ (List.mem_of_getElem? (i := 4) rfl)) (by decide) (by decide)) (g := (mkF m 257 #[.val (.long q1), .second, .val (.int p2), .val (.int p3), .val (.long q4), .second, .val (.int z6_2), .val (.int z7_3), .val (.long z38_6), .second, .val (.long z10_10), .second, .val (.ref b12)] [(.int z6_2), (.int (4 : Int32)), (.long z10_10), (.int z7_3), (.ref b12)])) rfl (by rw [hml]; rfl) (argsL := [(.ref b12), (.int z7_3), (.long z10_10), (.int (4 : Int32)), (.int z6_2)]) (rest := []) (lenOf pd_0_0 rfl) rfl (by show 2 * 0 + _ ≤ _; exact Nat.le_of_eq rfl) (hb hby at_257) (fun _ _ => ⟨rfl, rfl, (by decide : 1 + 0 ≤ _), (by decide : 13 + 0 ≤ _)⟩)
  obtain ⟨T48, Lc48, vc48, X48, hQ48, st48⟩ := own_bk (F' := fun v => { ((mkF m 257 #[.val (.long q1), .second, .val (.int p2), .val (.int p3), .val (.long q4), .second, .val (.int z6_2), .val (.int z7_3), .val (.long z38_6), .second, .val (.long z10_10), .second, .val (.ref b12)] [(.int z6_2), (.int (4 : Int32)), (.long z10_10), (.int z7_3), (.ref b12)]) : JFrame) with pc := 260, stack := v.toList ++ [] }) (ck := 1) (sn := 13) Xb48 hb48 sb48 rfl rfl
  obtain ⟨hv48, N48q, Kq48, Vq48⟩ := hQ48
  have Z48 : n0 ≤ T48.heap.size := Nat.le_trans Z46 Kq48.1
  obtain ⟨gP48, hgP48⟩ : ∃ g : Nat → Int32, g = (F1 z7_3 z10_10 (4 : Int32) z6_2 gP46) := ⟨_, rfl⟩
  have VgP48 : OwnA Z T48.heap b12 .byte 13 (iv' gP48) := by rw [hgP48]; exact Vq48
  have N48 := Fr.app N46 N48q
  refine OwnG.st (F' := (mkF m 260 #[.val (.long q1), .second, .val (.int p2), .val (.int p3), .val (.long q4), .second, .val (.int z6_2), .val (.int z7_3), .val (.long z38_6), .second, .val (.long z10_10), .second, .val (.ref b12)] [])) (fun t k => st48 t (by rw [hv48]; exact k)) ?_
  clear Xb48 hb48 sb48 st48 hv48
  have sg49 : ∀ tgt, Steps p.tables e below (T48.setTop (mkF m 269 #[.val (.long q1), .second, .val (.int p2), .val (.int p3), .val (.long q4), .second, .val (.int z6_2), .val (.int z7_3), .val (.long z38_6), .second, .val (.long z10_10), .second, .val (.ref b12)] [(.int z6_2), (.int (5 : Int32)), (.long z10_10), (.int z7_3), (.ref b12)])) tgt → Steps p.tables e below (T48.setTop (mkF m 260 #[.val (.long q1), .second, .val (.int p2), .val (.int p3), .val (.long q4), .second, .val (.int z6_2), .val (.int z7_3), .val (.long z38_6), .second, .val (.long z10_10), .second, .val (.ref b12)] [])) tgt := by
    intro tgt kt
    refine XS.aload X48.here hx rfl (hb hby at_260) rfl rfl ?_
    show Steps p.tables e below (T48.setTop (mkF m 262 #[.val (.long q1), .second, .val (.int p2), .val (.int p3), .val (.long q4), .second, .val (.int z6_2), .val (.int z7_3), .val (.long z38_6), .second, .val (.long z10_10), .second, .val (.ref b12)] [(.ref b12)])) _
    refine XS.iload X48.here hx rfl (hb hby at_262) rfl ?_
    show Steps p.tables e below (T48.setTop (mkF m 264 #[.val (.long q1), .second, .val (.int p2), .val (.int p3), .val (.long q4), .second, .val (.int z6_2), .val (.int z7_3), .val (.long z38_6), .second, .val (.long z10_10), .second, .val (.ref b12)] [(.int z7_3), (.ref b12)])) _
    refine XS.lload X48.here hx rfl (hb hby at_264) rfl ?_
    show Steps p.tables e below (T48.setTop (mkF m 266 #[.val (.long q1), .second, .val (.int p2), .val (.int p3), .val (.long q4), .second, .val (.int z6_2), .val (.int z7_3), .val (.long z38_6), .second, .val (.long z10_10), .second, .val (.ref b12)] [(.long z10_10), (.int z7_3), (.ref b12)])) _
    refine XS.iconst X48.here hx rfl (hb hby at_266) ?_
    show Steps p.tables e below (T48.setTop (mkF m 267 #[.val (.long q1), .second, .val (.int p2), .val (.int p3), .val (.long q4), .second, .val (.int z6_2), .val (.int z7_3), .val (.long z38_6), .second, .val (.long z10_10), .second, .val (.ref b12)] [(.int (5 : Int32)), (.long z10_10), (.int z7_3), (.ref b12)])) _
    refine XS.iload X48.here hx rfl (hb hby at_267) rfl ?_
    show Steps p.tables e below (T48.setTop (mkF m 269 #[.val (.long q1), .second, .val (.int p2), .val (.int p3), .val (.long q4), .second, .val (.int z6_2), .val (.int z7_3), .val (.long z38_6), .second, .val (.long z10_10), .second, .val (.ref b12)] [(.int z6_2), (.int (5 : Int32)), (.long z10_10), (.int z7_3), (.ref b12)])) _
    exact kt
  refine OwnG.st sg49 ?_
  obtain ⟨vb50, _, B50, -, Xb50, hb50, sb50⟩ := Jvm.LawKit.callS X48 hx (y := (⟨"com/example/guessd/guessd/VarintsReadPinLaw", "put", "([BIJII)V"⟩ : MethodName)) hown (mvT hZ (hw _ (List.mem_of_getElem? (i := 2) rfl))) (mvT hZ (hw _ (List.mem_of_getElem? (i := 3) rfl))) (mvT hZ (hw _ (List.mem_of_getElem? (i := 4) rfl))) (mvT hZ (hw _ (List.mem_of_getElem? (i := 5) rfl))) (by decide) (backOf (W := 0) (rm1 l Z a0 hw [] b12 z7_3 z10_10 (5 : Int32) z6_2 gP48 T48.heap n0 Z48 gb_b12 VgP48 hat (by decide)) hZ (hw _ (List.mem_of_getElem? (i := 5) rfl)) (hw _ (List.mem_of_getElem? (i := 4) rfl)) (by decide) (by decide)) (g := (mkF m 269 #[.val (.long q1), .second, .val (.int p2), .val (.int p3), .val (.long q4), .second, .val (.int z6_2), .val (.int z7_3), .val (.long z38_6), .second, .val (.long z10_10), .second, .val (.ref b12)] [(.int z6_2), (.int (5 : Int32)), (.long z10_10), (.int z7_3), (.ref b12)])) rfl (by rw [hml]; rfl) (argsL := [(.ref b12), (.int z7_3), (.long z10_10), (.int (5 : Int32)), (.int z6_2)]) (rest := []) (lenOf pd_0_0 rfl) rfl (by show 2 * 0 + _ ≤ _; exact Nat.le_of_eq rfl) (hb hby at_269) (fun _ _ => ⟨rfl, rfl, (by decide : 1 + 0 ≤ _), (by decide : 13 + 0 ≤ _)⟩)
  obtain ⟨T50, Lc50, vc50, X50, hQ50, st50⟩ := own_bk (F' := fun v => { ((mkF m 269 #[.val (.long q1), .second, .val (.int p2), .val (.int p3), .val (.long q4), .second, .val (.int z6_2), .val (.int z7_3), .val (.long z38_6), .second, .val (.long z10_10), .second, .val (.ref b12)] [(.int z6_2), (.int (5 : Int32)), (.long z10_10), (.int z7_3), (.ref b12)]) : JFrame) with pc := 272, stack := v.toList ++ [] }) (ck := 1) (sn := 13) Xb50 hb50 sb50 rfl rfl
  obtain ⟨hv50, N50q, Kq50, Vq50⟩ := hQ50
  have Z50 : n0 ≤ T50.heap.size := Nat.le_trans Z48 Kq50.1
  obtain ⟨gP50, hgP50⟩ : ∃ g : Nat → Int32, g = (F1 z7_3 z10_10 (5 : Int32) z6_2 gP48) := ⟨_, rfl⟩
  have VgP50 : OwnA Z T50.heap b12 .byte 13 (iv' gP50) := by rw [hgP50]; exact Vq50
  have N50 := Fr.app N48 N50q
  refine OwnG.st (F' := (mkF m 272 #[.val (.long q1), .second, .val (.int p2), .val (.int p3), .val (.long q4), .second, .val (.int z6_2), .val (.int z7_3), .val (.long z38_6), .second, .val (.long z10_10), .second, .val (.ref b12)] [])) (fun t k => st50 t (by rw [hv50]; exact k)) ?_
  clear Xb50 hb50 sb50 st50 hv50
  have sg51 : ∀ tgt, Steps p.tables e below (T50.setTop (mkF m 282 #[.val (.long q1), .second, .val (.int p2), .val (.int p3), .val (.long q4), .second, .val (.int z6_2), .val (.int z7_3), .val (.long z38_6), .second, .val (.long z10_10), .second, .val (.ref b12)] [(.int z6_2), (.int (6 : Int32)), (.long z10_10), (.int z7_3), (.ref b12)])) tgt → Steps p.tables e below (T50.setTop (mkF m 272 #[.val (.long q1), .second, .val (.int p2), .val (.int p3), .val (.long q4), .second, .val (.int z6_2), .val (.int z7_3), .val (.long z38_6), .second, .val (.long z10_10), .second, .val (.ref b12)] [])) tgt := by
    intro tgt kt
    refine XS.aload X50.here hx rfl (hb hby at_272) rfl rfl ?_
    show Steps p.tables e below (T50.setTop (mkF m 274 #[.val (.long q1), .second, .val (.int p2), .val (.int p3), .val (.long q4), .second, .val (.int z6_2), .val (.int z7_3), .val (.long z38_6), .second, .val (.long z10_10), .second, .val (.ref b12)] [(.ref b12)])) _
    refine XS.iload X50.here hx rfl (hb hby at_274) rfl ?_
    show Steps p.tables e below (T50.setTop (mkF m 276 #[.val (.long q1), .second, .val (.int p2), .val (.int p3), .val (.long q4), .second, .val (.int z6_2), .val (.int z7_3), .val (.long z38_6), .second, .val (.long z10_10), .second, .val (.ref b12)] [(.int z7_3), (.ref b12)])) _
    refine XS.lload X50.here hx rfl (hb hby at_276) rfl ?_
    show Steps p.tables e below (T50.setTop (mkF m 278 #[.val (.long q1), .second, .val (.int p2), .val (.int p3), .val (.long q4), .second, .val (.int z6_2), .val (.int z7_3), .val (.long z38_6), .second, .val (.long z10_10), .second, .val (.ref b12)] [(.long z10_10), (.int z7_3), (.ref b12)])) _
    refine XS.bipush X50.here hx rfl (hb hby at_278) ?_
    show Steps p.tables e below (T50.setTop (mkF m 280 #[.val (.long q1), .second, .val (.int p2), .val (.int p3), .val (.long q4), .second, .val (.int z6_2), .val (.int z7_3), .val (.long z38_6), .second, .val (.long z10_10), .second, .val (.ref b12)] [(.int (6 : Int32)), (.long z10_10), (.int z7_3), (.ref b12)])) _
    refine XS.iload X50.here hx rfl (hb hby at_280) rfl ?_
    show Steps p.tables e below (T50.setTop (mkF m 282 #[.val (.long q1), .second, .val (.int p2), .val (.int p3), .val (.long q4), .second, .val (.int z6_2), .val (.int z7_3), .val (.long z38_6), .second, .val (.long z10_10), .second, .val (.ref b12)] [(.int z6_2), (.int (6 : Int32)), (.long z10_10), (.int z7_3), (.ref b12)])) _
    exact kt
  refine OwnG.st sg51 ?_
  obtain ⟨vb52, _, B52, -, Xb52, hb52, sb52⟩ := Jvm.LawKit.callS X50 hx (y := (⟨"com/example/guessd/guessd/VarintsReadPinLaw", "put", "([BIJII)V"⟩ : MethodName)) hown (mvT hZ (hw _ (List.mem_of_getElem? (i := 2) rfl))) (mvT hZ (hw _ (List.mem_of_getElem? (i := 3) rfl))) (mvT hZ (hw _ (List.mem_of_getElem? (i := 4) rfl))) (mvT hZ (hw _ (List.mem_of_getElem? (i := 5) rfl))) (by decide) (backOf (W := 0) (rm1 l Z a0 hw [] b12 z7_3 z10_10 (6 : Int32) z6_2 gP50 T50.heap n0 Z50 gb_b12 VgP50 hat (by decide)) hZ (hw _ (List.mem_of_getElem? (i := 5) rfl)) (hw _ (List.mem_of_getElem? (i := 4) rfl)) (by decide) (by decide)) (g := (mkF m 282 #[.val (.long q1), .second, .val (.int p2), .val (.int p3), .val (.long q4), .second, .val (.int z6_2), .val (.int z7_3), .val (.long z38_6), .second, .val (.long z10_10), .second, .val (.ref b12)] [(.int z6_2), (.int (6 : Int32)), (.long z10_10), (.int z7_3), (.ref b12)])) rfl (by rw [hml]; rfl) (argsL := [(.ref b12), (.int z7_3), (.long z10_10), (.int (6 : Int32)), (.int z6_2)]) (rest := []) (lenOf pd_0_0 rfl) rfl (by show 2 * 0 + _ ≤ _; exact Nat.le_of_eq rfl) (hb hby at_282) (fun _ _ => ⟨rfl, rfl, (by decide : 1 + 0 ≤ _), (by decide : 13 + 0 ≤ _)⟩)
  obtain ⟨T52, Lc52, vc52, X52, hQ52, st52⟩ := own_bk (F' := fun v => { ((mkF m 282 #[.val (.long q1), .second, .val (.int p2), .val (.int p3), .val (.long q4), .second, .val (.int z6_2), .val (.int z7_3), .val (.long z38_6), .second, .val (.long z10_10), .second, .val (.ref b12)] [(.int z6_2), (.int (6 : Int32)), (.long z10_10), (.int z7_3), (.ref b12)]) : JFrame) with pc := 285, stack := v.toList ++ [] }) (ck := 1) (sn := 13) Xb52 hb52 sb52 rfl rfl
  obtain ⟨hv52, N52q, Kq52, Vq52⟩ := hQ52
  have Z52 : n0 ≤ T52.heap.size := Nat.le_trans Z50 Kq52.1
  obtain ⟨gP52, hgP52⟩ : ∃ g : Nat → Int32, g = (F1 z7_3 z10_10 (6 : Int32) z6_2 gP50) := ⟨_, rfl⟩
  have VgP52 : OwnA Z T52.heap b12 .byte 13 (iv' gP52) := by rw [hgP52]; exact Vq52
  have N52 := Fr.app N50 N52q
  refine OwnG.st (F' := (mkF m 285 #[.val (.long q1), .second, .val (.int p2), .val (.int p3), .val (.long q4), .second, .val (.int z6_2), .val (.int z7_3), .val (.long z38_6), .second, .val (.long z10_10), .second, .val (.ref b12)] [])) (fun t k => st52 t (by rw [hv52]; exact k)) ?_
  clear Xb52 hb52 sb52 st52 hv52
  have sg53 : ∀ tgt, Steps p.tables e below (T52.setTop (mkF m 295 #[.val (.long q1), .second, .val (.int p2), .val (.int p3), .val (.long q4), .second, .val (.int z6_2), .val (.int z7_3), .val (.long z38_6), .second, .val (.long z10_10), .second, .val (.ref b12)] [(.int z6_2), (.int (7 : Int32)), (.long z10_10), (.int z7_3), (.ref b12)])) tgt → Steps p.tables e below (T52.setTop (mkF m 285 #[.val (.long q1), .second, .val (.int p2), .val (.int p3), .val (.long q4), .second, .val (.int z6_2), .val (.int z7_3), .val (.long z38_6), .second, .val (.long z10_10), .second, .val (.ref b12)] [])) tgt := by
    intro tgt kt
    refine XS.aload X52.here hx rfl (hb hby at_285) rfl rfl ?_
    show Steps p.tables e below (T52.setTop (mkF m 287 #[.val (.long q1), .second, .val (.int p2), .val (.int p3), .val (.long q4), .second, .val (.int z6_2), .val (.int z7_3), .val (.long z38_6), .second, .val (.long z10_10), .second, .val (.ref b12)] [(.ref b12)])) _
    refine XS.iload X52.here hx rfl (hb hby at_287) rfl ?_
    show Steps p.tables e below (T52.setTop (mkF m 289 #[.val (.long q1), .second, .val (.int p2), .val (.int p3), .val (.long q4), .second, .val (.int z6_2), .val (.int z7_3), .val (.long z38_6), .second, .val (.long z10_10), .second, .val (.ref b12)] [(.int z7_3), (.ref b12)])) _
    refine XS.lload X52.here hx rfl (hb hby at_289) rfl ?_
    show Steps p.tables e below (T52.setTop (mkF m 291 #[.val (.long q1), .second, .val (.int p2), .val (.int p3), .val (.long q4), .second, .val (.int z6_2), .val (.int z7_3), .val (.long z38_6), .second, .val (.long z10_10), .second, .val (.ref b12)] [(.long z10_10), (.int z7_3), (.ref b12)])) _
    refine XS.bipush X52.here hx rfl (hb hby at_291) ?_
    show Steps p.tables e below (T52.setTop (mkF m 293 #[.val (.long q1), .second, .val (.int p2), .val (.int p3), .val (.long q4), .second, .val (.int z6_2), .val (.int z7_3), .val (.long z38_6), .second, .val (.long z10_10), .second, .val (.ref b12)] [(.int (7 : Int32)), (.long z10_10), (.int z7_3), (.ref b12)])) _
    refine XS.iload X52.here hx rfl (hb hby at_293) rfl ?_
    show Steps p.tables e below (T52.setTop (mkF m 295 #[.val (.long q1), .second, .val (.int p2), .val (.int p3), .val (.long q4), .second, .val (.int z6_2), .val (.int z7_3), .val (.long z38_6), .second, .val (.long z10_10), .second, .val (.ref b12)] [(.int z6_2), (.int (7 : Int32)), (.long z10_10), (.int z7_3), (.ref b12)])) _
    exact kt
  refine OwnG.st sg53 ?_
  obtain ⟨vb54, _, B54, -, Xb54, hb54, sb54⟩ := Jvm.LawKit.callS X52 hx (y := (⟨"com/example/guessd/guessd/VarintsReadPinLaw", "put", "([BIJII)V"⟩ : MethodName)) hown (mvT hZ (hw _ (List.mem_of_getElem? (i := 2) rfl))) (mvT hZ (hw _ (List.mem_of_getElem? (i := 3) rfl))) (mvT hZ (hw _ (List.mem_of_getElem? (i := 4) rfl))) (mvT hZ (hw _ (List.mem_of_getElem? (i := 5) rfl))) (by decide) (backOf (W := 0) (rm1 l Z a0 hw [] b12 z7_3 z10_10 (7 : Int32) z6_2 gP52 T52.heap n0 Z52 gb_b12 VgP52 hat (by decide)) hZ (hw _ (List.mem_of_getElem? (i := 5) rfl)) (hw _ (List.mem_of_getElem? (i := 4) rfl)) (by decide) (by decide)) (g := (mkF m 295 #[.val (.long q1), .second, .val (.int p2), .val (.int p3), .val (.long q4), .second, .val (.int z6_2), .val (.int z7_3), .val (.long z38_6), .second, .val (.long z10_10), .second, .val (.ref b12)] [(.int z6_2), (.int (7 : Int32)), (.long z10_10), (.int z7_3), (.ref b12)])) rfl (by rw [hml]; rfl) (argsL := [(.ref b12), (.int z7_3), (.long z10_10), (.int (7 : Int32)), (.int z6_2)]) (rest := []) (lenOf pd_0_0 rfl) rfl (by show 2 * 0 + _ ≤ _; exact Nat.le_of_eq rfl) (hb hby at_295) (fun _ _ => ⟨rfl, rfl, (by decide : 1 + 0 ≤ _), (by decide : 13 + 0 ≤ _)⟩)
  obtain ⟨T54, Lc54, vc54, X54, hQ54, st54⟩ := own_bk (F' := fun v => { ((mkF m 295 #[.val (.long q1), .second, .val (.int p2), .val (.int p3), .val (.long q4), .second, .val (.int z6_2), .val (.int z7_3), .val (.long z38_6), .second, .val (.long z10_10), .second, .val (.ref b12)] [(.int z6_2), (.int (7 : Int32)), (.long z10_10), (.int z7_3), (.ref b12)]) : JFrame) with pc := 298, stack := v.toList ++ [] }) (ck := 1) (sn := 13) Xb54 hb54 sb54 rfl rfl
  obtain ⟨hv54, N54q, Kq54, Vq54⟩ := hQ54
  have Z54 : n0 ≤ T54.heap.size := Nat.le_trans Z52 Kq54.1
  obtain ⟨gP54, hgP54⟩ : ∃ g : Nat → Int32, g = (F1 z7_3 z10_10 (7 : Int32) z6_2 gP52) := ⟨_, rfl⟩
  have VgP54 : OwnA Z T54.heap b12 .byte 13 (iv' gP54) := by rw [hgP54]; exact Vq54
  have N54 := Fr.app N52 N54q
  refine OwnG.st (F' := (mkF m 298 #[.val (.long q1), .second, .val (.int p2), .val (.int p3), .val (.long q4), .second, .val (.int z6_2), .val (.int z7_3), .val (.long z38_6), .second, .val (.long z10_10), .second, .val (.ref b12)] [])) (fun t k => st54 t (by rw [hv54]; exact k)) ?_
  clear Xb54 hb54 sb54 st54 hv54
  have sg55 : ∀ tgt, Steps p.tables e below (T54.setTop (mkF m 308 #[.val (.long q1), .second, .val (.int p2), .val (.int p3), .val (.long q4), .second, .val (.int z6_2), .val (.int z7_3), .val (.long z38_6), .second, .val (.long z10_10), .second, .val (.ref b12)] [(.int z6_2), (.int (8 : Int32)), (.long z10_10), (.int z7_3), (.ref b12)])) tgt → Steps p.tables e below (T54.setTop (mkF m 298 #[.val (.long q1), .second, .val (.int p2), .val (.int p3), .val (.long q4), .second, .val (.int z6_2), .val (.int z7_3), .val (.long z38_6), .second, .val (.long z10_10), .second, .val (.ref b12)] [])) tgt := by
    intro tgt kt
    refine XS.aload X54.here hx rfl (hb hby at_298) rfl rfl ?_
    show Steps p.tables e below (T54.setTop (mkF m 300 #[.val (.long q1), .second, .val (.int p2), .val (.int p3), .val (.long q4), .second, .val (.int z6_2), .val (.int z7_3), .val (.long z38_6), .second, .val (.long z10_10), .second, .val (.ref b12)] [(.ref b12)])) _
    refine XS.iload X54.here hx rfl (hb hby at_300) rfl ?_
    show Steps p.tables e below (T54.setTop (mkF m 302 #[.val (.long q1), .second, .val (.int p2), .val (.int p3), .val (.long q4), .second, .val (.int z6_2), .val (.int z7_3), .val (.long z38_6), .second, .val (.long z10_10), .second, .val (.ref b12)] [(.int z7_3), (.ref b12)])) _
    refine XS.lload X54.here hx rfl (hb hby at_302) rfl ?_
    show Steps p.tables e below (T54.setTop (mkF m 304 #[.val (.long q1), .second, .val (.int p2), .val (.int p3), .val (.long q4), .second, .val (.int z6_2), .val (.int z7_3), .val (.long z38_6), .second, .val (.long z10_10), .second, .val (.ref b12)] [(.long z10_10), (.int z7_3), (.ref b12)])) _
    refine XS.bipush X54.here hx rfl (hb hby at_304) ?_
    show Steps p.tables e below (T54.setTop (mkF m 306 #[.val (.long q1), .second, .val (.int p2), .val (.int p3), .val (.long q4), .second, .val (.int z6_2), .val (.int z7_3), .val (.long z38_6), .second, .val (.long z10_10), .second, .val (.ref b12)] [(.int (8 : Int32)), (.long z10_10), (.int z7_3), (.ref b12)])) _
    refine XS.iload X54.here hx rfl (hb hby at_306) rfl ?_
    show Steps p.tables e below (T54.setTop (mkF m 308 #[.val (.long q1), .second, .val (.int p2), .val (.int p3), .val (.long q4), .second, .val (.int z6_2), .val (.int z7_3), .val (.long z38_6), .second, .val (.long z10_10), .second, .val (.ref b12)] [(.int z6_2), (.int (8 : Int32)), (.long z10_10), (.int z7_3), (.ref b12)])) _
    exact kt
  refine OwnG.st sg55 ?_
  obtain ⟨vb56, _, B56, -, Xb56, hb56, sb56⟩ := Jvm.LawKit.callS X54 hx (y := (⟨"com/example/guessd/guessd/VarintsReadPinLaw", "put", "([BIJII)V"⟩ : MethodName)) hown (mvT hZ (hw _ (List.mem_of_getElem? (i := 2) rfl))) (mvT hZ (hw _ (List.mem_of_getElem? (i := 3) rfl))) (mvT hZ (hw _ (List.mem_of_getElem? (i := 4) rfl))) (mvT hZ (hw _ (List.mem_of_getElem? (i := 5) rfl))) (by decide) (backOf (W := 0) (rm1 l Z a0 hw [] b12 z7_3 z10_10 (8 : Int32) z6_2 gP54 T54.heap n0 Z54 gb_b12 VgP54 hat (by decide)) hZ (hw _ (List.mem_of_getElem? (i := 5) rfl)) (hw _ (List.mem_of_getElem? (i := 4) rfl)) (by decide) (by decide)) (g := (mkF m 308 #[.val (.long q1), .second, .val (.int p2), .val (.int p3), .val (.long q4), .second, .val (.int z6_2), .val (.int z7_3), .val (.long z38_6), .second, .val (.long z10_10), .second, .val (.ref b12)] [(.int z6_2), (.int (8 : Int32)), (.long z10_10), (.int z7_3), (.ref b12)])) rfl (by rw [hml]; rfl) (argsL := [(.ref b12), (.int z7_3), (.long z10_10), (.int (8 : Int32)), (.int z6_2)]) (rest := []) (lenOf pd_0_0 rfl) rfl (by show 2 * 0 + _ ≤ _; exact Nat.le_of_eq rfl) (hb hby at_308) (fun _ _ => ⟨rfl, rfl, (by decide : 1 + 0 ≤ _), (by decide : 13 + 0 ≤ _)⟩)
  obtain ⟨T56, Lc56, vc56, X56, hQ56, st56⟩ := own_bk (F' := fun v => { ((mkF m 308 #[.val (.long q1), .second, .val (.int p2), .val (.int p3), .val (.long q4), .second, .val (.int z6_2), .val (.int z7_3), .val (.long z38_6), .second, .val (.long z10_10), .second, .val (.ref b12)] [(.int z6_2), (.int (8 : Int32)), (.long z10_10), (.int z7_3), (.ref b12)]) : JFrame) with pc := 311, stack := v.toList ++ [] }) (ck := 1) (sn := 13) Xb56 hb56 sb56 rfl rfl
  obtain ⟨hv56, N56q, Kq56, Vq56⟩ := hQ56
  have Z56 : n0 ≤ T56.heap.size := Nat.le_trans Z54 Kq56.1
  obtain ⟨gP56, hgP56⟩ : ∃ g : Nat → Int32, g = (F1 z7_3 z10_10 (8 : Int32) z6_2 gP54) := ⟨_, rfl⟩
  have VgP56 : OwnA Z T56.heap b12 .byte 13 (iv' gP56) := by rw [hgP56]; exact Vq56
  have N56 := Fr.app N54 N56q
  refine OwnG.st (F' := (mkF m 311 #[.val (.long q1), .second, .val (.int p2), .val (.int p3), .val (.long q4), .second, .val (.int z6_2), .val (.int z7_3), .val (.long z38_6), .second, .val (.long z10_10), .second, .val (.ref b12)] [])) (fun t k => st56 t (by rw [hv56]; exact k)) ?_
  clear Xb56 hb56 sb56 st56 hv56
  have hall := own_all z7_3 z10_10 z6_2 gB _ _ _ _ _ _ _ _ _ hgP40 hgP42 hgP44 hgP46 hgP48 hgP50 hgP52 hgP54 hgP56 hat
  have hr0 : ∀ i, (gB i).toInt ≤ 127 := by rw [hgB]; exact own_ur _ _ _ (own_ur _ _ _ (own_ur _ _ _ (own_ur _ _ _ (own_ur _ _ _ (own_ur _ _ _ (own_ur _ _ _ (own_ur _ _ _ (own_ur _ _ _ (own_ur _ _ _ (own_ur _ _ _ (own_ur _ _ _ (own_ur _ _ _ (fun _ => by decide)))))))))))))
  have hr1 : ∀ i, (gP40 i).toInt ≤ 127 := by rw [hgP40]; exact own_putr _ _ _ _ _ hr0
  have hr2 : ∀ i, (gP42 i).toInt ≤ 127 := by rw [hgP42]; exact own_putr _ _ _ _ _ hr1
  have hr3 : ∀ i, (gP44 i).toInt ≤ 127 := by rw [hgP44]; exact own_putr _ _ _ _ _ hr2
  have hr4 : ∀ i, (gP46 i).toInt ≤ 127 := by rw [hgP46]; exact own_putr _ _ _ _ _ hr3
  have hr5 : ∀ i, (gP48 i).toInt ≤ 127 := by rw [hgP48]; exact own_putr _ _ _ _ _ hr4
  have hr6 : ∀ i, (gP50 i).toInt ≤ 127 := by rw [hgP50]; exact own_putr _ _ _ _ _ hr5
  have hr7 : ∀ i, (gP52 i).toInt ≤ 127 := by rw [hgP52]; exact own_putr _ _ _ _ _ hr6
  have hr8 : ∀ i, (gP54 i).toInt ≤ 127 := by rw [hgP54]; exact own_putr _ _ _ _ _ hr7
  have hr9 : ∀ i, (gP56 i).toInt ≤ 127 := by rw [hgP56]; exact own_putr _ _ _ _ _ hr8
  have hread := own_rd _ gP56 _ z6_2 hnn0 hall hr9
  have sg57 : ∀ tgt, Steps p.tables e below (T56.setTop (mkF m 315 #[.val (.long q1), .second, .val (.int p2), .val (.int p3), .val (.long q4), .second, .val (.int z6_2), .val (.int z7_3), .val (.long z38_6), .second, .val (.long z10_10), .second, .val (.ref b12)] [(.int z7_3), (.ref b12)])) tgt → Steps p.tables e below (T56.setTop (mkF m 311 #[.val (.long q1), .second, .val (.int p2), .val (.int p3), .val (.long q4), .second, .val (.int z6_2), .val (.int z7_3), .val (.long z38_6), .second, .val (.long z10_10), .second, .val (.ref b12)] [])) tgt := by
    intro tgt kt
    refine XS.aload X56.here hx rfl (hb hby at_311) rfl rfl ?_
    show Steps p.tables e below (T56.setTop (mkF m 313 #[.val (.long q1), .second, .val (.int p2), .val (.int p3), .val (.long q4), .second, .val (.int z6_2), .val (.int z7_3), .val (.long z38_6), .second, .val (.long z10_10), .second, .val (.ref b12)] [(.ref b12)])) _
    refine XS.iload X56.here hx rfl (hb hby at_313) rfl ?_
    show Steps p.tables e below (T56.setTop (mkF m 315 #[.val (.long q1), .second, .val (.int p2), .val (.int p3), .val (.long q4), .second, .val (.int z6_2), .val (.int z7_3), .val (.long z38_6), .second, .val (.long z10_10), .second, .val (.ref b12)] [(.int z7_3), (.ref b12)])) _
    exact kt
  refine OwnG.st sg57 ?_
  obtain ⟨vb58, _, B58, -, Xb58, hb58, sb58⟩ := Jvm.LawKit.callS X56 hx (y := (⟨"com/example/guessd/guessd/Varints", "read", "([BI)J"⟩ : MethodName)) hown (mvT hZ (hw _ (List.mem_of_getElem? (i := 7) rfl))) (mvT hZ (hw _ (List.mem_of_getElem? (i := 8) rfl))) (mvT hZ (hw _ (List.mem_of_getElem? (i := 9) rfl))) (mvT hZ (hw _ (List.mem_of_getElem? (i := 10) rfl))) (by decide) (backOf (W := 0) (rm2 l Z a0 hw [] b12 z7_3 z6_2.toInt.toNat gP56 T56.heap n0 Z56 VgP56 hat hnn hread.1 hread.2.1 hread.2.2) hZ (hw _ (List.mem_of_getElem? (i := 10) rfl)) (hw _ (List.mem_of_getElem? (i := 9) rfl)) (by decide) (by decide)) (g := (mkF m 315 #[.val (.long q1), .second, .val (.int p2), .val (.int p3), .val (.long q4), .second, .val (.int z6_2), .val (.int z7_3), .val (.long z38_6), .second, .val (.long z10_10), .second, .val (.ref b12)] [(.int z7_3), (.ref b12)])) rfl (by rw [hml]; rfl) (argsL := [(.ref b12), (.int z7_3)]) (rest := []) (lenOf pd_0_1 rfl) rfl (by show 2 * 0 + _ ≤ _; exact Nat.le_of_eq rfl) (hb hby at_315) (fun _ _ => ⟨rfl, rfl, (by decide : 1 + 0 ≤ _), (by decide : 13 + 0 ≤ _)⟩)
  obtain ⟨T58, Lc58, vc58, X58, hQ58, st58⟩ := own_bk (F' := fun v => { ((mkF m 315 #[.val (.long q1), .second, .val (.int p2), .val (.int p3), .val (.long q4), .second, .val (.int z6_2), .val (.int z7_3), .val (.long z38_6), .second, .val (.long z10_10), .second, .val (.ref b12)] [(.int z7_3), (.ref b12)]) : JFrame) with pc := 318, stack := v.toList ++ [] }) (ck := 1) (sn := 13) Xb58 hb58 sb58 rfl rfl
  obtain ⟨hv58, N58q, e58⟩ := hQ58
  have N58 := Fr.app N56 N58q
  refine OwnG.st (F' := (mkF m 318 #[.val (.long q1), .second, .val (.int p2), .val (.int p3), .val (.long q4), .second, .val (.int z6_2), .val (.int z7_3), .val (.long z38_6), .second, .val (.long z10_10), .second, .val (.ref b12)] [(.long (own_acc gP56 z7_3.toInt.toNat z6_2.toInt.toNat))])) (fun t k => st58 t (by rw [hv58]; exact k)) ?_
  clear Xb58 hb58 sb58 st58 hv58
  have hc321_59 : (own_acc gP56 z7_3.toInt.toNat z6_2.toInt.toNat) = z10_10 := by rw [hz10_10]; exact own_fin _ _ _ _ _ hnn0 hz38_6 (by rw [← hz10_10]; exact hall)
  have sg60 : ∀ tgt, Steps p.tables e below (T58.setTop (mkF m 329 #[.val (.long q1), .second, .val (.int p2), .val (.int p3), .val (.long q4), .second, .val (.int z6_2), .val (.int z7_3), .val (.long z38_6), .second, .val (.long z10_10), .second, .val (.ref b12)] [(.int (1 : Int32))])) tgt → Steps p.tables e below (T58.setTop (mkF m 318 #[.val (.long q1), .second, .val (.int p2), .val (.int p3), .val (.long q4), .second, .val (.int z6_2), .val (.int z7_3), .val (.long z38_6), .second, .val (.long z10_10), .second, .val (.ref b12)] [(.long (own_acc gP56 z7_3.toInt.toNat z6_2.toInt.toNat))])) tgt := by
    intro tgt kt
    refine XS.lload X58.here hx rfl (hb hby at_318) rfl ?_
    show Steps p.tables e below (T58.setTop (mkF m 320 #[.val (.long q1), .second, .val (.int p2), .val (.int p3), .val (.long q4), .second, .val (.int z6_2), .val (.int z7_3), .val (.long z38_6), .second, .val (.long z10_10), .second, .val (.ref b12)] [(.long z10_10), (.long (own_acc gP56 z7_3.toInt.toNat z6_2.toInt.toNat))])) _
    refine XS.lcmp X58.here hx rfl (hb hby at_320) rfl ?_
    show Steps p.tables e below (T58.setTop (mkF m 321 #[.val (.long q1), .second, .val (.int p2), .val (.int p3), .val (.long q4), .second, .val (.int z6_2), .val (.int z7_3), .val (.long z38_6), .second, .val (.long z10_10), .second, .val (.ref b12)] [(.int (lcmpW (own_acc gP56 z7_3.toInt.toNat z6_2.toInt.toNat) z10_10))])) _
    refine XS.ifNo X58.here hx rfl (hb hby at_321) rfl ((if0 _ _).trans (teq ((lw_eq (own_acc gP56 z7_3.toInt.toNat z6_2.toInt.toNat) z10_10).mpr hc321_59)).2) ?_
    show Steps p.tables e below (T58.setTop (mkF m 324 #[.val (.long q1), .second, .val (.int p2), .val (.int p3), .val (.long q4), .second, .val (.int z6_2), .val (.int z7_3), .val (.long z38_6), .second, .val (.long z10_10), .second, .val (.ref b12)] [])) _
    refine XS.iconst X58.here hx rfl (hb hby at_324) ?_
    show Steps p.tables e below (T58.setTop (mkF m 325 #[.val (.long q1), .second, .val (.int p2), .val (.int p3), .val (.long q4), .second, .val (.int z6_2), .val (.int z7_3), .val (.long z38_6), .second, .val (.long z10_10), .second, .val (.ref b12)] [(.int (1 : Int32))])) _
    refine XS.goto X58.here hx rfl (pc0 := 325) (pc' := 329) rfl (hb hby at_325) (by decide) (by decide) ?_
    show Steps p.tables e below (T58.setTop (mkF m 329 #[.val (.long q1), .second, .val (.int p2), .val (.int p3), .val (.long q4), .second, .val (.int z6_2), .val (.int z7_3), .val (.long z38_6), .second, .val (.long z10_10), .second, .val (.ref b12)] [(.int (1 : Int32))])) _
    exact kt
  refine OwnG.st sg60 ?_
  have hv : (1 : Int32) = 1 := rfl
  exact OwnG.retN X58 hx (t := .boolean) (by simp) Bd.returns (BodyLoose.notSynchronized Bd) (hb hby at_329) ⟨congrArg (fun w => some (Value.int (nar .boolean w))) hv, N58⟩ (by decide) (by decide)
set_option maxRecDepth 65536 in
set_option maxHeartbeats 40000000 in
theorem comes_1 {Post : Tables → Env → Array Value → State → Outcome → State → Prop} (hpost : ∀ tb e args s v u, (limb_1_1.after args s (.returned v) u = true ∧ limb_1_2.after args s (.returned v) u = true ∧ True) → FrameEnd s (.returned v) u (Jvm.fieldLocs frame_1_writes args s ++ Jvm.arrayLocs frame_1_arrays args s ++ Jvm.staticLocs frame_1_statics s) 16 128 → Post tb e args s (.returned v) u) :
    ArmFor flags0 classFile x code maxLocals ret World_1 tables_1 room_1 Calls_1 rest_1 Pre_1 Post := by
  intro l hfl _ _ p e ha hc hk s m args below hf hA hF happ hP
  obtain ⟨hcalls, hrest, hpre⟩ := hP
  obtain ⟨-, -, -, hnamed, -, -, -, hat⟩ := (Spec.applies_iff hf).mp happ
  obtain ⟨hg, hn⟩ := and_e (Cond.before_iff.mp (show (Jvm.Cond.and given_1 narrow_1).before args s = true from hpre))
  obtain ⟨g1, g2⟩ := and_e hg
  obtain ⟨g3, g4⟩ := and_e g2
  obtain ⟨g5, g6⟩ := and_e g4
  obtain ⟨g7, g8⟩ := and_e g6
  obtain ⟨w0, w1, w2, w3, rfl⟩ : ∃ w0 w1 w2 w3 : Value, args = #[w0, w1, w2, w3] := by
    have hs : args.size = 4 := by simpa [Cond.value, given_1] using g1
    obtain ⟨L⟩ := args
    match L, hs with
    | [w0, w1, w2, w3], _ => exact ⟨w0, w1, w2, w3, rfl⟩
  have hw := fun d (hd : d ∈ tables_1) => atoms_spec (ws := Jvm.Cond.code x code maxLocals ret :: tables_1) hat d (List.mem_cons_of_mem _ hd)
  obtain ⟨i0, ei0⟩ := isL_v g3
  obtain rfl : w0 = (.long i0) := Option.some.inj ei0
  obtain ⟨i1, ei1⟩ := is_v g5
  obtain rfl : w1 = (.int i1) := Option.some.inj ei1
  obtain ⟨i2, ei2⟩ := is_v g7
  obtain rfl : w2 = (.int i2) := Option.some.inj ei2
  obtain ⟨i3, ei3⟩ := isL_v g8
  obtain rfl : w3 = (.long i3) := Option.some.inj ei3
  obtain ⟨n, o, h1, h2, h3, _, L, rfl, ⟨rfl, N⟩, hq⟩ := rm0 l s _ hw tables_1 i0 i1 i2 i3  s.heap s.heap.size (Nat.le_refl _)  p e ha hc hk s m _ below hf ((Spec.applies_iff_loose hf).mp happ).1 ⟨rfl, State.Warmed39.refl s, rfl⟩ trivial
  refine ⟨n, _, h1, h2, h3, hpost _ _ _ _ _ _ ⟨Cond.after_iff.mpr rfl, Cond.after_iff.mpr (eq_i res_at (Term.int_eval (1)) rfl), trivial⟩ ⟨hq.1, hq.2.1, (hq.2.2.sift fun y hy => Or.inr (N y hy)).mono (by decide) (by decide)⟩⟩
theorem main_1_1 : Claimed_1_1 := comes_1 fun _ _ _ _ _ _ h hF => ⟨h.1, hF⟩
theorem main_1_2 : Claimed_1_2 := comes_1 fun _ _ _ _ _ _ h hF => ⟨h.2.1, hF⟩
end Jvm.Pilot.@@N@@
namespace Jvm.Pilot.@@N@@
open Jvm Jvm.ClassFile Sem Op Lib Jvm.Free Jvm.Stand Jvm.Pilot.@@N@@.Jvm.D
/-! MADE BY PROGRAM (witnessworld.py) out of the Statement's table words and the real class files: 9 classes; the members and pool entries that the words name. The judged class is class 1, her method 2. -/
namespace start1
open Jvm.ClassFile
def u (s : String) : CpInfo := .utf8 (stringToUtf16 s)
/-- a pool by its gaps: so many unusable entries, then the entry; so many at the end -/
def gap : Nat → List CpInfo → List CpInfo
  | 0, r => r
  | n + 1, r => .unusable :: gap n r
def poolList (es : List (Nat × CpInfo)) (last : Nat) : List CpInfo := es.foldr (fun e r => gap e.1 (e.2 :: r)) (gap last [])
def pool (es : List (Nat × CpInfo)) (last : Nat) : Array CpInfo := ⟨poolList es last⟩
def fileOf (pool : Array CpInfo) (this : Nat) (attrs : Array Attribute := #[]) (ms : Array MethodInfo := #[]) (fl : Nat := 33) (sup : Nat := 0) (ifs : Array Nat := #[]) (fds : Array FieldInfo := #[]) : ClassFile where
  minorVersion := 0
  majorVersion := 65
  constantPool := pool
  accessFlags := fl
  thisClass := this
  superClass := sup
  interfaces := ifs
  fields := fds
  methods := ms
  attributes := attrs
def plain (name : String) (sup : Option ClassId) : Class where
  name := name
  kind := .ordinary
  loader := none
  accessFlags := 33
  super := sup
  interfaces := #[]
  cf := none
  fields := #[]
  methods := #[]
  instanceTypes := #[]
  staticTypes := #[]
  resolved := #[]
  callSites := []
  init := .initialized
  statics := none
  mirror := none

def pool0 : Array CpInfo := pool [(5, u "<init>"), (0, u "()V"), (1, .class_ 10), (1, u "java/lang/Object")] 113

def k0m0 : Method := { name := "<init>", desc := "()V", sig := { parameters := [], returnType := none }, accessFlags := 1, code := none }
/-- java/lang/Object -/
def k0 : Class := { plain "java/lang/Object" none with
  accessFlags := 33
  interfaces := #[]
  cf := some (fileOf pool0 8 #[] #[{ accessFlags := 1, nameIndex := 5, descriptorIndex := 6, attributes := #[] }] 33 0 #[] #[])
  fields := #[]
  methods := #[k0m0]
  instanceTypes := #[]
  staticTypes := #[]
  resolved := Array.replicate 124 none
  statics := none }

def pool1 : Array CpInfo := pool [(2, .class_ 4), (1, u "java/lang/Object"), (0, u "<init>"), (0, u "()V"), (0, .long 127), (1, .integer 2147483647), (2, .long 9223372036854775807), (1, .methodref 15 16), (0, .class_ 17), (0, .nameAndType 18 19), (0, u "com/example/guessd/guessd/VarintsReadPinLaw"), (0, u "put"), (0, u "([BIJII)V"), (0, .methodref 21 22), (0, .class_ 23), (0, .nameAndType 24 25), (0, u "com/example/guessd/guessd/Varints"), (0, u "read"), (0, u "([BI)J"), (3, u "law"), (0, u "(JIIJ)Z")] 4

def k1m0 : Method := { name := "<init>", desc := "()V", sig := { parameters := [], returnType := none }, accessFlags := 2, code := none }
def k1c1 : Code := { maxStack := 4, maxLocals := 7, code := method_2_code, exceptionTable := #[], attributes := #[] }
def k1m1 : Method := { name := "put", desc := "([BIJII)V", sig := { parameters := [(.array .byte), .int, .long, .int, .int], returnType := none }, accessFlags := 10, code := some k1c1 }
def k1c2 : Code := { maxStack := 6, maxLocals := 13, code := code, exceptionTable := #[], attributes := #[] }
def k1m2 : Method := { name := "law", desc := "(JIIJ)Z", sig := { parameters := [.long, .int, .int, .long], returnType := some .boolean }, accessFlags := 9, code := some k1c2 }
/-- com/example/guessd/guessd/VarintsReadPinLaw -/
def k1 : Class := { plain "com/example/guessd/guessd/VarintsReadPinLaw" (some 0) with
  accessFlags := 49
  interfaces := #[]
  cf := some (fileOf pool1 15 #[] #[{ accessFlags := 2, nameIndex := 5, descriptorIndex := 6, attributes := #[] }, { accessFlags := 10, nameIndex := 18, descriptorIndex := 19, attributes := #[] }, { accessFlags := 9, nameIndex := 29, descriptorIndex := 30, attributes := #[] }] 49 2 #[] #[])
  fields := #[]
  methods := #[k1m0, k1m1, k1m2]
  instanceTypes := #[]
  staticTypes := #[]
  resolved := Array.replicate 35 none
  statics := none }

def pool2 : Array CpInfo := pool [(2, .class_ 4), (1, u "java/lang/Object"), (0, u "<init>"), (0, u "()V"), (2, .long 127), (7, .class_ 18), (0, u "com/example/guessd/guessd/Varints"), (0, u "MAX_BYTES"), (0, u "I"), (7, u "read"), (0, u "([BI)J")] 3

def k2m0 : Method := { name := "<init>", desc := "()V", sig := { parameters := [], returnType := none }, accessFlags := 2, code := none }
def k2c1 : Code := { maxStack := 5, maxLocals := 7, code := prog_27_method_3_code, exceptionTable := #[], attributes := #[] }
def k2m1 : Method := { name := "read", desc := "([BI)J", sig := { parameters := [(.array .byte), .int], returnType := some .long }, accessFlags := 8, code := some k2c1 }
/-- com/example/guessd/guessd/Varints -/
def k2 : Class := { plain "com/example/guessd/guessd/Varints" (some 0) with
  accessFlags := 48
  interfaces := #[]
  cf := some (fileOf pool2 17 #[] #[{ accessFlags := 2, nameIndex := 5, descriptorIndex := 6, attributes := #[] }, { accessFlags := 8, nameIndex := 28, descriptorIndex := 29, attributes := #[] }] 48 2 #[] #[{ accessFlags := 24, nameIndex := 19, descriptorIndex := 20, attributes := #[] }])
  fields := #[{ name := "MAX_BYTES", type := .int, accessFlags := 24, slot := 0, constantValue := 0 }]
  methods := #[k2m0, k2m1]
  instanceTypes := #[]
  staticTypes := #[.int]
  resolved := Array.replicate 33 none
  statics := none }

def pool3 : Array CpInfo := pool [(1, u "java/lang/Cloneable"), (0, .class_ 1), (0, u "java/lang/Object"), (0, .class_ 3)] 3

/-- java/lang/Cloneable -/
def k3 : Class := { plain "java/lang/Cloneable" (some 0) with
  accessFlags := 1537
  interfaces := #[]
  cf := some (fileOf pool3 2 #[] #[] 1537 4 #[] #[])
  fields := #[]
  methods := #[]
  instanceTypes := #[]
  staticTypes := #[]
  resolved := Array.replicate 8 none
  statics := none }

def pool4 : Array CpInfo := pool [(1, u "java/io/Serializable"), (0, .class_ 1), (0, u "java/lang/Object"), (0, .class_ 3)] 3

/-- java/io/Serializable -/
def k4 : Class := { plain "java/io/Serializable" (some 0) with
  accessFlags := 1537
  interfaces := #[]
  cf := some (fileOf pool4 2 #[] #[] 1537 4 #[] #[])
  fields := #[]
  methods := #[]
  instanceTypes := #[]
  staticTypes := #[]
  resolved := Array.replicate 8 none
  statics := none }

/-- the primitive byte -/
def k5 : Class := { plain "byte" none with kind := .primitive 'B', accessFlags := 0x411 }
/-- [B -/
def k6 : Class := { plain "[B" (some 0) with kind := .array 5 .byte, interfaces := #[3, 4], accessFlags := 1041 }

/-- the primitive int -/
def k7 : Class := { plain "int" none with kind := .primitive 'I', accessFlags := 0x411 }
/-- [I -/
def k8 : Class := { plain "[I" (some 0) with kind := .array 7 .int, interfaces := #[3, 4], accessFlags := 1041 }

def heap : Heap := #[]
def classes : Array Class := #[k0, k1, k2, k3, k4, k5, k6, k7, k8]
def interned : List (Array UInt16 × Addr) := []
def slotsUsed : Nat := 0
def theMethod : MethodId := ⟨1, 2⟩
def args0 : Array Value := #[.long 5, .int 5, .int 5, .long 5]
def aboutOver (below : List Frame) : State where
  vm := { classes := classes, interned := interned.toArray }
  heap := heap
  slotsUsed := slotsUsed
  threads := #[{ frames := .invoking theMethod args0 :: below }]
def below0 : List Frame := [.native { method := ⟨0, 0⟩, args := #[] }]
def about1 : State := aboutOver below0
def p0 : Program := .bare "" "" ""
def e0 : Env := launch0.env 0 0 0
theorem w_frames : about1.frames = Frame.invoking theMethod args0 :: below0 := rfl
set_option maxRecDepth 65536 in
theorem w_args : argsFit about1.vm theMethod args0 = true := by decide +kernel
set_option maxRecDepth 65536 in
theorem w_heap : heapFits about1 = true := by decide +kernel
set_option maxRecDepth 65536 in
theorem w_runnable : about1.curStatus? = some .runnable := by decide +kernel
set_option maxRecDepth 65536 in
theorem w_alone : about1.alone = true := by decide +kernel
set_option maxRecDepth 65536 in
theorem w_named : about1.methodNamed? x = some theMethod := by decide +kernel
set_option maxRecDepth 65536 in
theorem w_hears : about1.hears theMethod below0 = true := by decide +kernel
set_option maxRecDepth 65536 in
theorem w_ripe : about1.ripe theMethod args0 below0 = true := by decide +kernel
theorem w_running : about1.status = .running := rfl
set_option maxRecDepth 65536 in
theorem w_room : about1.hasRoom e0.platform room_1 = true :=
  launch0.hasRoom_least _ room_1 (by decide +kernel) (by decide +kernel) (by decide +kernel) (by decide +kernel) (by decide +kernel) (by decide +kernel)
theorem allAtoms_all (ts : List Jvm.Cond) (a : Array Jvm.Value) (st : Jvm.State) : (allAtoms ts).before a st = ts.all (fun c => c.before a st) := by
  induction ts with
  | nil => rfl
  | cons c t ih =>
    show (Jvm.Cond.and c (allAtoms t)).before a st = _
    rw [Jvm.Cond.before_and, ih, List.all_cons]
def words1 : List Jvm.Cond := Jvm.Cond.code x code maxLocals ret :: tables_1
/-- a 'code' word, met by the world's own term for the bytes: nothing is compared byte by byte -/
theorem code_word {y : MethodName} {bytes : ByteArray} {mx : Nat} {rt : Option FieldType} {a : Array Value} {s : State} {m : MethodId} {meth : Method} {c : Code} (h1 : s.methodNamed? y = some m) (h2 : s.vm.method? m = some meth) (h3 : meth.code = some c) (h4 : c.code = bytes)
    (h5 : (c.maxLocals == mx && c.exceptionTable.isEmpty && decide (c.maxStack ≤ mostOperands) && decide (meth.sig.returnType = rt) && !meth.locks && decide (parseMethodDescriptor y.desc = some meth.sig)) = true) : (Jvm.Cond.code y bytes mx rt).before a s = true := by
  simp only [Bool.and_eq_true, beq_iff_eq, Bool.not_eq_true', decide_eq_true_eq] at h5
  obtain ⟨⟨⟨⟨⟨g1, g2⟩, g3⟩, g4⟩, g5⟩, g6⟩ := h5
  simp [Cond.before, Cond.holds, Cond.value, h1, h2, h3, h4, g1, g2, g3, g4, g5, g6]
def isCode : Jvm.Cond → Bool
  | .code _ _ _ _ => true
  | _ => false
theorem all_split {L : List Jvm.Cond} {P : Jvm.Cond → Bool} (h1 : L.all (fun c => isCode c || P c) = true) (h2 : ∀ c ∈ L.filter isCode, P c = true) : L.all P = true := by
  refine List.all_eq_true.mpr fun c hc => ?_
  have h := List.all_eq_true.mp h1 c hc
  rcases Bool.eq_false_or_eq_true (isCode c) with hi | hi
  · exact h2 c (List.mem_filter.mpr ⟨hc, hi⟩)
  · simpa [hi] using h
set_option maxRecDepth 65536 in
theorem w_c0 : (Jvm.Cond.code x code maxLocals ret).before args0 about1 = true := code_word (m := ⟨1, 2⟩) (meth := k1m2) (c := k1c2) (by decide +kernel) rfl rfl rfl (by decide +kernel)
set_option maxRecDepth 65536 in
theorem w_c1 : (Jvm.Cond.code ({ cls := "com/example/guessd/guessd/VarintsReadPinLaw", name := "put", desc := "([BIJII)V" } : Jvm.MethodName) method_2_code (7 : Nat) (Option.none : Option Jvm.ClassFile.FieldType)).before args0 about1 = true := code_word (m := ⟨1, 1⟩) (meth := k1m1) (c := k1c1) (by decide +kernel) rfl rfl rfl (by decide +kernel)
set_option maxRecDepth 65536 in
theorem w_c2 : (Jvm.Cond.code ({ cls := "com/example/guessd/guessd/Varints", name := "read", desc := "([BI)J" } : Jvm.MethodName) prog_27_method_3_code (7 : Nat) (Option.some Jvm.ClassFile.FieldType.long)).before args0 about1 = true := code_word (m := ⟨2, 1⟩) (meth := k2m1) (c := k2c1) (by decide +kernel) rfl rfl rfl (by decide +kernel)
def codes1 : List Jvm.Cond := [Jvm.Cond.code x code maxLocals ret, Jvm.Cond.code ({ cls := "com/example/guessd/guessd/VarintsReadPinLaw", name := "put", desc := "([BIJII)V" } : Jvm.MethodName) method_2_code (7 : Nat) (Option.none : Option Jvm.ClassFile.FieldType), Jvm.Cond.code ({ cls := "com/example/guessd/guessd/Varints", name := "read", desc := "([BI)J" } : Jvm.MethodName) prog_27_method_3_code (7 : Nat) (Option.some Jvm.ClassFile.FieldType.long)]
set_option maxRecDepth 65536 in
theorem codes_eq : words1.filter isCode = codes1 := rfl
theorem w_codes : ∀ c ∈ words1.filter isCode, c.before args0 about1 = true := by
  rw [codes_eq]
  intro c hc
  simp only [codes1, List.mem_cons, List.not_mem_nil, or_false] at hc
  rcases hc with rfl | rfl | rfl
  · exact w_c0
  · exact w_c1
  · exact w_c2
set_option maxRecDepth 65536 in
theorem w_t1 : words1.all (fun c => isCode c || c.before args0 about1) = true := by decide +kernel
theorem w_tables : (allAtoms (Jvm.Cond.code x code maxLocals ret :: tables_1)).before args0 about1 = true := by
  rw [allAtoms_all]
  show words1.all (fun c => c.before args0 about1) = true
  refine all_split ?_ w_codes
  rw [w_t1]
set_option maxRecDepth 65536 in
theorem w_case : (Jvm.Cond.and given_1 narrow_1).before args0 about1 = true := by decide +kernel
theorem w_applies : (headSpec (Jvm.Cond.code x code maxLocals ret :: tables_1) room_1).applies x e0.platform about1 = true :=
  (Spec.applies_iff w_frames).mpr ⟨w_running, w_runnable, w_alone, w_named, w_hears, w_ripe, w_room, w_tables⟩
theorem atStart : AtStart classFile x code maxLocals ret World_1 tables_1 room_1 Calls_1 rest_1 Pre_1 launch0 p0 e0 about1 theMethod args0 below0 :=
  ⟨lists_1, trivial, launch0.admits_env _ _ _, launch0.least_env, fairChoices_fair.cas, fairChoices_fair.clock, w_frames, w_args, w_heap, w_applies, trivial, trivial, w_case⟩
end start1
theorem witness_1 : WitnessClaimed_1 := ⟨start1.p0, start1.e0, start1.about1, start1.theMethod, start1.args0, start1.below0, start1.atStart⟩
end Jvm.Pilot.@@N@@
