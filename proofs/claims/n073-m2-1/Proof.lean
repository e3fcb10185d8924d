import JvmDerived
import JvmDerived.Pilot.@@N@@Statement
import JvmDerived.Pilot.@@N@@Code
set_option linter.unusedVariables false
set_option linter.unusedSimpArgs false
set_option maxHeartbeats 4000000
set_option maxRecDepth 8192
namespace Jvm.OwnKit
open Sem ClassFile Op Lib Jvm.Stand Jvm.Free Jvm.LawKit Jvm.RoadKit
section Own
variable {p : Program} {l : Launch} {e : Env} {R : Room} {s : State} {m : MethodId} {args : Array Value} {below : List Frame} {meth : Method} {c : Code} {T T' : State} {locs : List Loc} {cells slots : Nat}
/-- from the state T with the frame F on top the run comes to the method's end, and what Q says holds there -/
def OwnG (p : Program) (e : Env) (below : List Frame) (s : State) (Q : Option Value → Heap → List Loc → Prop) (k n : Nat) (T : State) (F : JFrame) : Prop :=
  ∃ s₂ o, Steps p.tables e below (T.setTop F) s₂ ∧ s₂.status = .running ∧ Ended s₂ below o ∧ ∃ v L, o = .returned v ∧ Q v s₂.heap L ∧ FrameEnd s o s₂ L k n
theorem OwnG.st {Q : Option Value → Heap → List Loc → Prop} {k n : Nat} {F F' : JFrame} (h : ∀ t, Steps p.tables e below (T'.setTop F') t → Steps p.tables e below (T.setTop F) t) (g : OwnG p e below s Q k n T' F') : OwnG p e below s Q k n T F := by
  obtain ⟨s2, o, h1, r⟩ := g
  exact ⟨s2, o, h _ h1, r⟩
theorem OwnG.leave (X : Stand p l e R s m args below meth c T locs cells slots) {Q : Option Value → Heap → List Loc → Prop} {k n : Nat} {F : JFrame} {v : Option Value} (hv : meth.sig.returnType = none → v = none) (hlk : meth.locks = false)
    (hs : ∀ fs, (∀ (f : JFrame) (acts : List Action), f.method = m → f.locked = none → f.entered = [] → (doReturn e (T.setTop f) acts v).1 = T.setFrames fs) → Steps p.tables e below (T.setTop F) (T.setFrames fs)) (hq : Q v T.heap locs) (hk : cells ≤ k) (hn : slots ≤ n) : OwnG p e below s Q k n T F := by
  obtain ⟨fs, hr, hrun, hended, hW, hsame⟩ := X.leave hv hlk
  exact ⟨_, _, hs fs hr, hrun, hended, _, _, rfl, hq, ⟨_, rfl⟩, hW, hsame.mono hk hn⟩
theorem OwnG.retI (X : Stand p l e R s m args below meth c T locs cells slots) (hx : p.tables.exec = Jvm.exec) {Q : Option Value → Heap → List Loc → Prop} {k n pc : Nat} {Ls : Array Slot} {z : Int32} {rest : List Value} (hret : meth.sig.returnType = some .int) (hlk : meth.locks = false) (hd : decode c.code pc = .ok (.ireturn, 1)) (hq : Q (some (.int z)) T.heap locs) (hk : cells ≤ k) (hn : slots ≤ n) : OwnG p e below s Q k n T (mkF m pc Ls (.int z :: rest)) :=
  OwnG.leave X (fun h => by rw [hret] at h; cases h) hlk (fun fs hr => retOut X hx hret rfl (Or.inl ⟨rfl, Or.inl rfl, z, rfl⟩) hd hr) hq hk hn
theorem OwnG.retJ (X : Stand p l e R s m args below meth c T locs cells slots) (hx : p.tables.exec = Jvm.exec) {Q : Option Value → Heap → List Loc → Prop} {k n pc : Nat} {Ls : Array Slot} {z : Int64} {rest : List Value} (hret : meth.sig.returnType = some .long) (hlk : meth.locks = false) (hd : decode c.code pc = .ok (.lreturn, 1)) (hq : Q (some (.long z)) T.heap locs) (hk : cells ≤ k) (hn : slots ≤ n) : OwnG p e below s Q k n T (mkF m pc Ls (.long z :: rest)) :=
  OwnG.leave X (fun h => by rw [hret] at h; cases h) hlk (fun fs hr => retOut X hx hret rfl (Or.inr (Or.inl ⟨rfl, rfl, z, rfl⟩)) hd hr) hq hk hn
theorem OwnG.retR (X : Stand p l e R s m args below meth c T locs cells slots) (hx : p.tables.exec = Jvm.exec) {Q : Option Value → Heap → List Loc → Prop} {k n pc : Nat} {Ls : Array Slot} {a : Addr} {rest : List Value} {t : FieldType} (hret : meth.sig.returnType = some t) (ht : t.isReference = true) (hnn : narrow t (.ref a) = .ref a) (hlk : meth.locks = false) (hd : decode c.code pc = .ok (.areturn, 1)) (hq : Q (some (.ref a)) T.heap locs) (hk : cells ≤ k) (hn : slots ≤ n) : OwnG p e below s Q k n T (mkF m pc Ls (.ref a :: rest)) :=
  OwnG.leave X (fun h => by rw [hret] at h; cases h) hlk (fun fs hr => retOut X hx hret hnn (Or.inr (Or.inr (Or.inr (Or.inr ⟨rfl, ht, rfl⟩)))) hd hr) hq hk hn
theorem OwnG.retN (X : Stand p l e R s m args below meth c T locs cells slots) (hx : p.tables.exec = Jvm.exec) {Q : Option Value → Heap → List Loc → Prop} {k n pc : Nat} {Ls : Array Slot} {z : Int32} {rest : List Value} {t : FieldType} (ht : t = .boolean ∨ t = .byte ∨ t = .char ∨ t = .short) (hret : meth.sig.returnType = some t) (hlk : meth.locks = false) (hd : decode c.code pc = .ok (.ireturn, 1)) (hq : Q (some (.int (nar t z))) T.heap locs) (hk : cells ≤ k) (hn : slots ≤ n) : OwnG p e below s Q k n T (mkF m pc Ls (.int z :: rest)) :=
  OwnG.leave X (fun h => by rw [hret] at h; cases h) hlk (fun fs hr => Jvm.RoadKit.retN X hx hret ht hd hr) hq hk hn
theorem OwnG.retV (X : Stand p l e R s m args below meth c T locs cells slots) (hx : p.tables.exec = Jvm.exec) {Q : Option Value → Heap → List Loc → Prop} {k n pc : Nat} {Ls : Array Slot} (hret : meth.sig.returnType = none) (hlk : meth.locks = false) (hd : decode c.code pc = .ok (.return_, 1)) (hq : Q none T.heap locs) (hk : cells ≤ k) (hn : slots ≤ n) : OwnG p e below s Q k n T (mkF m pc Ls []) :=
  OwnG.leave X (fun _ => rfl) hlk (fun fs hr => X.returnOut hx hret hd hr) hq hk hn
theorem own_bk {Q : Option Value → Heap → List Loc → Prop} {v : Option Value} {B : Free.Pt} {k n ck sn : Nat} {F : JFrame} {F' : Option Value → JFrame} (X : Stand p l e R s m args below meth c B.U B.locs B.cells B.slots)
    (hp : ∃ L, Q v B.U.heap L ∧ B.locs = locs ++ L ∧ B.cells = cells + k ∧ B.slots = slots + n) (st : ∀ t, Steps p.tables e below (B.U.setTop (F' v)) t → Steps p.tables e below (T.setTop F) t) (hc : cells + k = ck) (hs : slots + n = sn) :
    ∃ T' L v, Stand p l e R s m args below meth c T' (locs ++ L) ck sn ∧ Q v T'.heap L ∧ ∀ t, Steps p.tables e below (T'.setTop (F' v)) t → Steps p.tables e below (T.setTop F) t := by
  obtain ⟨U, L0, k0, n0⟩ := B
  obtain ⟨L, hq, e1, e2, e3⟩ := hp
  subst hc hs e1 e2 e3
  exact ⟨U, L, v, X, hq, st⟩
end Own
end Jvm.OwnKit
namespace Jvm.OwnKit
open Sem ClassFile Op Lib Jvm.Stand Jvm.Free Jvm.LawKit Jvm.RoadKit
section Arrays
variable {p : Program} {l : Launch} {e : Env} {R : Room} {s : State} {m : MethodId} {args : Array Value} {below : List Frame} {meth : Method} {c : Code} {T : State} {locs : List Loc} {cells slots : Nat} {Z : State} {a0 : Array Value} {h h' : Heap} {a b : Addr} {ty : FieldType} {n : Nat} {f f' : Nat → Value}
/-- at a lies an array of kind ty and length n whose components are f 0, f 1, .. -/
def OwnA (Z : State) (h : Heap) (a : Addr) (ty : FieldType) (n : Nat) (f : Nat → Value) : Prop := ∃ c : Cell, Arr Z h a c ty ∧ c.slots.size = n ∧ ∀ i, i < n → c.slots[i]? = some (f i)
def updv {α : Type} (g : Nat → α) (j : Nat) (v : α) : Nat → α := fun i => if i = j then v else g i
abbrev iv' (g : Nat → Int32) : Nat → Value := fun i => .int (g i)
abbrev jv' (g : Nat → Int64) : Nat → Value := fun i => .long (g i)
theorem OwnA.lt (A : OwnA Z h a ty n f) : a < h.size := by obtain ⟨c, A, -⟩ := A; exact A.lt
theorem OwnA.ext (A : OwnA Z h a ty n f) (E : Ext h h') : OwnA Z h' a ty n f := by obtain ⟨c, A, r⟩ := A; exact ⟨c, A.ext E, r⟩
theorem OwnA.other {sl : Nat} {v : Value} (A : OwnA Z h b ty n f) (W : Wr h h' a sl v) (q : b ≠ a) : OwnA Z h' b ty n f := by obtain ⟨c, A, r⟩ := A; exact ⟨c, A.other W q, r⟩
theorem OwnA.keep {ws : List Addr} (A : OwnA Z h a ty n f) (K : Keep h h' ws) (q : a ∉ ws) : OwnA Z h' a ty n f := by obtain ⟨c, A, r⟩ := A; exact ⟨c, ⟨K.2.1 a c A.1 q, A.2⟩, r⟩
theorem OwnA.congr (A : OwnA Z h a ty n f) (q : ∀ i, i < n → f i = f' i) : OwnA Z h a ty n f' := by obtain ⟨c, A, s1, s2⟩ := A; exact ⟨c, A, s1, fun i hi => (s2 i hi).trans (congrArg some (q i hi))⟩
theorem own_in {c : Cell} {j : Int32} (S : c.slots.size = n) (h0 : 0 ≤ j.toInt) (h1 : j.toInt < n) : ¬ (j < 0 ∨ c.slots.size ≤ j.toNatClampNeg) := by
  have e0 : (0 : Int32).toInt = 0 := rfl
  have e1 : j.toNatClampNeg = j.toInt.toNat := rfl
  rw [S, Int32.lt_iff_toInt_lt, e0, e1]; omega
theorem own_slots (c : Cell) (i : Nat) (v : Value) : (c.setSlot i v).slots = c.slots.setIfInBounds i v := rfl
theorem own_set {cl : Cell} {sl : Nat} {v : Value} (A : Arr Z h a cl ty) (S : cl.slots.size = n) (G : ∀ i, i < n → cl.slots[i]? = some (f i)) (W : Wr h h' a sl v) (hs : sl < n) : OwnA Z h' a ty n (updv f sl v) := by
  refine ⟨_, A.same W, by rw [sz_set]; exact S, fun i hi => ?_⟩
  rw [own_slots]
  by_cases u : sl = i
  · subst u; rw [Array.getElem?_setIfInBounds_self_of_lt (by omega)]; exact congrArg some (show v = (if sl = sl then v else f sl) by rw [if_pos rfl])
  · rw [Array.getElem?_setIfInBounds_ne u, G i hi]; exact congrArg some (show f i = (if i = sl then v else f i) by rw [if_neg (fun q => u q.symm)])
theorem own_ldB {g : Nat → Int32} (A : OwnA Z h a .byte n (iv' g)) (X : Stand p l e R s m args below meth c T locs cells slots) (hx : p.tables.exec = Jvm.exec) (hZ : Z.Warmed39 s.vm) (eT : T.heap = h) {j : Int32} (h0 : 0 ≤ j.toInt) (h1 : j.toInt < n) {gf : JFrame} (hg : gf.method = m) {rest : List Value} (hs : gf.stack = .int j :: .ref a :: rest) (hd : decode c.code gf.pc = .ok (.baload, 1)) :
    ∀ target, Steps p.tables e below (T.setTop { gf with pc := gf.pc + 1, stack := .int (g j.toInt.toNat) :: rest }) target → Steps p.tables e below (T.setTop gf) target := by
  obtain ⟨cl, A, S, G⟩ := A
  exact fun t k => X.baloadBytes hx (by rw [eT]; exact A.1) (State.isArrayOf_alike hZ.alike A.2.1) A.2.2 (own_in S h0 h1) (G j.toInt.toNat (by omega)) hg hs hd t k
theorem own_ldI {g : Nat → Int32} (A : OwnA Z h a .int n (iv' g)) (X : Stand p l e R s m args below meth c T locs cells slots) (hx : p.tables.exec = Jvm.exec) (hZ : Z.Warmed39 s.vm) (eT : T.heap = h) {j : Int32} (h0 : 0 ≤ j.toInt) (h1 : j.toInt < n) {gf : JFrame} (hg : gf.method = m) {rest : List Value} (hs : gf.stack = .int j :: .ref a :: rest) (hd : decode c.code gf.pc = .ok (.iaload, 1)) :
    ∀ target, Steps p.tables e below (T.setTop { gf with pc := gf.pc + 1, stack := .int (g j.toInt.toNat) :: rest }) target → Steps p.tables e below (T.setTop gf) target := by
  obtain ⟨cl, A, S, G⟩ := A
  exact fun t k => X.iaload hx (by rw [eT]; exact A.1) (State.isArrayOf_alike hZ.alike A.2.1) A.2.2 (own_in S h0 h1) (G j.toInt.toNat (by omega)) hg hs hd t k
theorem own_ldJ {g : Nat → Int64} (A : OwnA Z h a .long n (jv' g)) (X : Stand p l e R s m args below meth c T locs cells slots) (hx : p.tables.exec = Jvm.exec) (hZ : Z.Warmed39 s.vm) (eT : T.heap = h) {j : Int32} (h0 : 0 ≤ j.toInt) (h1 : j.toInt < n) {gf : JFrame} (hg : gf.method = m) {rest : List Value} (hs : gf.stack = .int j :: .ref a :: rest) (hd : decode c.code gf.pc = .ok (.laload, 1)) :
    ∀ target, Steps p.tables e below (T.setTop { gf with pc := gf.pc + 1, stack := .long (g j.toInt.toNat) :: rest }) target → Steps p.tables e below (T.setTop gf) target := by
  obtain ⟨cl, A, S, G⟩ := A
  exact fun t k => X.laload hx (by rw [eT]; exact A.1) (State.isArrayOf_alike hZ.alike A.2.1) A.2.2 (own_in S h0 h1) (G j.toInt.toNat (by omega)) hg hs hd t k
theorem own_len (A : OwnA Z h a ty n f) (X : Stand p l e R s m args below meth c T locs cells slots) (hx : p.tables.exec = Jvm.exec) (hZ : Z.Warmed39 s.vm) (eT : T.heap = h) {gf : JFrame} (hg : gf.method = m) {rest : List Value} (hs : gf.stack = .ref a :: rest) (hd : decode c.code gf.pc = .ok (.arraylength, 1)) :
    ∀ target, Steps p.tables e below (T.setTop { gf with pc := gf.pc + 1, stack := .int n.toInt32 :: rest }) target → Steps p.tables e below (T.setTop gf) target := by
  obtain ⟨cl, A, S, G⟩ := A
  subst S
  exact fun t k => X.arraylength hx (by rw [eT]; exact A.1) (State.isArrayOf_alike hZ.alike A.2.1) hg hs hd t k
theorem own_stB {g : Nat → Int32} (A : OwnA Z h a .byte n (iv' g)) (X : Stand p l e R s m args below meth c T locs cells slots) (hx : p.tables.exec = Jvm.exec) (hZ : Z.Warmed39 s.vm) (eT : T.heap = h) {j x : Int32} (h0 : 0 ≤ j.toInt) (h1 : j.toInt < n) {gf : JFrame} (hg : gf.method = m) {rest : List Value} (hs : gf.stack = .int x :: .int j :: .ref a :: rest) (hd : decode c.code gf.pc = .ok (.bastore, 1)) :
    ∃ T' h', Stand p l e R s m args below meth c T' (locs ++ [⟨a, j.toNatClampNeg⟩]) cells slots ∧ T'.heap = h' ∧ Wr h h' a j.toNatClampNeg (.int (nar .byte x)) ∧ OwnA Z h' a .byte n (iv' (updv g j.toInt.toNat x.toInt8.toInt32)) ∧ ∀ target, Steps p.tables e below (T'.setTop { gf with pc := gf.pc + 1, stack := rest }) target → Steps p.tables e below (T.setTop gf) target := by
  obtain ⟨cl, A, S, G⟩ := A
  obtain ⟨T', h', X', e', W, st⟩ := stB X hx hZ eT A (own_in S h0 h1) hg hs hd
  refine ⟨T', h', X', e', W, OwnA.congr (own_set A S G W (by show j.toInt.toNat < n; omega)) fun i hi => ?_, st⟩
  show (if i = j.toInt.toNat then Value.int (x.toInt8.toInt32) else .int (g i)) = .int (if i = j.toInt.toNat then x.toInt8.toInt32 else g i)
  by_cases u : i = j.toInt.toNat
  · rw [if_pos u, if_pos u]
  · rw [if_neg u, if_neg u]
theorem own_stI {g : Nat → Int32} (A : OwnA Z h a .int n (iv' g)) (X : Stand p l e R s m args below meth c T locs cells slots) (hx : p.tables.exec = Jvm.exec) (hZ : Z.Warmed39 s.vm) (eT : T.heap = h) {j x : Int32} (h0 : 0 ≤ j.toInt) (h1 : j.toInt < n) {gf : JFrame} (hg : gf.method = m) {rest : List Value} (hs : gf.stack = .int x :: .int j :: .ref a :: rest) (hd : decode c.code gf.pc = .ok (.iastore, 1)) :
    ∃ T' h', Stand p l e R s m args below meth c T' (locs ++ [⟨a, j.toNatClampNeg⟩]) cells slots ∧ T'.heap = h' ∧ Wr h h' a j.toNatClampNeg (.int x) ∧ OwnA Z h' a .int n (iv' (updv g j.toInt.toNat x)) ∧ ∀ target, Steps p.tables e below (T'.setTop { gf with pc := gf.pc + 1, stack := rest }) target → Steps p.tables e below (T.setTop gf) target := by
  obtain ⟨cl, A, S, G⟩ := A
  obtain ⟨T', h', X', e', W, st⟩ := stI X hx hZ eT A (own_in S h0 h1) hg hs hd
  refine ⟨T', h', X', e', W, OwnA.congr (own_set A S G W (by show j.toInt.toNat < n; omega)) fun i hi => ?_, st⟩
  show (if i = j.toInt.toNat then Value.int x else .int (g i)) = .int (if i = j.toInt.toNat then x else g i)
  by_cases u : i = j.toInt.toNat
  · rw [if_pos u, if_pos u]
  · rw [if_neg u, if_neg u]
theorem own_stJ {g : Nat → Int64} (A : OwnA Z h a .long n (jv' g)) (X : Stand p l e R s m args below meth c T locs cells slots) (hx : p.tables.exec = Jvm.exec) (hZ : Z.Warmed39 s.vm) (eT : T.heap = h) {j : Int32} {x : Int64} (h0 : 0 ≤ j.toInt) (h1 : j.toInt < n) {gf : JFrame} (hg : gf.method = m) {rest : List Value} (hs : gf.stack = .long x :: .int j :: .ref a :: rest) (hd : decode c.code gf.pc = .ok (.lastore, 1)) :
    ∃ T' h', Stand p l e R s m args below meth c T' (locs ++ [⟨a, j.toNatClampNeg⟩]) cells slots ∧ T'.heap = h' ∧ Wr h h' a j.toNatClampNeg (.long x) ∧ OwnA Z h' a .long n (jv' (updv g j.toInt.toNat x)) ∧ ∀ target, Steps p.tables e below (T'.setTop { gf with pc := gf.pc + 1, stack := rest }) target → Steps p.tables e below (T.setTop gf) target := by
  obtain ⟨cl, A, S, G⟩ := A
  obtain ⟨T', h', X', e', W, st⟩ := stJ X hx hZ eT A (own_in S h0 h1) hg hs hd
  refine ⟨T', h', X', e', W, OwnA.congr (own_set A S G W (by show j.toInt.toNat < n; omega)) fun i hi => ?_, st⟩
  show (if i = j.toInt.toNat then Value.long x else .long (g i)) = .long (if i = j.toInt.toNat then x else g i)
  by_cases u : i = j.toInt.toNat
  · rw [if_pos u, if_pos u]
  · rw [if_neg u, if_neg u]
theorem own_newA {k : ClassId} {z : Int32} (A : Arr Z h a (newA k ty z) ty) (hn : z.toInt = n) : OwnA Z h a ty n (fun _ => defaultValue ty) := by
  have e1 : z.toNatClampNeg = n := by show z.toInt.toNat = n; omega
  refine ⟨_, A, by rw [sz_new]; exact e1, fun i hi => ?_⟩
  show (Array.replicate z.toNatClampNeg (defaultValue ty))[i]? = _
  rw [e1, Array.getElem?_replicate, if_pos hi]
end Arrays
end Jvm.OwnKit
namespace Jvm.OwnKit
open Jvm.RoadKit
theorem own_split {w : Nat} (x m : BitVec w) : (x &&& ~~~m) + (x &&& m) = x := by
  rw [BitVec.add_eq_or_of_and_eq_zero]
  · ext i hi
    simp only [BitVec.getElem_or, BitVec.getElem_and, BitVec.getElem_not]
    cases x[i] <;> cases m[i] <;> rfl
  · ext i hi
    simp only [BitVec.getElem_and, BitVec.getElem_not, BitVec.getElem_zero]
    cases x[i] <;> cases m[i] <;> rfl
theorem own_hi (x m m' : Int32) (h : m' = ~~~m) : (x &&& m') + (x &&& m) = x := by
  subst h
  exact Int32.toBitVec_inj.mp (own_split x.toBitVec m.toBitVec)
theorem own_irem (x y : Int32) : x - (x / y) * y = x % y := by
  apply Int32.toInt_inj.mp
  have h1 := rng32 (x % y)
  have e := Int.mul_tdiv_add_tmod x.toInt y.toInt
  rw [Int32.toInt_mod] at h1 ⊢
  rw [Int32.toInt_sub, Int32.toInt_mul, Int32.toInt_div, Int.bmod_mul_bmod, Int.sub_bmod_bmod]
  rw [show x.toInt - x.toInt.tdiv y.toInt * y.toInt = x.toInt.tmod y.toInt by rw [Int.mul_comm]; omega]
  exact Int.bmod_eq_of_le_mul_two (by omega) (by omega)
end Jvm.OwnKit
namespace Jvm.OwnKit
open Jvm.RoadKit
theorem own_lushr (x : Int64) (q : Int32) (k : Nat) (hk : q.toBitVec.toNat % 64 = k) : ((x.toUInt64 >>> (q &&& 0x3f).toInt64.toUInt64).toInt64).toBitVec = x.toBitVec >>> k := by
  have h5 := (sm64 q k hk).2
  show x.toBitVec >>> ((q &&& 0x3f).toInt64.toBitVec % 64) = _
  rw [BitVec.ushiftRight_eq', BitVec.toNat_umod, (sm64 q k hk).1, BitVec.toNat_ofNat]
  congr 1
  show k % 2 ^ 64 % 64 = k
  omega
theorem own_lshl (x : Int64) (q : Int32) (k : Nat) (hk : q.toBitVec.toNat % 64 = k) : (x <<< (q &&& 0x3f).toInt64).toBitVec = x.toBitVec <<< k := by
  have h5 := (sm64 q k hk).2
  show x.toBitVec <<< ((q &&& 0x3f).toInt64.toBitVec.smod 64) = _
  rw [BitVec.shiftLeft_eq', (sm64 q k hk).1, smod64 k h5]
end Jvm.OwnKit
namespace Jvm.Pilot.@@N@@
open Jvm Jvm.ClassFile Sem Op Lib Jvm.Free Jvm.Stand Jvm.LawKit Jvm.RoadKit Bundle Jvm.Pilot.@@N@@.Jvm.D Jvm.OwnKit
def F1 (q1 : Int64) : Int32 := (if q1 < (128 : Int64) then (1 : Int32) else (if q1 < (16384 : Int64) then (2 : Int32) else (if q1 < (2097152 : Int64) then (3 : Int32) else (if q1 < (268435456 : Int64) then (4 : Int32) else (if q1 < (34359738368 : Int64) then (5 : Int32) else (if q1 < (4398046511104 : Int64) then (6 : Int32) else (if q1 < (562949953421312 : Int64) then (7 : Int32) else (if q1 < (72057594037927936 : Int64) then (8 : Int32) else (9 : Int32)))))))))
theorem d1_0 : decode method_2_code 0 = .ok (.lload_n 0, 1) := by decide +kernel
theorem d1_1 : decode method_2_code 1 = .ok (.ldc2_w 7, 3) := by decide +kernel
theorem d1_4 : decode method_2_code 4 = .ok (.lcmp, 1) := by decide +kernel
theorem d1_5 : decode method_2_code 5 = .ok (.ifCond .ge 5, 3) := by decide +kernel
theorem d1_8 : decode method_2_code 8 = .ok (.iconst 1, 1) := by decide +kernel
theorem d1_9 : decode method_2_code 9 = .ok (.ireturn, 1) := by decide +kernel
theorem d1_10 : decode method_2_code 10 = .ok (.lload_n 0, 1) := by decide +kernel
theorem d1_11 : decode method_2_code 11 = .ok (.ldc2_w 9, 3) := by decide +kernel
theorem d1_14 : decode method_2_code 14 = .ok (.lcmp, 1) := by decide +kernel
theorem d1_15 : decode method_2_code 15 = .ok (.ifCond .ge 5, 3) := by decide +kernel
theorem d1_18 : decode method_2_code 18 = .ok (.iconst 2, 1) := by decide +kernel
theorem d1_19 : decode method_2_code 19 = .ok (.ireturn, 1) := by decide +kernel
theorem d1_20 : decode method_2_code 20 = .ok (.lload_n 0, 1) := by decide +kernel
theorem d1_21 : decode method_2_code 21 = .ok (.ldc2_w 11, 3) := by decide +kernel
theorem d1_24 : decode method_2_code 24 = .ok (.lcmp, 1) := by decide +kernel
theorem d1_25 : decode method_2_code 25 = .ok (.ifCond .ge 5, 3) := by decide +kernel
theorem d1_28 : decode method_2_code 28 = .ok (.iconst 3, 1) := by decide +kernel
theorem d1_29 : decode method_2_code 29 = .ok (.ireturn, 1) := by decide +kernel
theorem d1_30 : decode method_2_code 30 = .ok (.lload_n 0, 1) := by decide +kernel
theorem d1_31 : decode method_2_code 31 = .ok (.ldc2_w 13, 3) := by decide +kernel
theorem d1_34 : decode method_2_code 34 = .ok (.lcmp, 1) := by decide +kernel
theorem d1_35 : decode method_2_code 35 = .ok (.ifCond .ge 5, 3) := by decide +kernel
theorem d1_38 : decode method_2_code 38 = .ok (.iconst 4, 1) := by decide +kernel
theorem d1_39 : decode method_2_code 39 = .ok (.ireturn, 1) := by decide +kernel
theorem d1_40 : decode method_2_code 40 = .ok (.lload_n 0, 1) := by decide +kernel
theorem d1_41 : decode method_2_code 41 = .ok (.ldc2_w 15, 3) := by decide +kernel
theorem d1_44 : decode method_2_code 44 = .ok (.lcmp, 1) := by decide +kernel
theorem d1_45 : decode method_2_code 45 = .ok (.ifCond .ge 5, 3) := by decide +kernel
theorem d1_48 : decode method_2_code 48 = .ok (.iconst 5, 1) := by decide +kernel
theorem d1_49 : decode method_2_code 49 = .ok (.ireturn, 1) := by decide +kernel
theorem d1_50 : decode method_2_code 50 = .ok (.lload_n 0, 1) := by decide +kernel
theorem d1_51 : decode method_2_code 51 = .ok (.ldc2_w 17, 3) := by decide +kernel
theorem d1_54 : decode method_2_code 54 = .ok (.lcmp, 1) := by decide +kernel
theorem d1_55 : decode method_2_code 55 = .ok (.ifCond .ge 6, 3) := by decide +kernel
theorem d1_58 : decode method_2_code 58 = .ok (.bipush 6, 2) := by decide +kernel
theorem d1_60 : decode method_2_code 60 = .ok (.ireturn, 1) := by decide +kernel
theorem d1_61 : decode method_2_code 61 = .ok (.lload_n 0, 1) := by decide +kernel
theorem d1_62 : decode method_2_code 62 = .ok (.ldc2_w 19, 3) := by decide +kernel
theorem d1_65 : decode method_2_code 65 = .ok (.lcmp, 1) := by decide +kernel
theorem d1_66 : decode method_2_code 66 = .ok (.ifCond .ge 6, 3) := by decide +kernel
theorem d1_69 : decode method_2_code 69 = .ok (.bipush 7, 2) := by decide +kernel
theorem d1_71 : decode method_2_code 71 = .ok (.ireturn, 1) := by decide +kernel
theorem d1_72 : decode method_2_code 72 = .ok (.lload_n 0, 1) := by decide +kernel
theorem d1_73 : decode method_2_code 73 = .ok (.ldc2_w 21, 3) := by decide +kernel
theorem d1_76 : decode method_2_code 76 = .ok (.lcmp, 1) := by decide +kernel
theorem d1_77 : decode method_2_code 77 = .ok (.ifCond .ge 6, 3) := by decide +kernel
theorem d1_80 : decode method_2_code 80 = .ok (.bipush 8, 2) := by decide +kernel
theorem d1_82 : decode method_2_code 82 = .ok (.ireturn, 1) := by decide +kernel
theorem d1_83 : decode method_2_code 83 = .ok (.bipush 9, 2) := by decide +kernel
theorem d1_85 : decode method_2_code 85 = .ok (.ireturn, 1) := by decide +kernel
theorem pn_1 : plainName "com/example/guessd/guessd/VarintsWritePinLaw" = true := by first | (simp [plainName, overriddenIn]; done) | decide +kernel
theorem ef_1 (m : MethodId) (q1 : Int64) : entryFrame m #[(.long q1)] 2 = mkF m 0 #[.val (.long q1), .second] [] := by first | (simp [entryFrame, mkF, argsToLocals, Value.category]; done) | rfl
def Q1 (Z : State) (q1 : Int64) (h0 : Heap) (n0 : Nat) (v : Option Value) (h : Heap) (L : List Loc) : Prop := v = some (.int (F1 q1)) ∧ Fr n0 L ∧ h = h0
set_option maxRecDepth 65536 in
set_option maxHeartbeats 40000000 in
theorem rm1 (l : Launch) (Z : State) (a0 : Array Value) (hw : ∀ d ∈ tables_1, d.before a0 Z = true) (ws : List Jvm.Cond) (q1 : Int64)  (h0 : Heap) (n0 : Nat) (Z0 : n0 ≤ h0.size)  :
    MetFree l (⟨"com/example/guessd/guessd/VarintsWritePinLaw", "count", "(J)I"⟩ : MethodName) (head1 (Jvm.Cond.code (⟨"com/example/guessd/guessd/VarintsWritePinLaw", "count", "(J)I"⟩ : MethodName) method_2_code 2 (some .int) :: ws) ({ frames := 0, cells := 0, slots := 0, locals := 0 } : Room)) (fun a U => a = #[(.long q1)] ∧ Z.Warmed39 U.vm ∧ U.heap = h0) (fun _ _ _ _ _ => True) (fun _ U o U' => ∃ v L, o = .returned v ∧ Q1 Z q1 h0 n0 v U'.heap L ∧ FrameEnd U o U' L ({ frames := 0, cells := 0, slots := 0, locals := 0 } : Room).cells ({ frames := 0, cells := 0, slots := 0, locals := 0 } : Room).slots) := by
  refine MetFree.of_bodySF (plainFor_of_name pn_1) hisR ?_
  intro p e s m args below meth c s₁ Bd hml0 hP hK
  obtain ⟨rfl, hZ, hh⟩ := hP
  have hx := Bd.exec
  have hby := Bd.bytes
  have hml : c.maxLocals = 2 := hml0
  have hown : s.vm.findClass "com/example/guessd/guessd/VarintsWritePinLaw" = some m.cls := findClass_of_methodNamed Bd.named
  have hnm := (name_of_methodNamed Bd.named Bd.method).1
  have X0 : Stand p l e ({ frames := 0, cells := 0, slots := 0, locals := 0 } : Room) s m #[(.long q1)] below meth c s₁ [] 0 0 := Stand.of_body Bd
  have e0 : s₁.heap = h0 := by rw [← hh, Bd.state]; rfl
  have N0 := Fr.nil n0
  suffices hG : OwnG p e below s (Q1 Z q1 h0 n0) ({ frames := 0, cells := 0, slots := 0, locals := 0 } : Room).cells ({ frames := 0, cells := 0, slots := 0, locals := 0 } : Room).slots s₁ (mkF m 0 #[.val (.long q1), .second] []) by
    obtain ⟨s2, o2, g1, g2⟩ := hG
    exact ⟨s2, o2, castTop (ef_1 m q1) g1, g2⟩
  have sg1 : ∀ tgt, Steps p.tables e below (s₁.setTop (mkF m 5 #[.val (.long q1), .second] [(.int (lcmpW q1 (128 : Int64)))])) tgt → Steps p.tables e below (s₁.setTop (mkF m 0 #[.val (.long q1), .second] [])) tgt := by
    intro tgt kt
    refine XS.lloadN X0.here hx rfl (hb hby d1_0) rfl ?_
    show Steps p.tables e below (s₁.setTop (mkF m 1 #[.val (.long q1), .second] [(.long q1)])) _
    refine X0.ldc2Long hx hown (mvT hZ (hw _ (List.mem_of_getElem? (i := 6) rfl))) (g := (mkF m 1 #[.val (.long q1), .second] [(.long q1)])) rfl (hb hby d1_1) _ ?_
    show Steps p.tables e below (s₁.setTop (mkF m 4 #[.val (.long q1), .second] [(.long (128 : Int64)), (.long q1)])) _
    refine XS.lcmp X0.here hx rfl (hb hby d1_4) rfl ?_
    show Steps p.tables e below (s₁.setTop (mkF m 5 #[.val (.long q1), .second] [(.int (lcmpW q1 (128 : Int64)))])) _
    exact kt
  refine OwnG.st sg1 ?_
  by_cases hc5_2 : q1 < (128 : Int64)
  · have sg3 : ∀ tgt, Steps p.tables e below (s₁.setTop (mkF m 9 #[.val (.long q1), .second] [(.int (1 : Int32))])) tgt → Steps p.tables e below (s₁.setTop (mkF m 5 #[.val (.long q1), .second] [(.int (lcmpW q1 (128 : Int64)))])) tgt := by
      intro tgt kt
      refine XS.ifNo X0.here hx rfl (hb hby d1_5) rfl ((if0 _ _).trans (tlt ((lw_lt q1 (128 : Int64)).mpr hc5_2)).2.1) ?_
      show Steps p.tables e below (s₁.setTop (mkF m 8 #[.val (.long q1), .second] [])) _
      refine XS.iconst X0.here hx rfl (hb hby d1_8) ?_
      show Steps p.tables e below (s₁.setTop (mkF m 9 #[.val (.long q1), .second] [(.int (1 : Int32))])) _
      exact kt
    refine OwnG.st sg3 ?_
    have hv : (1 : Int32) = F1 q1 := by simp only [F1, if_pos hc5_2]
    exact OwnG.retI X0 hx Bd.returns (BodyLoose.notSynchronized Bd) (hb hby d1_9) ⟨congrArg (fun w => some (Value.int w)) hv, N0, e0⟩ (by decide) (by decide)
  · have sg4 : ∀ tgt, Steps p.tables e below (s₁.setTop (mkF m 15 #[.val (.long q1), .second] [(.int (lcmpW q1 (16384 : Int64)))])) tgt → Steps p.tables e below (s₁.setTop (mkF m 5 #[.val (.long q1), .second] [(.int (lcmpW q1 (128 : Int64)))])) tgt := by
      intro tgt kt
      refine XS.ifYes X0.here hx rfl (pc0 := 5) (pc' := 10) rfl (hb hby d1_5) rfl ((if0 _ _).trans (flt (mt (lw_lt q1 (128 : Int64)).mp hc5_2)).2.1) (by decide) (by decide) ?_
      show Steps p.tables e below (s₁.setTop (mkF m 10 #[.val (.long q1), .second] [])) _
      refine XS.lloadN X0.here hx rfl (hb hby d1_10) rfl ?_
      show Steps p.tables e below (s₁.setTop (mkF m 11 #[.val (.long q1), .second] [(.long q1)])) _
      refine X0.ldc2Long hx hown (mvT hZ (hw _ (List.mem_of_getElem? (i := 16) rfl))) (g := (mkF m 11 #[.val (.long q1), .second] [(.long q1)])) rfl (hb hby d1_11) _ ?_
      show Steps p.tables e below (s₁.setTop (mkF m 14 #[.val (.long q1), .second] [(.long (16384 : Int64)), (.long q1)])) _
      refine XS.lcmp X0.here hx rfl (hb hby d1_14) rfl ?_
      show Steps p.tables e below (s₁.setTop (mkF m 15 #[.val (.long q1), .second] [(.int (lcmpW q1 (16384 : Int64)))])) _
      exact kt
    refine OwnG.st sg4 ?_
    by_cases hc15_5 : q1 < (16384 : Int64)
    · have sg6 : ∀ tgt, Steps p.tables e below (s₁.setTop (mkF m 19 #[.val (.long q1), .second] [(.int (2 : Int32))])) tgt → Steps p.tables e below (s₁.setTop (mkF m 15 #[.val (.long q1), .second] [(.int (lcmpW q1 (16384 : Int64)))])) tgt := by
        intro tgt kt
        refine XS.ifNo X0.here hx rfl (hb hby d1_15) rfl ((if0 _ _).trans (tlt ((lw_lt q1 (16384 : Int64)).mpr hc15_5)).2.1) ?_
        show Steps p.tables e below (s₁.setTop (mkF m 18 #[.val (.long q1), .second] [])) _
        refine XS.iconst X0.here hx rfl (hb hby d1_18) ?_
        show Steps p.tables e below (s₁.setTop (mkF m 19 #[.val (.long q1), .second] [(.int (2 : Int32))])) _
        exact kt
      refine OwnG.st sg6 ?_
      have hv : (2 : Int32) = F1 q1 := by simp only [F1, if_neg hc5_2, if_pos hc15_5]
      exact OwnG.retI X0 hx Bd.returns (BodyLoose.notSynchronized Bd) (hb hby d1_19) ⟨congrArg (fun w => some (Value.int w)) hv, N0, e0⟩ (by decide) (by decide)
    · have sg7 : ∀ tgt, Steps p.tables e below (s₁.setTop (mkF m 25 #[.val (.long q1), .second] [(.int (lcmpW q1 (2097152 : Int64)))])) tgt → Steps p.tables e below (s₁.setTop (mkF m 15 #[.val (.long q1), .second] [(.int (lcmpW q1 (16384 : Int64)))])) tgt := by
        intro tgt kt
        refine XS.ifYes X0.here hx rfl (pc0 := 15) (pc' := 20) rfl (hb hby d1_15) rfl ((if0 _ _).trans (flt (mt (lw_lt q1 (16384 : Int64)).mp hc15_5)).2.1) (by decide) (by decide) ?_
        show Steps p.tables e below (s₁.setTop (mkF m 20 #[.val (.long q1), .second] [])) _
        refine XS.lloadN X0.here hx rfl (hb hby d1_20) rfl ?_
        show Steps p.tables e below (s₁.setTop (mkF m 21 #[.val (.long q1), .second] [(.long q1)])) _
        refine X0.ldc2Long hx hown (mvT hZ (hw _ (List.mem_of_getElem? (i := 17) rfl))) (g := (mkF m 21 #[.val (.long q1), .second] [(.long q1)])) rfl (hb hby d1_21) _ ?_
        show Steps p.tables e below (s₁.setTop (mkF m 24 #[.val (.long q1), .second] [(.long (2097152 : Int64)), (.long q1)])) _
        refine XS.lcmp X0.here hx rfl (hb hby d1_24) rfl ?_
        show Steps p.tables e below (s₁.setTop (mkF m 25 #[.val (.long q1), .second] [(.int (lcmpW q1 (2097152 : Int64)))])) _
        exact kt
      refine OwnG.st sg7 ?_
      by_cases hc25_8 : q1 < (2097152 : Int64)
      · have sg9 : ∀ tgt, Steps p.tables e below (s₁.setTop (mkF m 29 #[.val (.long q1), .second] [(.int (3 : Int32))])) tgt → Steps p.tables e below (s₁.setTop (mkF m 25 #[.val (.long q1), .second] [(.int (lcmpW q1 (2097152 : Int64)))])) tgt := by
          intro tgt kt
          refine XS.ifNo X0.here hx rfl (hb hby d1_25) rfl ((if0 _ _).trans (tlt ((lw_lt q1 (2097152 : Int64)).mpr hc25_8)).2.1) ?_
          show Steps p.tables e below (s₁.setTop (mkF m 28 #[.val (.long q1), .second] [])) _
          refine XS.iconst X0.here hx rfl (hb hby d1_28) ?_
          show Steps p.tables e below (s₁.setTop (mkF m 29 #[.val (.long q1), .second] [(.int (3 : Int32))])) _
          exact kt
        refine OwnG.st sg9 ?_
        have hv : (3 : Int32) = F1 q1 := by simp only [F1, if_neg hc5_2, if_neg hc15_5, if_pos hc25_8]
        exact OwnG.retI X0 hx Bd.returns (BodyLoose.notSynchronized Bd) (hb hby d1_29) ⟨congrArg (fun w => some (Value.int w)) hv, N0, e0⟩ (by decide) (by decide)
      · have sg10 : ∀ tgt, Steps p.tables e below (s₁.setTop (mkF m 35 #[.val (.long q1), .second] [(.int (lcmpW q1 (268435456 : Int64)))])) tgt → Steps p.tables e below (s₁.setTop (mkF m 25 #[.val (.long q1), .second] [(.int (lcmpW q1 (2097152 : Int64)))])) tgt := by
          intro tgt kt
          refine XS.ifYes X0.here hx rfl (pc0 := 25) (pc' := 30) rfl (hb hby d1_25) rfl ((if0 _ _).trans (flt (mt (lw_lt q1 (2097152 : Int64)).mp hc25_8)).2.1) (by decide) (by decide) ?_
          show Steps p.tables e below (s₁.setTop (mkF m 30 #[.val (.long q1), .second] [])) _
          refine XS.lloadN X0.here hx rfl (hb hby d1_30) rfl ?_
          show Steps p.tables e below (s₁.setTop (mkF m 31 #[.val (.long q1), .second] [(.long q1)])) _
          refine X0.ldc2Long hx hown (mvT hZ (hw _ (List.mem_of_getElem? (i := 18) rfl))) (g := (mkF m 31 #[.val (.long q1), .second] [(.long q1)])) rfl (hb hby d1_31) _ ?_
          show Steps p.tables e below (s₁.setTop (mkF m 34 #[.val (.long q1), .second] [(.long (268435456 : Int64)), (.long q1)])) _
          refine XS.lcmp X0.here hx rfl (hb hby d1_34) rfl ?_
          show Steps p.tables e below (s₁.setTop (mkF m 35 #[.val (.long q1), .second] [(.int (lcmpW q1 (268435456 : Int64)))])) _
          exact kt
        refine OwnG.st sg10 ?_
        by_cases hc35_11 : q1 < (268435456 : Int64)
        · have sg12 : ∀ tgt, Steps p.tables e below (s₁.setTop (mkF m 39 #[.val (.long q1), .second] [(.int (4 : Int32))])) tgt → Steps p.tables e below (s₁.setTop (mkF m 35 #[.val (.long q1), .second] [(.int (lcmpW q1 (268435456 : Int64)))])) tgt := by
            intro tgt kt
            refine XS.ifNo X0.here hx rfl (hb hby d1_35) rfl ((if0 _ _).trans (tlt ((lw_lt q1 (268435456 : Int64)).mpr hc35_11)).2.1) ?_
            show Steps p.tables e below (s₁.setTop (mkF m 38 #[.val (.long q1), .second] [])) _
            refine XS.iconst X0.here hx rfl (hb hby d1_38) ?_
            show Steps p.tables e below (s₁.setTop (mkF m 39 #[.val (.long q1), .second] [(.int (4 : Int32))])) _
            exact kt
          refine OwnG.st sg12 ?_
          have hv : (4 : Int32) = F1 q1 := by simp only [F1, if_neg hc5_2, if_neg hc15_5, if_neg hc25_8, if_pos hc35_11]
          exact OwnG.retI X0 hx Bd.returns (BodyLoose.notSynchronized Bd) (hb hby d1_39) ⟨congrArg (fun w => some (Value.int w)) hv, N0, e0⟩ (by decide) (by decide)
        · have sg13 : ∀ tgt, Steps p.tables e below (s₁.setTop (mkF m 45 #[.val (.long q1), .second] [(.int (lcmpW q1 (34359738368 : Int64)))])) tgt → Steps p.tables e below (s₁.setTop (mkF m 35 #[.val (.long q1), .second] [(.int (lcmpW q1 (268435456 : Int64)))])) tgt := by
            intro tgt kt
            refine XS.ifYes X0.here hx rfl (pc0 := 35) (pc' := 40) rfl (hb hby d1_35) rfl ((if0 _ _).trans (flt (mt (lw_lt q1 (268435456 : Int64)).mp hc35_11)).2.1) (by decide) (by decide) ?_
            show Steps p.tables e below (s₁.setTop (mkF m 40 #[.val (.long q1), .second] [])) _
            refine XS.lloadN X0.here hx rfl (hb hby d1_40) rfl ?_
            show Steps p.tables e below (s₁.setTop (mkF m 41 #[.val (.long q1), .second] [(.long q1)])) _
            refine X0.ldc2Long hx hown (mvT hZ (hw _ (List.mem_of_getElem? (i := 19) rfl))) (g := (mkF m 41 #[.val (.long q1), .second] [(.long q1)])) rfl (hb hby d1_41) _ ?_
            show Steps p.tables e below (s₁.setTop (mkF m 44 #[.val (.long q1), .second] [(.long (34359738368 : Int64)), (.long q1)])) _
            refine XS.lcmp X0.here hx rfl (hb hby d1_44) rfl ?_
            show Steps p.tables e below (s₁.setTop (mkF m 45 #[.val (.long q1), .second] [(.int (lcmpW q1 (34359738368 : Int64)))])) _
            exact kt
          refine OwnG.st sg13 ?_
          by_cases hc45_14 : q1 < (34359738368 : Int64)
          · have sg15 : ∀ tgt, Steps p.tables e below (s₁.setTop (mkF m 49 #[.val (.long q1), .second] [(.int (5 : Int32))])) tgt → Steps p.tables e below (s₁.setTop (mkF m 45 #[.val (.long q1), .second] [(.int (lcmpW q1 (34359738368 : Int64)))])) tgt := by
              intro tgt kt
              refine XS.ifNo X0.here hx rfl (hb hby d1_45) rfl ((if0 _ _).trans (tlt ((lw_lt q1 (34359738368 : Int64)).mpr hc45_14)).2.1) ?_
              show Steps p.tables e below (s₁.setTop (mkF m 48 #[.val (.long q1), .second] [])) _
              refine XS.iconst X0.here hx rfl (hb hby d1_48) ?_
              show Steps p.tables e below (s₁.setTop (mkF m 49 #[.val (.long q1), .second] [(.int (5 : Int32))])) _
              exact kt
            refine OwnG.st sg15 ?_
            have hv : (5 : Int32) = F1 q1 := by simp only [F1, if_neg hc5_2, if_neg hc15_5, if_neg hc25_8, if_neg hc35_11, if_pos hc45_14]
            exact OwnG.retI X0 hx Bd.returns (BodyLoose.notSynchronized Bd) (hb hby d1_49) ⟨congrArg (fun w => some (Value.int w)) hv, N0, e0⟩ (by decide) (by decide)
          · have sg16 : ∀ tgt, Steps p.tables e below (s₁.setTop (mkF m 55 #[.val (.long q1), .second] [(.int (lcmpW q1 (4398046511104 : Int64)))])) tgt → Steps p.tables e below (s₁.setTop (mkF m 45 #[.val (.long q1), .second] [(.int (lcmpW q1 (34359738368 : Int64)))])) tgt := by
              intro tgt kt
              refine XS.ifYes X0.here hx rfl (pc0 := 45) (pc' := 50) rfl (hb hby d1_45) rfl ((if0 _ _).trans (flt (mt (lw_lt q1 (34359738368 : Int64)).mp hc45_14)).2.1) (by decide) (by decide) ?_
              show Steps p.tables e below (s₁.setTop (mkF m 50 #[.val (.long q1), .second] [])) _
              refine XS.lloadN X0.here hx rfl (hb hby d1_50) rfl ?_
              show Steps p.tables e below (s₁.setTop (mkF m 51 #[.val (.long q1), .second] [(.long q1)])) _
              refine X0.ldc2Long hx hown (mvT hZ (hw _ (List.mem_of_getElem? (i := 20) rfl))) (g := (mkF m 51 #[.val (.long q1), .second] [(.long q1)])) rfl (hb hby d1_51) _ ?_
              show Steps p.tables e below (s₁.setTop (mkF m 54 #[.val (.long q1), .second] [(.long (4398046511104 : Int64)), (.long q1)])) _
              refine XS.lcmp X0.here hx rfl (hb hby d1_54) rfl ?_
              show Steps p.tables e below (s₁.setTop (mkF m 55 #[.val (.long q1), .second] [(.int (lcmpW q1 (4398046511104 : Int64)))])) _
              exact kt
            refine OwnG.st sg16 ?_
            by_cases hc55_17 : q1 < (4398046511104 : Int64)
            · have sg18 : ∀ tgt, Steps p.tables e below (s₁.setTop (mkF m 60 #[.val (.long q1), .second] [(.int (6 : Int32))])) tgt → Steps p.tables e below (s₁.setTop (mkF m 55 #[.val (.long q1), .second] [(.int (lcmpW q1 (4398046511104 : Int64)))])) tgt := by
                intro tgt kt
                refine XS.ifNo X0.here hx rfl (hb hby d1_55) rfl ((if0 _ _).trans (tlt ((lw_lt q1 (4398046511104 : Int64)).mpr hc55_17)).2.1) ?_
                show Steps p.tables e below (s₁.setTop (mkF m 58 #[.val (.long q1), .second] [])) _
                refine XS.bipush X0.here hx rfl (hb hby d1_58) ?_
                show Steps p.tables e below (s₁.setTop (mkF m 60 #[.val (.long q1), .second] [(.int (6 : Int32))])) _
                exact kt
              refine OwnG.st sg18 ?_
              have hv : (6 : Int32) = F1 q1 := by simp only [F1, if_neg hc5_2, if_neg hc15_5, if_neg hc25_8, if_neg hc35_11, if_neg hc45_14, if_pos hc55_17]
              exact OwnG.retI X0 hx Bd.returns (BodyLoose.notSynchronized Bd) (hb hby d1_60) ⟨congrArg (fun w => some (Value.int w)) hv, N0, e0⟩ (by decide) (by decide)
            · have sg19 : ∀ tgt, Steps p.tables e below (s₁.setTop (mkF m 66 #[.val (.long q1), .second] [(.int (lcmpW q1 (562949953421312 : Int64)))])) tgt → Steps p.tables e below (s₁.setTop (mkF m 55 #[.val (.long q1), .second] [(.int (lcmpW q1 (4398046511104 : Int64)))])) tgt := by
                intro tgt kt
                refine XS.ifYes X0.here hx rfl (pc0 := 55) (pc' := 61) rfl (hb hby d1_55) rfl ((if0 _ _).trans (flt (mt (lw_lt q1 (4398046511104 : Int64)).mp hc55_17)).2.1) (by decide) (by decide) ?_
                show Steps p.tables e below (s₁.setTop (mkF m 61 #[.val (.long q1), .second] [])) _
                refine XS.lloadN X0.here hx rfl (hb hby d1_61) rfl ?_
                show Steps p.tables e below (s₁.setTop (mkF m 62 #[.val (.long q1), .second] [(.long q1)])) _
                refine X0.ldc2Long hx hown (mvT hZ (hw _ (List.mem_of_getElem? (i := 21) rfl))) (g := (mkF m 62 #[.val (.long q1), .second] [(.long q1)])) rfl (hb hby d1_62) _ ?_
                show Steps p.tables e below (s₁.setTop (mkF m 65 #[.val (.long q1), .second] [(.long (562949953421312 : Int64)), (.long q1)])) _
                refine XS.lcmp X0.here hx rfl (hb hby d1_65) rfl ?_
                show Steps p.tables e below (s₁.setTop (mkF m 66 #[.val (.long q1), .second] [(.int (lcmpW q1 (562949953421312 : Int64)))])) _
                exact kt
              refine OwnG.st sg19 ?_
              by_cases hc66_20 : q1 < (562949953421312 : Int64)
              · have sg21 : ∀ tgt, Steps p.tables e below (s₁.setTop (mkF m 71 #[.val (.long q1), .second] [(.int (7 : Int32))])) tgt → Steps p.tables e below (s₁.setTop (mkF m 66 #[.val (.long q1), .second] [(.int (lcmpW q1 (562949953421312 : Int64)))])) tgt := by
                  intro tgt kt
                  refine XS.ifNo X0.here hx rfl (hb hby d1_66) rfl ((if0 _ _).trans (tlt ((lw_lt q1 (562949953421312 : Int64)).mpr hc66_20)).2.1) ?_
                  show Steps p.tables e below (s₁.setTop (mkF m 69 #[.val (.long q1), .second] [])) _
                  refine XS.bipush X0.here hx rfl (hb hby d1_69) ?_
                  show Steps p.tables e below (s₁.setTop (mkF m 71 #[.val (.long q1), .second] [(.int (7 : Int32))])) _
                  exact kt
                refine OwnG.st sg21 ?_
                have hv : (7 : Int32) = F1 q1 := by simp only [F1, if_neg hc5_2, if_neg hc15_5, if_neg hc25_8, if_neg hc35_11, if_neg hc45_14, if_neg hc55_17, if_pos hc66_20]
                exact OwnG.retI X0 hx Bd.returns (BodyLoose.notSynchronized Bd) (hb hby d1_71) ⟨congrArg (fun w => some (Value.int w)) hv, N0, e0⟩ (by decide) (by decide)
              · have sg22 : ∀ tgt, Steps p.tables e below (s₁.setTop (mkF m 77 #[.val (.long q1), .second] [(.int (lcmpW q1 (72057594037927936 : Int64)))])) tgt → Steps p.tables e below (s₁.setTop (mkF m 66 #[.val (.long q1), .second] [(.int (lcmpW q1 (562949953421312 : Int64)))])) tgt := by
                  intro tgt kt
                  refine XS.ifYes X0.here hx rfl (pc0 := 66) (pc' := 72) rfl (hb hby d1_66) rfl ((if0 _ _).trans (flt (mt (lw_lt q1 (562949953421312 : Int64)).mp hc66_20)).2.1) (by decide) (by decide) ?_
                  show Steps p.tables e below (s₁.setTop (mkF m 72 #[.val (.long q1), .second] [])) _
                  refine XS.lloadN X0.here hx rfl (hb hby d1_72) rfl ?_
                  show Steps p.tables e below (s₁.setTop (mkF m 73 #[.val (.long q1), .second] [(.long q1)])) _
                  refine X0.ldc2Long hx hown (mvT hZ (hw _ (List.mem_of_getElem? (i := 22) rfl))) (g := (mkF m 73 #[.val (.long q1), .second] [(.long q1)])) rfl (hb hby d1_73) _ ?_
                  show Steps p.tables e below (s₁.setTop (mkF m 76 #[.val (.long q1), .second] [(.long (72057594037927936 : Int64)), (.long q1)])) _
                  refine XS.lcmp X0.here hx rfl (hb hby d1_76) rfl ?_
                  show Steps p.tables e below (s₁.setTop (mkF m 77 #[.val (.long q1), .second] [(.int (lcmpW q1 (72057594037927936 : Int64)))])) _
                  exact kt
                refine OwnG.st sg22 ?_
                by_cases hc77_23 : q1 < (72057594037927936 : Int64)
                · have sg24 : ∀ tgt, Steps p.tables e below (s₁.setTop (mkF m 82 #[.val (.long q1), .second] [(.int (8 : Int32))])) tgt → Steps p.tables e below (s₁.setTop (mkF m 77 #[.val (.long q1), .second] [(.int (lcmpW q1 (72057594037927936 : Int64)))])) tgt := by
                    intro tgt kt
                    refine XS.ifNo X0.here hx rfl (hb hby d1_77) rfl ((if0 _ _).trans (tlt ((lw_lt q1 (72057594037927936 : Int64)).mpr hc77_23)).2.1) ?_
                    show Steps p.tables e below (s₁.setTop (mkF m 80 #[.val (.long q1), .second] [])) _
                    refine XS.bipush X0.here hx rfl (hb hby d1_80) ?_
                    show Steps p.tables e below (s₁.setTop (mkF m 82 #[.val (.long q1), .second] [(.int (8 : Int32))])) _
                    exact kt
                  refine OwnG.st sg24 ?_
                  have hv : (8 : Int32) = F1 q1 := by simp only [F1, if_neg hc5_2, if_neg hc15_5, if_neg hc25_8, if_neg hc35_11, if_neg hc45_14, if_neg hc55_17, if_neg hc66_20, if_pos hc77_23]
                  exact OwnG.retI X0 hx Bd.returns (BodyLoose.notSynchronized Bd) (hb hby d1_82) ⟨congrArg (fun w => some (Value.int w)) hv, N0, e0⟩ (by decide) (by decide)
                · have sg25 : ∀ tgt, Steps p.tables e below (s₁.setTop (mkF m 85 #[.val (.long q1), .second] [(.int (9 : Int32))])) tgt → Steps p.tables e below (s₁.setTop (mkF m 77 #[.val (.long q1), .second] [(.int (lcmpW q1 (72057594037927936 : Int64)))])) tgt := by
                    intro tgt kt
                    refine XS.ifYes X0.here hx rfl (pc0 := 77) (pc' := 83) rfl (hb hby d1_77) rfl ((if0 _ _).trans (flt (mt (lw_lt q1 (72057594037927936 : Int64)).mp hc77_23)).2.1) (by decide) (by decide) ?_
                    show Steps p.tables e below (s₁.setTop (mkF m 83 #[.val (.long q1), .second] [])) _
                    refine XS.bipush X0.here hx rfl (hb hby d1_83) ?_
                    show Steps p.tables e below (s₁.setTop (mkF m 85 #[.val (.long q1), .second] [(.int (9 : Int32))])) _
                    exact kt
                  refine OwnG.st sg25 ?_
                  have hv : (9 : Int32) = F1 q1 := by simp only [F1, if_neg hc5_2, if_neg hc15_5, if_neg hc25_8, if_neg hc35_11, if_neg hc45_14, if_neg hc55_17, if_neg hc66_20, if_neg hc77_23]
                  exact OwnG.retI X0 hx Bd.returns (BodyLoose.notSynchronized Bd) (hb hby d1_85) ⟨congrArg (fun w => some (Value.int w)) hv, N0, e0⟩ (by decide) (by decide)
/-- what is left of v behind j octets -/
def own_rs (v : Int64) : Nat → Int64
  | 0 => v
  | j + 1 => ((own_rs v j).toUInt64 >>> ((7 : Int32) &&& 0x3f).toInt64.toUInt64).toInt64
theorem own_rss (v : Int64) (j : Nat) : own_rs v (j + 1) = ((own_rs v j).toUInt64 >>> ((7 : Int32) &&& 0x3f).toInt64.toUInt64).toInt64 := rfl
def own_w (g : Nat → Int32) (a : Nat) (v : Int64) : Nat → (Nat → Int32)
  | 0 => g
  | j + 1 => updv (own_w g a v j) (a + j) ((own_rs v j ||| (128 : Int64)).toInt32.toInt8.toInt32)
def own_wf (g : Nat → Int32) (a : Nat) (v : Int64) (M : Nat) : Nat → Int32 := updv (own_w g a v (M - 1)) (a + (M - 1)) ((own_rs v (M - 1)).toInt32.toInt8.toInt32)
theorem own_ia (p : Int32) (j : Nat) (hp : 0 ≤ p.toInt ∧ p.toInt ≤ 7) (hj : j ≤ 9) : (p + Int32.ofNat j).toInt = p.toInt + j ∧ (p + Int32.ofNat j).toInt.toNat = p.toInt.toNat + j := by
  have h := c_iadd p (Int32.ofNat j)
  have q := Int32.toInt_ofNat_of_lt (n := j) (by omega)
  have r := rng32 (p + Int32.ofNat j)
  omega
theorem own_is (p : Int32) (j : Nat) : (p + Int32.ofNat j) + 1 = p + Int32.ofNat (j + 1) := by
  rw [Int32.ofNat_add, ← Int32.add_assoc]; rfl
theorem d2_0 : decode prog_27_method_2_code 0 = .ok (.iload_n 1, 1) := by decide +kernel
theorem d2_1 : decode prog_27_method_2_code 1 = .ok (.istore 4, 2) := by decide +kernel
theorem d2_3 : decode prog_27_method_2_code 3 = .ok (.lload_n 2, 1) := by decide +kernel
theorem d2_4 : decode prog_27_method_2_code 4 = .ok (.lstore 5, 2) := by decide +kernel
theorem d2_6 : decode prog_27_method_2_code 6 = .ok (.lload 5, 2) := by decide +kernel
theorem d2_8 : decode prog_27_method_2_code 8 = .ok (.ldc2_w 7, 3) := by decide +kernel
theorem d2_11 : decode prog_27_method_2_code 11 = .ok (.lcmp, 1) := by decide +kernel
theorem d2_12 : decode prog_27_method_2_code 12 = .ok (.ifCond .lt 28, 3) := by decide +kernel
theorem d2_15 : decode prog_27_method_2_code 15 = .ok (.aload_n 0, 1) := by decide +kernel
theorem d2_16 : decode prog_27_method_2_code 16 = .ok (.iload 4, 2) := by decide +kernel
theorem d2_18 : decode prog_27_method_2_code 18 = .ok (.lload 5, 2) := by decide +kernel
theorem d2_20 : decode prog_27_method_2_code 20 = .ok (.ldc2_w 7, 3) := by decide +kernel
theorem d2_23 : decode prog_27_method_2_code 23 = .ok (.lor, 1) := by decide +kernel
theorem d2_24 : decode prog_27_method_2_code 24 = .ok (.l2i, 1) := by decide +kernel
theorem d2_25 : decode prog_27_method_2_code 25 = .ok (.i2b, 1) := by decide +kernel
theorem d2_26 : decode prog_27_method_2_code 26 = .ok (.bastore, 1) := by decide +kernel
theorem d2_27 : decode prog_27_method_2_code 27 = .ok (.iinc 4 1, 3) := by decide +kernel
theorem d2_30 : decode prog_27_method_2_code 30 = .ok (.lload 5, 2) := by decide +kernel
theorem d2_32 : decode prog_27_method_2_code 32 = .ok (.bipush 7, 2) := by decide +kernel
theorem d2_34 : decode prog_27_method_2_code 34 = .ok (.lushr, 1) := by decide +kernel
theorem d2_35 : decode prog_27_method_2_code 35 = .ok (.lstore 5, 2) := by decide +kernel
theorem d2_37 : decode prog_27_method_2_code 37 = .ok (.goto (-31), 3) := by decide +kernel
theorem d2_40 : decode prog_27_method_2_code 40 = .ok (.aload_n 0, 1) := by decide +kernel
theorem d2_41 : decode prog_27_method_2_code 41 = .ok (.iload 4, 2) := by decide +kernel
theorem d2_43 : decode prog_27_method_2_code 43 = .ok (.lload 5, 2) := by decide +kernel
theorem d2_45 : decode prog_27_method_2_code 45 = .ok (.l2i, 1) := by decide +kernel
theorem d2_46 : decode prog_27_method_2_code 46 = .ok (.i2b, 1) := by decide +kernel
theorem d2_47 : decode prog_27_method_2_code 47 = .ok (.bastore, 1) := by decide +kernel
theorem d2_48 : decode prog_27_method_2_code 48 = .ok (.iload 4, 2) := by decide +kernel
theorem d2_50 : decode prog_27_method_2_code 50 = .ok (.iconst 1, 1) := by decide +kernel
theorem d2_51 : decode prog_27_method_2_code 51 = .ok (.iadd, 1) := by decide +kernel
theorem d2_52 : decode prog_27_method_2_code 52 = .ok (.ireturn, 1) := by decide +kernel
theorem pn_2 : plainName "com/example/guessd/guessd/Varints" = true := by first | (simp [plainName, overriddenIn]; done) | decide +kernel
theorem ef_2 (m : MethodId) (a1 : Addr) (p2 : Int32) (q3 : Int64) : entryFrame m #[(.ref a1), (.int p2), (.long q3)] 7 = mkF m 0 #[.val (.ref a1), .val (.int p2), .val (.long q3), .second, .unset, .unset, .unset] [] := by first | (simp [entryFrame, mkF, argsToLocals, Value.category]; done) | rfl
def Q2 (Z : State) (a1 : Addr) (p2 : Int32) (q3 : Int64) (M : Nat) (g : Nat → Int32) (h0 : Heap) (n0 : Nat) (v : Option Value) (h : Heap) (L : List Loc) : Prop := v = some (.int (p2 + Int32.ofNat M)) ∧ Fr n0 L ∧ Keep h0 h [a1] ∧ OwnA Z h a1 .byte 16 (iv' (own_wf g p2.toInt.toNat q3 M))
set_option maxRecDepth 65536 in
set_option maxHeartbeats 40000000 in
theorem rm2 (l : Launch) (Z : State) (a0 : Array Value) (hw : ∀ d ∈ tables_1, d.before a0 Z = true) (ws : List Jvm.Cond) (a1 : Addr) (p2 : Int32) (q3 : Int64) (M : Nat) (g : Nat → Int32) (h0 : Heap) (n0 : Nat) (Z0 : n0 ≤ h0.size) (gb_a1 : n0 ≤ a1) (A_a1 : OwnA Z h0 a1 .byte 16 (iv' g)) (hs0 : 0 ≤ p2.toInt ∧ p2.toInt ≤ 7) (hN : 1 ≤ M ∧ M ≤ 9) (hmore : ∀ j, j + 1 < M → ¬ own_rs q3 j < (128 : Int64)) (hlast : own_rs q3 (M - 1) < (128 : Int64)) :
    MetFree l (⟨"com/example/guessd/guessd/Varints", "write", "([BIJ)I"⟩ : MethodName) (head1 (Jvm.Cond.code (⟨"com/example/guessd/guessd/Varints", "write", "([BIJ)I"⟩ : MethodName) prog_27_method_2_code 7 (some .int) :: ws) ({ frames := 0, cells := 0, slots := 0, locals := 0 } : Room)) (fun a U => a = #[(.ref a1), (.int p2), (.long q3)] ∧ Z.Warmed39 U.vm ∧ U.heap = h0) (fun _ _ _ _ _ => True) (fun _ U o U' => ∃ v L, o = .returned v ∧ Q2 Z a1 p2 q3 M g h0 n0 v U'.heap L ∧ FrameEnd U o U' L ({ frames := 0, cells := 0, slots := 0, locals := 0 } : Room).cells ({ frames := 0, cells := 0, slots := 0, locals := 0 } : Room).slots) := by
  refine MetFree.of_bodySF (plainFor_of_name pn_2) hisR ?_
  intro p e s m args below meth c s₁ Bd hml0 hP hK
  obtain ⟨rfl, hZ, hh⟩ := hP
  have hx := Bd.exec
  have hby := Bd.bytes
  have hml : c.maxLocals = 7 := hml0
  have hown : s.vm.findClass "com/example/guessd/guessd/Varints" = some m.cls := findClass_of_methodNamed Bd.named
  have hnm := (name_of_methodNamed Bd.named Bd.method).1
  have X0 : Stand p l e ({ frames := 0, cells := 0, slots := 0, locals := 0 } : Room) s m #[(.ref a1), (.int p2), (.long q3)] below meth c s₁ [] 0 0 := Stand.of_body Bd
  have e0 : s₁.heap = h0 := by rw [← hh, Bd.state]; rfl
  have N0 := Fr.nil n0
  suffices hG : OwnG p e below s (Q2 Z a1 p2 q3 M g h0 n0) ({ frames := 0, cells := 0, slots := 0, locals := 0 } : Room).cells ({ frames := 0, cells := 0, slots := 0, locals := 0 } : Room).slots s₁ (mkF m 0 #[.val (.ref a1), .val (.int p2), .val (.long q3), .second, .unset, .unset, .unset] []) by
    obtain ⟨s2, o2, g1, g2⟩ := hG
    exact ⟨s2, o2, castTop (ef_2 m a1 p2 q3) g1, g2⟩
  have sg1 : ∀ tgt, Steps p.tables e below (s₁.setTop (mkF m 6 #[.val (.ref a1), .val (.int p2), .val (.long q3), .second, .val (.int p2), .val (.long q3), .second] [])) tgt → Steps p.tables e below (s₁.setTop (mkF m 0 #[.val (.ref a1), .val (.int p2), .val (.long q3), .second, .unset, .unset, .unset] [])) tgt := by
    intro tgt kt
    refine XS.iloadN X0.here hx rfl (hb hby d2_0) rfl ?_
    show Steps p.tables e below (s₁.setTop (mkF m 1 #[.val (.ref a1), .val (.int p2), .val (.long q3), .second, .unset, .unset, .unset] [(.int p2)])) _
    refine XS.istore X0.here hx rfl (hb hby d2_1) rfl (l' := #[.val (.ref a1), .val (.int p2), .val (.long q3), .second, .val (.int p2), .unset, .unset]) rfl ?_
    show Steps p.tables e below (s₁.setTop (mkF m 3 #[.val (.ref a1), .val (.int p2), .val (.long q3), .second, .val (.int p2), .unset, .unset] [])) _
    refine XS.lloadN X0.here hx rfl (hb hby d2_3) rfl ?_
    show Steps p.tables e below (s₁.setTop (mkF m 4 #[.val (.ref a1), .val (.int p2), .val (.long q3), .second, .val (.int p2), .unset, .unset] [(.long q3)])) _
    refine XS.lstore X0.here hx rfl (hb hby d2_4) rfl (l' := #[.val (.ref a1), .val (.int p2), .val (.long q3), .second, .val (.int p2), .val (.long q3), .second]) rfl ?_
    show Steps p.tables e below (s₁.setTop (mkF m 6 #[.val (.ref a1), .val (.int p2), .val (.long q3), .second, .val (.int p2), .val (.long q3), .second] [])) _
    exact kt
  refine OwnG.st sg1 ?_
  have lp2 : ∀ (k : Nat) (T : State) (lc : List Loc) (hh : Heap) (j : Nat) (i4 : Int32) (r5 : Int64) (X : Stand p l e ({ frames := 0, cells := 0, slots := 0, locals := 0 } : Room) s m #[(.ref a1), (.int p2), (.long q3)] below meth c T lc 0 0) (eT : T.heap = hh) (N : Fr n0 lc) (Ha : OwnA Z hh a1 .byte 16 (iv' (own_w g p2.toInt.toNat q3 j))) (Hk : Keep h0 hh [a1]) (Hz : n0 ≤ hh.size) (hi4 : i4 = p2 + Int32.ofNat j) (hr : r5 = own_rs q3 j) (hj : j < M), M - j = k → OwnG p e below s (Q2 Z a1 p2 q3 M g h0 n0) ({ frames := 0, cells := 0, slots := 0, locals := 0 } : Room).cells ({ frames := 0, cells := 0, slots := 0, locals := 0 } : Room).slots T (mkF m 6 #[.val (.ref a1), .val (.int p2), .val (.long q3), .second, .val (.int i4), .val (.long r5), .second] []) := by
    intro k
    induction k using Nat.strongRecOn with
    | _ k ih =>
      intro T lc hh j i4 r5 X eT N Ha Hk Hz hi4 hr hj hk
      have sg3 : ∀ tgt, Steps p.tables e below (T.setTop (mkF m 12 #[.val (.ref a1), .val (.int p2), .val (.long q3), .second, .val (.int i4), .val (.long r5), .second] [(.int (lcmpW r5 (128 : Int64)))])) tgt → Steps p.tables e below (T.setTop (mkF m 6 #[.val (.ref a1), .val (.int p2), .val (.long q3), .second, .val (.int i4), .val (.long r5), .second] [])) tgt := by
        intro tgt kt
        refine XS.lload X.here hx rfl (hb hby d2_6) rfl ?_
        show Steps p.tables e below (T.setTop (mkF m 8 #[.val (.ref a1), .val (.int p2), .val (.long q3), .second, .val (.int i4), .val (.long r5), .second] [(.long r5)])) _
        refine X.ldc2Long hx hown (mvT hZ (hw _ (List.mem_of_getElem? (i := 11) rfl))) (g := (mkF m 8 #[.val (.ref a1), .val (.int p2), .val (.long q3), .second, .val (.int i4), .val (.long r5), .second] [(.long r5)])) rfl (hb hby d2_8) _ ?_
        show Steps p.tables e below (T.setTop (mkF m 11 #[.val (.ref a1), .val (.int p2), .val (.long q3), .second, .val (.int i4), .val (.long r5), .second] [(.long (128 : Int64)), (.long r5)])) _
        refine XS.lcmp X.here hx rfl (hb hby d2_11) rfl ?_
        show Steps p.tables e below (T.setTop (mkF m 12 #[.val (.ref a1), .val (.int p2), .val (.long q3), .second, .val (.int i4), .val (.long r5), .second] [(.int (lcmpW r5 (128 : Int64)))])) _
        exact kt
      refine OwnG.st sg3 ?_
      by_cases hc12_4 : r5 < (128 : Int64)
      · have sg5 : ∀ tgt, Steps p.tables e below (T.setTop (mkF m 47 #[.val (.ref a1), .val (.int p2), .val (.long q3), .second, .val (.int i4), .val (.long r5), .second] [(.int ((r5.toInt32).toInt8.toInt32)), (.int i4), (.ref a1)])) tgt → Steps p.tables e below (T.setTop (mkF m 12 #[.val (.ref a1), .val (.int p2), .val (.long q3), .second, .val (.int i4), .val (.long r5), .second] [(.int (lcmpW r5 (128 : Int64)))])) tgt := by
          intro tgt kt
          refine XS.ifYes X.here hx rfl (pc0 := 12) (pc' := 40) rfl (hb hby d2_12) rfl ((if0 _ _).trans (tlt ((lw_lt r5 (128 : Int64)).mpr hc12_4)).1) (by decide) (by decide) ?_
          show Steps p.tables e below (T.setTop (mkF m 40 #[.val (.ref a1), .val (.int p2), .val (.long q3), .second, .val (.int i4), .val (.long r5), .second] [])) _
          refine XS.aloadN X.here hx rfl (hb hby d2_40) rfl rfl ?_
          show Steps p.tables e below (T.setTop (mkF m 41 #[.val (.ref a1), .val (.int p2), .val (.long q3), .second, .val (.int i4), .val (.long r5), .second] [(.ref a1)])) _
          refine XS.iload X.here hx rfl (hb hby d2_41) rfl ?_
          show Steps p.tables e below (T.setTop (mkF m 43 #[.val (.ref a1), .val (.int p2), .val (.long q3), .second, .val (.int i4), .val (.long r5), .second] [(.int i4), (.ref a1)])) _
          refine XS.lload X.here hx rfl (hb hby d2_43) rfl ?_
          show Steps p.tables e below (T.setTop (mkF m 45 #[.val (.ref a1), .val (.int p2), .val (.long q3), .second, .val (.int i4), .val (.long r5), .second] [(.long r5), (.int i4), (.ref a1)])) _
          refine XS.l2i X.here hx rfl (hb hby d2_45) rfl ?_
          show Steps p.tables e below (T.setTop (mkF m 46 #[.val (.ref a1), .val (.int p2), .val (.long q3), .second, .val (.int i4), .val (.long r5), .second] [(.int (r5.toInt32)), (.int i4), (.ref a1)])) _
          refine XS.i2b X.here hx rfl (hb hby d2_46) rfl ?_
          show Steps p.tables e below (T.setTop (mkF m 47 #[.val (.ref a1), .val (.int p2), .val (.long q3), .second, .val (.int i4), .val (.long r5), .second] [(.int ((r5.toInt32).toInt8.toInt32)), (.int i4), (.ref a1)])) _
          exact kt
        refine OwnG.st sg5 ?_
        obtain ⟨T6, h6, X6, e6, W6, V6, st6⟩ := own_stB Ha X hx hZ eT (by rw [hi4, (own_ia p2 j hs0 (by omega)).1]; omega) (by rw [hi4, (own_ia p2 j hs0 (by omega)).1]; show _ < (16 : Int); omega) (gf := (mkF m 47 #[.val (.ref a1), .val (.int p2), .val (.long q3), .second, .val (.int i4), .val (.long r5), .second] [(.int ((r5.toInt32).toInt8.toInt32)), (.int i4), (.ref a1)])) rfl rfl (hb hby d2_47)
        have V6' : OwnA Z h6 a1 .byte 16 (iv' (updv (own_w g p2.toInt.toNat q3 j) i4.toInt.toNat ((r5.toInt32).toInt8.toInt32))) := by have q := V6; rw [Int8.toInt8_toInt32] at q; exact q
        have N6 := Fr.snoc X6 N gb_a1
        have Z6 : n0 ≤ h6.size := by rw [W6.size]; exact Hz
        have K6 : Keep h0 h6 [a1] := Hk.wr W6 (Or.inl (List.mem_of_getElem? (i := 0) rfl))
        refine OwnG.st st6 ?_
        show OwnG p e below s _ _ _ T6 (mkF m 48 #[.val (.ref a1), .val (.int p2), .val (.long q3), .second, .val (.int i4), .val (.long r5), .second] [])
        have sg7 : ∀ tgt, Steps p.tables e below (T6.setTop (mkF m 52 #[.val (.ref a1), .val (.int p2), .val (.long q3), .second, .val (.int i4), .val (.long r5), .second] [(.int (i4 + (1 : Int32)))])) tgt → Steps p.tables e below (T6.setTop (mkF m 48 #[.val (.ref a1), .val (.int p2), .val (.long q3), .second, .val (.int i4), .val (.long r5), .second] [])) tgt := by
          intro tgt kt
          refine XS.iload X6.here hx rfl (hb hby d2_48) rfl ?_
          show Steps p.tables e below (T6.setTop (mkF m 50 #[.val (.ref a1), .val (.int p2), .val (.long q3), .second, .val (.int i4), .val (.long r5), .second] [(.int i4)])) _
          refine XS.iconst X6.here hx rfl (hb hby d2_50) ?_
          show Steps p.tables e below (T6.setTop (mkF m 51 #[.val (.ref a1), .val (.int p2), .val (.long q3), .second, .val (.int i4), .val (.long r5), .second] [(.int (1 : Int32)), (.int i4)])) _
          refine XS.iadd X6.here hx rfl (hb hby d2_51) rfl ?_
          show Steps p.tables e below (T6.setTop (mkF m 52 #[.val (.ref a1), .val (.int p2), .val (.long q3), .second, .val (.int i4), .val (.long r5), .second] [(.int (i4 + (1 : Int32)))])) _
          exact kt
        refine OwnG.st sg7 ?_
        have hjN : j = M - 1 := by
          rcases Nat.lt_or_ge (j + 1) M with q | q
          · exact absurd hc12_4 (by rw [hr]; exact hmore j q)
          · omega
        have hV : OwnA Z h6 a1 .byte 16 (iv' (own_wf g p2.toInt.toNat q3 M)) := by
          have q := V6'
          rw [show i4.toInt.toNat = p2.toInt.toNat + j by rw [hi4]; exact (own_ia p2 j hs0 (by omega)).2, hr, hjN] at q
          exact q
        have hv : (i4 + (1 : Int32)) = p2 + Int32.ofNat M := by rw [hi4, own_is, show j + 1 = M by omega]
        exact OwnG.retI X6 hx Bd.returns (BodyLoose.notSynchronized Bd) (hb hby d2_52) (by rw [e6]; exact ⟨congrArg (fun w => some (Value.int w)) hv, N6, K6, hV⟩) (by decide) (by decide)
      · have sg8 : ∀ tgt, Steps p.tables e below (T.setTop (mkF m 26 #[.val (.ref a1), .val (.int p2), .val (.long q3), .second, .val (.int i4), .val (.long r5), .second] [(.int (((r5 ||| (128 : Int64)).toInt32).toInt8.toInt32)), (.int i4), (.ref a1)])) tgt → Steps p.tables e below (T.setTop (mkF m 12 #[.val (.ref a1), .val (.int p2), .val (.long q3), .second, .val (.int i4), .val (.long r5), .second] [(.int (lcmpW r5 (128 : Int64)))])) tgt := by
          intro tgt kt
          refine XS.ifNo X.here hx rfl (hb hby d2_12) rfl ((if0 _ _).trans (flt (mt (lw_lt r5 (128 : Int64)).mp hc12_4)).1) ?_
          show Steps p.tables e below (T.setTop (mkF m 15 #[.val (.ref a1), .val (.int p2), .val (.long q3), .second, .val (.int i4), .val (.long r5), .second] [])) _
          refine XS.aloadN X.here hx rfl (hb hby d2_15) rfl rfl ?_
          show Steps p.tables e below (T.setTop (mkF m 16 #[.val (.ref a1), .val (.int p2), .val (.long q3), .second, .val (.int i4), .val (.long r5), .second] [(.ref a1)])) _
          refine XS.iload X.here hx rfl (hb hby d2_16) rfl ?_
          show Steps p.tables e below (T.setTop (mkF m 18 #[.val (.ref a1), .val (.int p2), .val (.long q3), .second, .val (.int i4), .val (.long r5), .second] [(.int i4), (.ref a1)])) _
          refine XS.lload X.here hx rfl (hb hby d2_18) rfl ?_
          show Steps p.tables e below (T.setTop (mkF m 20 #[.val (.ref a1), .val (.int p2), .val (.long q3), .second, .val (.int i4), .val (.long r5), .second] [(.long r5), (.int i4), (.ref a1)])) _
          refine X.ldc2Long hx hown (mvT hZ (hw _ (List.mem_of_getElem? (i := 11) rfl))) (g := (mkF m 20 #[.val (.ref a1), .val (.int p2), .val (.long q3), .second, .val (.int i4), .val (.long r5), .second] [(.long r5), (.int i4), (.ref a1)])) rfl (hb hby d2_20) _ ?_
          show Steps p.tables e below (T.setTop (mkF m 23 #[.val (.ref a1), .val (.int p2), .val (.long q3), .second, .val (.int i4), .val (.long r5), .second] [(.long (128 : Int64)), (.long r5), (.int i4), (.ref a1)])) _
          refine XS.lor X.here hx rfl (hb hby d2_23) rfl ?_
          show Steps p.tables e below (T.setTop (mkF m 24 #[.val (.ref a1), .val (.int p2), .val (.long q3), .second, .val (.int i4), .val (.long r5), .second] [(.long (r5 ||| (128 : Int64))), (.int i4), (.ref a1)])) _
          refine XS.l2i X.here hx rfl (hb hby d2_24) rfl ?_
          show Steps p.tables e below (T.setTop (mkF m 25 #[.val (.ref a1), .val (.int p2), .val (.long q3), .second, .val (.int i4), .val (.long r5), .second] [(.int ((r5 ||| (128 : Int64)).toInt32)), (.int i4), (.ref a1)])) _
          refine XS.i2b X.here hx rfl (hb hby d2_25) rfl ?_
          show Steps p.tables e below (T.setTop (mkF m 26 #[.val (.ref a1), .val (.int p2), .val (.long q3), .second, .val (.int i4), .val (.long r5), .second] [(.int (((r5 ||| (128 : Int64)).toInt32).toInt8.toInt32)), (.int i4), (.ref a1)])) _
          exact kt
        refine OwnG.st sg8 ?_
        obtain ⟨T9, h9, X9, e9, W9, V9, st9⟩ := own_stB Ha X hx hZ eT (by rw [hi4, (own_ia p2 j hs0 (by omega)).1]; omega) (by rw [hi4, (own_ia p2 j hs0 (by omega)).1]; show _ < (16 : Int); omega) (gf := (mkF m 26 #[.val (.ref a1), .val (.int p2), .val (.long q3), .second, .val (.int i4), .val (.long r5), .second] [(.int (((r5 ||| (128 : Int64)).toInt32).toInt8.toInt32)), (.int i4), (.ref a1)])) rfl rfl (hb hby d2_26)
        have V9' : OwnA Z h9 a1 .byte 16 (iv' (updv (own_w g p2.toInt.toNat q3 j) i4.toInt.toNat (((r5 ||| (128 : Int64)).toInt32).toInt8.toInt32))) := by have q := V9; rw [Int8.toInt8_toInt32] at q; exact q
        have N9 := Fr.snoc X9 N gb_a1
        have Z9 : n0 ≤ h9.size := by rw [W9.size]; exact Hz
        have K9 : Keep h0 h9 [a1] := Hk.wr W9 (Or.inl (List.mem_of_getElem? (i := 0) rfl))
        refine OwnG.st st9 ?_
        show OwnG p e below s _ _ _ T9 (mkF m 27 #[.val (.ref a1), .val (.int p2), .val (.long q3), .second, .val (.int i4), .val (.long r5), .second] [])
        have sg10 : ∀ tgt, Steps p.tables e below (T9.setTop (mkF m 6 #[.val (.ref a1), .val (.int p2), .val (.long q3), .second, .val (.int (i4 + (1 : Int32))), .val (.long ((r5.toUInt64 >>> ((7 : Int32) &&& 0x3f).toInt64.toUInt64).toInt64)), .second] [])) tgt → Steps p.tables e below (T9.setTop (mkF m 27 #[.val (.ref a1), .val (.int p2), .val (.long q3), .second, .val (.int i4), .val (.long r5), .second] [])) tgt := by
          intro tgt kt
          refine XS.iinc X9.here hx rfl (hb hby d2_27) rfl (l' := #[.val (.ref a1), .val (.int p2), .val (.long q3), .second, .val (.int (i4 + (1 : Int32))), .val (.long r5), .second]) rfl ?_
          show Steps p.tables e below (T9.setTop (mkF m 30 #[.val (.ref a1), .val (.int p2), .val (.long q3), .second, .val (.int (i4 + (1 : Int32))), .val (.long r5), .second] [])) _
          refine XS.lload X9.here hx rfl (hb hby d2_30) rfl ?_
          show Steps p.tables e below (T9.setTop (mkF m 32 #[.val (.ref a1), .val (.int p2), .val (.long q3), .second, .val (.int (i4 + (1 : Int32))), .val (.long r5), .second] [(.long r5)])) _
          refine XS.bipush X9.here hx rfl (hb hby d2_32) ?_
          show Steps p.tables e below (T9.setTop (mkF m 34 #[.val (.ref a1), .val (.int p2), .val (.long q3), .second, .val (.int (i4 + (1 : Int32))), .val (.long r5), .second] [(.int (7 : Int32)), (.long r5)])) _
          refine XS.lushr X9.here hx rfl (hb hby d2_34) rfl ?_
          show Steps p.tables e below (T9.setTop (mkF m 35 #[.val (.ref a1), .val (.int p2), .val (.long q3), .second, .val (.int (i4 + (1 : Int32))), .val (.long r5), .second] [(.long ((r5.toUInt64 >>> ((7 : Int32) &&& 0x3f).toInt64.toUInt64).toInt64))])) _
          refine XS.lstore X9.here hx rfl (hb hby d2_35) rfl (l' := #[.val (.ref a1), .val (.int p2), .val (.long q3), .second, .val (.int (i4 + (1 : Int32))), .val (.long ((r5.toUInt64 >>> ((7 : Int32) &&& 0x3f).toInt64.toUInt64).toInt64)), .second]) rfl ?_
          show Steps p.tables e below (T9.setTop (mkF m 37 #[.val (.ref a1), .val (.int p2), .val (.long q3), .second, .val (.int (i4 + (1 : Int32))), .val (.long ((r5.toUInt64 >>> ((7 : Int32) &&& 0x3f).toInt64.toUInt64).toInt64)), .second] [])) _
          refine XS.goto X9.here hx rfl (pc0 := 37) (pc' := 6) rfl (hb hby d2_37) (by decide) (by decide) ?_
          show Steps p.tables e below (T9.setTop (mkF m 6 #[.val (.ref a1), .val (.int p2), .val (.long q3), .second, .val (.int (i4 + (1 : Int32))), .val (.long ((r5.toUInt64 >>> ((7 : Int32) &&& 0x3f).toInt64.toUInt64).toInt64)), .second] [])) _
          exact kt
        refine OwnG.st sg10 ?_
        have hj1 : j + 1 < M := by
          rcases Nat.lt_or_ge (j + 1) M with q | q
          · exact q
          · exact absurd (by rw [hr, show j = M - 1 by omega]; exact hlast) hc12_4
        have hV : OwnA Z h9 a1 .byte 16 (iv' (own_w g p2.toInt.toNat q3 (j + 1))) := by
          have q := V9'
          rw [show i4.toInt.toNat = p2.toInt.toNat + j by rw [hi4]; exact (own_ia p2 j hs0 (by omega)).2, hr] at q
          exact q
        exact ih _ (by rw [← hk]; omega) T9 _ h9 (j + 1) _ _ X9 e9 N9 hV K9 Z9 (by rw [hi4]; exact own_is p2 j) (by rw [own_rss, hr]) hj1 rfl
  exact lp2 _ s₁ _  h0 0 _ _ X0 e0 N0 A_a1 (Keep.refl h0 [a1]) Z0 (Int32.add_zero p2).symm rfl (by omega)  rfl
def F3 (p2 : Int32) (p3 : Int32) (p4 : Int32) (q5 : Int64) (p6 : Int32) (g_a1 : Nat → Int32) : Int32 := (if (p2 - p3) < (0 : Int32) then (if (g_a1 p2.toInt.toNat) = (p6.toInt8.toInt32) then (1 : Int32) else (0 : Int32)) else (if (p2 - p3) < p4 then (if (g_a1 p2.toInt.toNat) = ((if (p2 - p3) < (p4 - (1 : Int32)) then (((((q5.toUInt64 >>> (((7 : Int32) * (p2 - p3)) &&& 0x3f).toInt64.toUInt64).toInt64) &&& (127 : Int64)).toInt32) ||| (128 : Int32)) else ((((q5.toUInt64 >>> (((7 : Int32) * (p2 - p3)) &&& 0x3f).toInt64.toUInt64).toInt64) &&& (127 : Int64)).toInt32)).toInt8.toInt32) then (1 : Int32) else (0 : Int32)) else (if (g_a1 p2.toInt.toNat) = (p6.toInt8.toInt32) then (1 : Int32) else (0 : Int32))))
theorem d3_0 : decode method_3_code 0 = .ok (.iload_n 1, 1) := by decide +kernel
theorem d3_1 : decode method_3_code 1 = .ok (.iload_n 2, 1) := by decide +kernel
theorem d3_2 : decode method_3_code 2 = .ok (.isub, 1) := by decide +kernel
theorem d3_3 : decode method_3_code 3 = .ok (.istore 7, 2) := by decide +kernel
theorem d3_5 : decode method_3_code 5 = .ok (.iload 7, 2) := by decide +kernel
theorem d3_7 : decode method_3_code 7 = .ok (.ifCond .lt 9, 3) := by decide +kernel
theorem d3_10 : decode method_3_code 10 = .ok (.iload 7, 2) := by decide +kernel
theorem d3_12 : decode method_3_code 12 = .ok (.iload_n 3, 1) := by decide +kernel
theorem d3_13 : decode method_3_code 13 = .ok (.if_icmp .lt 10, 3) := by decide +kernel
theorem d3_16 : decode method_3_code 16 = .ok (.iload 6, 2) := by decide +kernel
theorem d3_18 : decode method_3_code 18 = .ok (.istore 8, 2) := by decide +kernel
theorem d3_20 : decode method_3_code 20 = .ok (.goto 41, 3) := by decide +kernel
theorem d3_23 : decode method_3_code 23 = .ok (.lload 4, 2) := by decide +kernel
theorem d3_25 : decode method_3_code 25 = .ok (.bipush 7, 2) := by decide +kernel
theorem d3_27 : decode method_3_code 27 = .ok (.iload 7, 2) := by decide +kernel
theorem d3_29 : decode method_3_code 29 = .ok (.imul, 1) := by decide +kernel
theorem d3_30 : decode method_3_code 30 = .ok (.lushr, 1) := by decide +kernel
theorem d3_31 : decode method_3_code 31 = .ok (.ldc2_w 23, 3) := by decide +kernel
theorem d3_34 : decode method_3_code 34 = .ok (.land, 1) := by decide +kernel
theorem d3_35 : decode method_3_code 35 = .ok (.l2i, 1) := by decide +kernel
theorem d3_36 : decode method_3_code 36 = .ok (.istore 9, 2) := by decide +kernel
theorem d3_38 : decode method_3_code 38 = .ok (.iload 7, 2) := by decide +kernel
theorem d3_40 : decode method_3_code 40 = .ok (.iload_n 3, 1) := by decide +kernel
theorem d3_41 : decode method_3_code 41 = .ok (.iconst 1, 1) := by decide +kernel
theorem d3_42 : decode method_3_code 42 = .ok (.isub, 1) := by decide +kernel
theorem d3_43 : decode method_3_code 43 = .ok (.if_icmp .ge 14, 3) := by decide +kernel
theorem d3_46 : decode method_3_code 46 = .ok (.iload 9, 2) := by decide +kernel
theorem d3_48 : decode method_3_code 48 = .ok (.sipush 128, 3) := by decide +kernel
theorem d3_51 : decode method_3_code 51 = .ok (.ior, 1) := by decide +kernel
theorem d3_52 : decode method_3_code 52 = .ok (.istore 8, 2) := by decide +kernel
theorem d3_54 : decode method_3_code 54 = .ok (.goto 7, 3) := by decide +kernel
theorem d3_57 : decode method_3_code 57 = .ok (.iload 9, 2) := by decide +kernel
theorem d3_59 : decode method_3_code 59 = .ok (.istore 8, 2) := by decide +kernel
theorem d3_61 : decode method_3_code 61 = .ok (.aload_n 0, 1) := by decide +kernel
theorem d3_62 : decode method_3_code 62 = .ok (.iload_n 1, 1) := by decide +kernel
theorem d3_63 : decode method_3_code 63 = .ok (.baload, 1) := by decide +kernel
theorem d3_64 : decode method_3_code 64 = .ok (.iload 8, 2) := by decide +kernel
theorem d3_66 : decode method_3_code 66 = .ok (.i2b, 1) := by decide +kernel
theorem d3_67 : decode method_3_code 67 = .ok (.if_icmp .ne 7, 3) := by decide +kernel
theorem d3_70 : decode method_3_code 70 = .ok (.iconst 1, 1) := by decide +kernel
theorem d3_71 : decode method_3_code 71 = .ok (.goto 4, 3) := by decide +kernel
theorem d3_74 : decode method_3_code 74 = .ok (.iconst 0, 1) := by decide +kernel
theorem d3_75 : decode method_3_code 75 = .ok (.ireturn, 1) := by decide +kernel
theorem pn_3 : plainName "com/example/guessd/guessd/VarintsWritePinLaw" = true := by first | (simp [plainName, overriddenIn]; done) | decide +kernel
theorem ef_3 (m : MethodId) (a1 : Addr) (p2 : Int32) (p3 : Int32) (p4 : Int32) (q5 : Int64) (p6 : Int32) : entryFrame m #[(.ref a1), (.int p2), (.int p3), (.int p4), (.long q5), (.int p6)] 10 = mkF m 0 #[.val (.ref a1), .val (.int p2), .val (.int p3), .val (.int p4), .val (.long q5), .second, .val (.int p6), .unset, .unset, .unset] [] := by first | (simp [entryFrame, mkF, argsToLocals, Value.category]; done) | rfl
def Q3 (Z : State) (a1 : Addr) (p2 : Int32) (p3 : Int32) (p4 : Int32) (q5 : Int64) (p6 : Int32) (n_a1 : Nat) (g_a1 : Nat → Int32) (h0 : Heap) (n0 : Nat) (v : Option Value) (h : Heap) (L : List Loc) : Prop := v = some (.int (F3 p2 p3 p4 q5 p6 g_a1)) ∧ Fr n0 L ∧ h = h0
set_option maxRecDepth 65536 in
set_option maxHeartbeats 40000000 in
theorem rm3 (l : Launch) (Z : State) (a0 : Array Value) (hw : ∀ d ∈ tables_1, d.before a0 Z = true) (ws : List Jvm.Cond) (a1 : Addr) (p2 : Int32) (p3 : Int32) (p4 : Int32) (q5 : Int64) (p6 : Int32) (n_a1 : Nat) (g_a1 : Nat → Int32) (h0 : Heap) (n0 : Nat) (Z0 : n0 ≤ h0.size) (A_a1 : OwnA Z h0 a1 .byte n_a1 (iv' g_a1)) (hs0 : 0 ≤ p2.toInt) (hs1 : p2.toInt < n_a1) :
    MetFree l (⟨"com/example/guessd/guessd/VarintsWritePinLaw", "ok", "([BIIIJB)Z"⟩ : MethodName) (head1 (Jvm.Cond.code (⟨"com/example/guessd/guessd/VarintsWritePinLaw", "ok", "([BIIIJB)Z"⟩ : MethodName) method_3_code 10 (some .boolean) :: ws) ({ frames := 0, cells := 0, slots := 0, locals := 0 } : Room)) (fun a U => a = #[(.ref a1), (.int p2), (.int p3), (.int p4), (.long q5), (.int p6)] ∧ Z.Warmed39 U.vm ∧ U.heap = h0) (fun _ _ _ _ _ => True) (fun _ U o U' => ∃ v L, o = .returned v ∧ Q3 Z a1 p2 p3 p4 q5 p6 n_a1 g_a1 h0 n0 v U'.heap L ∧ FrameEnd U o U' L ({ frames := 0, cells := 0, slots := 0, locals := 0 } : Room).cells ({ frames := 0, cells := 0, slots := 0, locals := 0 } : Room).slots) := by
  refine MetFree.of_bodySF (plainFor_of_name pn_3) hisR ?_
  intro p e s m args below meth c s₁ Bd hml0 hP hK
  obtain ⟨rfl, hZ, hh⟩ := hP
  have hx := Bd.exec
  have hby := Bd.bytes
  have hml : c.maxLocals = 10 := hml0
  have hown : s.vm.findClass "com/example/guessd/guessd/VarintsWritePinLaw" = some m.cls := findClass_of_methodNamed Bd.named
  have hnm := (name_of_methodNamed Bd.named Bd.method).1
  have X0 : Stand p l e ({ frames := 0, cells := 0, slots := 0, locals := 0 } : Room) s m #[(.ref a1), (.int p2), (.int p3), (.int p4), (.long q5), (.int p6)] below meth c s₁ [] 0 0 := Stand.of_body Bd
  have e0 : s₁.heap = h0 := by rw [← hh, Bd.state]; rfl
  have N0 := Fr.nil n0
  suffices hG : OwnG p e below s (Q3 Z a1 p2 p3 p4 q5 p6 n_a1 g_a1 h0 n0) ({ frames := 0, cells := 0, slots := 0, locals := 0 } : Room).cells ({ frames := 0, cells := 0, slots := 0, locals := 0 } : Room).slots s₁ (mkF m 0 #[.val (.ref a1), .val (.int p2), .val (.int p3), .val (.int p4), .val (.long q5), .second, .val (.int p6), .unset, .unset, .unset] []) by
    obtain ⟨s2, o2, g1, g2⟩ := hG
    exact ⟨s2, o2, castTop (ef_3 m a1 p2 p3 p4 q5 p6) g1, g2⟩
  have sg1 : ∀ tgt, Steps p.tables e below (s₁.setTop (mkF m 7 #[.val (.ref a1), .val (.int p2), .val (.int p3), .val (.int p4), .val (.long q5), .second, .val (.int p6), .val (.int (p2 - p3)), .unset, .unset] [(.int (p2 - p3))])) tgt → Steps p.tables e below (s₁.setTop (mkF m 0 #[.val (.ref a1), .val (.int p2), .val (.int p3), .val (.int p4), .val (.long q5), .second, .val (.int p6), .unset, .unset, .unset] [])) tgt := by
    intro tgt kt
    refine XS.iloadN X0.here hx rfl (hb hby d3_0) rfl ?_
    show Steps p.tables e below (s₁.setTop (mkF m 1 #[.val (.ref a1), .val (.int p2), .val (.int p3), .val (.int p4), .val (.long q5), .second, .val (.int p6), .unset, .unset, .unset] [(.int p2)])) _
    refine XS.iloadN X0.here hx rfl (hb hby d3_1) rfl ?_
    show Steps p.tables e below (s₁.setTop (mkF m 2 #[.val (.ref a1), .val (.int p2), .val (.int p3), .val (.int p4), .val (.long q5), .second, .val (.int p6), .unset, .unset, .unset] [(.int p3), (.int p2)])) _
    refine XS.isub X0.here hx rfl (hb hby d3_2) rfl ?_
    show Steps p.tables e below (s₁.setTop (mkF m 3 #[.val (.ref a1), .val (.int p2), .val (.int p3), .val (.int p4), .val (.long q5), .second, .val (.int p6), .unset, .unset, .unset] [(.int (p2 - p3))])) _
    refine XS.istore X0.here hx rfl (hb hby d3_3) rfl (l' := #[.val (.ref a1), .val (.int p2), .val (.int p3), .val (.int p4), .val (.long q5), .second, .val (.int p6), .val (.int (p2 - p3)), .unset, .unset]) rfl ?_
    show Steps p.tables e below (s₁.setTop (mkF m 5 #[.val (.ref a1), .val (.int p2), .val (.int p3), .val (.int p4), .val (.long q5), .second, .val (.int p6), .val (.int (p2 - p3)), .unset, .unset] [])) _
    refine XS.iload X0.here hx rfl (hb hby d3_5) rfl ?_
    show Steps p.tables e below (s₁.setTop (mkF m 7 #[.val (.ref a1), .val (.int p2), .val (.int p3), .val (.int p4), .val (.long q5), .second, .val (.int p6), .val (.int (p2 - p3)), .unset, .unset] [(.int (p2 - p3))])) _
    exact kt
  refine OwnG.st sg1 ?_
  by_cases hc7_6 : (p2 - p3) < (0 : Int32)
  · have sg7 : ∀ tgt, Steps p.tables e below (s₁.setTop (mkF m 67 #[.val (.ref a1), .val (.int p2), .val (.int p3), .val (.int p4), .val (.long q5), .second, .val (.int p6), .val (.int (p2 - p3)), .val (.int p6), .unset] [(.int (p6.toInt8.toInt32)), (.int (g_a1 p2.toInt.toNat))])) tgt → Steps p.tables e below (s₁.setTop (mkF m 7 #[.val (.ref a1), .val (.int p2), .val (.int p3), .val (.int p4), .val (.long q5), .second, .val (.int p6), .val (.int (p2 - p3)), .unset, .unset] [(.int (p2 - p3))])) tgt := by
      intro tgt kt
      refine XS.ifYes X0.here hx rfl (pc0 := 7) (pc' := 16) rfl (hb hby d3_7) rfl ((if0 _ _).trans (tlt hc7_6).1) (by decide) (by decide) ?_
      show Steps p.tables e below (s₁.setTop (mkF m 16 #[.val (.ref a1), .val (.int p2), .val (.int p3), .val (.int p4), .val (.long q5), .second, .val (.int p6), .val (.int (p2 - p3)), .unset, .unset] [])) _
      refine XS.iload X0.here hx rfl (hb hby d3_16) rfl ?_
      show Steps p.tables e below (s₁.setTop (mkF m 18 #[.val (.ref a1), .val (.int p2), .val (.int p3), .val (.int p4), .val (.long q5), .second, .val (.int p6), .val (.int (p2 - p3)), .unset, .unset] [(.int p6)])) _
      refine XS.istore X0.here hx rfl (hb hby d3_18) rfl (l' := #[.val (.ref a1), .val (.int p2), .val (.int p3), .val (.int p4), .val (.long q5), .second, .val (.int p6), .val (.int (p2 - p3)), .val (.int p6), .unset]) rfl ?_
      show Steps p.tables e below (s₁.setTop (mkF m 20 #[.val (.ref a1), .val (.int p2), .val (.int p3), .val (.int p4), .val (.long q5), .second, .val (.int p6), .val (.int (p2 - p3)), .val (.int p6), .unset] [])) _
      refine XS.goto X0.here hx rfl (pc0 := 20) (pc' := 61) rfl (hb hby d3_20) (by decide) (by decide) ?_
      show Steps p.tables e below (s₁.setTop (mkF m 61 #[.val (.ref a1), .val (.int p2), .val (.int p3), .val (.int p4), .val (.long q5), .second, .val (.int p6), .val (.int (p2 - p3)), .val (.int p6), .unset] [])) _
      refine XS.aloadN X0.here hx rfl (hb hby d3_61) rfl rfl ?_
      show Steps p.tables e below (s₁.setTop (mkF m 62 #[.val (.ref a1), .val (.int p2), .val (.int p3), .val (.int p4), .val (.long q5), .second, .val (.int p6), .val (.int (p2 - p3)), .val (.int p6), .unset] [(.ref a1)])) _
      refine XS.iloadN X0.here hx rfl (hb hby d3_62) rfl ?_
      show Steps p.tables e below (s₁.setTop (mkF m 63 #[.val (.ref a1), .val (.int p2), .val (.int p3), .val (.int p4), .val (.long q5), .second, .val (.int p6), .val (.int (p2 - p3)), .val (.int p6), .unset] [(.int p2), (.ref a1)])) _
      refine own_ldB A_a1 X0 hx hZ e0 hs0 hs1 (gf := (mkF m 63 #[.val (.ref a1), .val (.int p2), .val (.int p3), .val (.int p4), .val (.long q5), .second, .val (.int p6), .val (.int (p2 - p3)), .val (.int p6), .unset] [(.int p2), (.ref a1)])) rfl rfl (hb hby d3_63) _ ?_
      show Steps p.tables e below (s₁.setTop (mkF m 64 #[.val (.ref a1), .val (.int p2), .val (.int p3), .val (.int p4), .val (.long q5), .second, .val (.int p6), .val (.int (p2 - p3)), .val (.int p6), .unset] [(.int (g_a1 p2.toInt.toNat))])) _
      refine XS.iload X0.here hx rfl (hb hby d3_64) rfl ?_
      show Steps p.tables e below (s₁.setTop (mkF m 66 #[.val (.ref a1), .val (.int p2), .val (.int p3), .val (.int p4), .val (.long q5), .second, .val (.int p6), .val (.int (p2 - p3)), .val (.int p6), .unset] [(.int p6), (.int (g_a1 p2.toInt.toNat))])) _
      refine XS.i2b X0.here hx rfl (hb hby d3_66) rfl ?_
      show Steps p.tables e below (s₁.setTop (mkF m 67 #[.val (.ref a1), .val (.int p2), .val (.int p3), .val (.int p4), .val (.long q5), .second, .val (.int p6), .val (.int (p2 - p3)), .val (.int p6), .unset] [(.int (p6.toInt8.toInt32)), (.int (g_a1 p2.toInt.toNat))])) _
      exact kt
    refine OwnG.st sg7 ?_
    by_cases hc67_8 : (g_a1 p2.toInt.toNat) = (p6.toInt8.toInt32)
    · have sg9 : ∀ tgt, Steps p.tables e below (s₁.setTop (mkF m 75 #[.val (.ref a1), .val (.int p2), .val (.int p3), .val (.int p4), .val (.long q5), .second, .val (.int p6), .val (.int (p2 - p3)), .val (.int p6), .unset] [(.int (1 : Int32))])) tgt → Steps p.tables e below (s₁.setTop (mkF m 67 #[.val (.ref a1), .val (.int p2), .val (.int p3), .val (.int p4), .val (.long q5), .second, .val (.int p6), .val (.int (p2 - p3)), .val (.int p6), .unset] [(.int (p6.toInt8.toInt32)), (.int (g_a1 p2.toInt.toNat))])) tgt := by
        intro tgt kt
        refine XS.icmpNo X0.here hx rfl (hb hby d3_67) rfl (teq hc67_8).2 ?_
        show Steps p.tables e below (s₁.setTop (mkF m 70 #[.val (.ref a1), .val (.int p2), .val (.int p3), .val (.int p4), .val (.long q5), .second, .val (.int p6), .val (.int (p2 - p3)), .val (.int p6), .unset] [])) _
        refine XS.iconst X0.here hx rfl (hb hby d3_70) ?_
        show Steps p.tables e below (s₁.setTop (mkF m 71 #[.val (.ref a1), .val (.int p2), .val (.int p3), .val (.int p4), .val (.long q5), .second, .val (.int p6), .val (.int (p2 - p3)), .val (.int p6), .unset] [(.int (1 : Int32))])) _
        refine XS.goto X0.here hx rfl (pc0 := 71) (pc' := 75) rfl (hb hby d3_71) (by decide) (by decide) ?_
        show Steps p.tables e below (s₁.setTop (mkF m 75 #[.val (.ref a1), .val (.int p2), .val (.int p3), .val (.int p4), .val (.long q5), .second, .val (.int p6), .val (.int (p2 - p3)), .val (.int p6), .unset] [(.int (1 : Int32))])) _
        exact kt
      refine OwnG.st sg9 ?_
      have hv : (1 : Int32) = F3 p2 p3 p4 q5 p6 g_a1 := by simp only [F3, if_pos hc7_6, if_pos hc67_8]
      exact OwnG.retN X0 hx (t := .boolean) (by simp) Bd.returns (BodyLoose.notSynchronized Bd) (hb hby d3_75) ⟨congrArg (fun w => some (Value.int w)) ((show nar .boolean (1 : Int32) = (1 : Int32) from rfl).trans hv), N0, e0⟩ (by decide) (by decide)
    · have sg10 : ∀ tgt, Steps p.tables e below (s₁.setTop (mkF m 75 #[.val (.ref a1), .val (.int p2), .val (.int p3), .val (.int p4), .val (.long q5), .second, .val (.int p6), .val (.int (p2 - p3)), .val (.int p6), .unset] [(.int (0 : Int32))])) tgt → Steps p.tables e below (s₁.setTop (mkF m 67 #[.val (.ref a1), .val (.int p2), .val (.int p3), .val (.int p4), .val (.long q5), .second, .val (.int p6), .val (.int (p2 - p3)), .val (.int p6), .unset] [(.int (p6.toInt8.toInt32)), (.int (g_a1 p2.toInt.toNat))])) tgt := by
        intro tgt kt
        refine XS.icmpYes X0.here hx rfl (pc0 := 67) (pc' := 74) rfl (hb hby d3_67) rfl (feq hc67_8).2 (by decide) (by decide) ?_
        show Steps p.tables e below (s₁.setTop (mkF m 74 #[.val (.ref a1), .val (.int p2), .val (.int p3), .val (.int p4), .val (.long q5), .second, .val (.int p6), .val (.int (p2 - p3)), .val (.int p6), .unset] [])) _
        refine XS.iconst X0.here hx rfl (hb hby d3_74) ?_
        show Steps p.tables e below (s₁.setTop (mkF m 75 #[.val (.ref a1), .val (.int p2), .val (.int p3), .val (.int p4), .val (.long q5), .second, .val (.int p6), .val (.int (p2 - p3)), .val (.int p6), .unset] [(.int (0 : Int32))])) _
        exact kt
      refine OwnG.st sg10 ?_
      have hv : (0 : Int32) = F3 p2 p3 p4 q5 p6 g_a1 := by simp only [F3, if_pos hc7_6, if_neg hc67_8]
      exact OwnG.retN X0 hx (t := .boolean) (by simp) Bd.returns (BodyLoose.notSynchronized Bd) (hb hby d3_75) ⟨congrArg (fun w => some (Value.int w)) ((show nar .boolean (0 : Int32) = (0 : Int32) from rfl).trans hv), N0, e0⟩ (by decide) (by decide)
  · have sg11 : ∀ tgt, Steps p.tables e below (s₁.setTop (mkF m 13 #[.val (.ref a1), .val (.int p2), .val (.int p3), .val (.int p4), .val (.long q5), .second, .val (.int p6), .val (.int (p2 - p3)), .unset, .unset] [(.int p4), (.int (p2 - p3))])) tgt → Steps p.tables e below (s₁.setTop (mkF m 7 #[.val (.ref a1), .val (.int p2), .val (.int p3), .val (.int p4), .val (.long q5), .second, .val (.int p6), .val (.int (p2 - p3)), .unset, .unset] [(.int (p2 - p3))])) tgt := by
      intro tgt kt
      refine XS.ifNo X0.here hx rfl (hb hby d3_7) rfl ((if0 _ _).trans (flt hc7_6).1) ?_
      show Steps p.tables e below (s₁.setTop (mkF m 10 #[.val (.ref a1), .val (.int p2), .val (.int p3), .val (.int p4), .val (.long q5), .second, .val (.int p6), .val (.int (p2 - p3)), .unset, .unset] [])) _
      refine XS.iload X0.here hx rfl (hb hby d3_10) rfl ?_
      show Steps p.tables e below (s₁.setTop (mkF m 12 #[.val (.ref a1), .val (.int p2), .val (.int p3), .val (.int p4), .val (.long q5), .second, .val (.int p6), .val (.int (p2 - p3)), .unset, .unset] [(.int (p2 - p3))])) _
      refine XS.iloadN X0.here hx rfl (hb hby d3_12) rfl ?_
      show Steps p.tables e below (s₁.setTop (mkF m 13 #[.val (.ref a1), .val (.int p2), .val (.int p3), .val (.int p4), .val (.long q5), .second, .val (.int p6), .val (.int (p2 - p3)), .unset, .unset] [(.int p4), (.int (p2 - p3))])) _
      exact kt
    refine OwnG.st sg11 ?_
    by_cases hc13_15 : (p2 - p3) < p4
    · have sg16 : ∀ tgt, Steps p.tables e below (s₁.setTop (mkF m 43 #[.val (.ref a1), .val (.int p2), .val (.int p3), .val (.int p4), .val (.long q5), .second, .val (.int p6), .val (.int (p2 - p3)), .unset, .val (.int ((((q5.toUInt64 >>> (((7 : Int32) * (p2 - p3)) &&& 0x3f).toInt64.toUInt64).toInt64) &&& (127 : Int64)).toInt32))] [(.int (p4 - (1 : Int32))), (.int (p2 - p3))])) tgt → Steps p.tables e below (s₁.setTop (mkF m 13 #[.val (.ref a1), .val (.int p2), .val (.int p3), .val (.int p4), .val (.long q5), .second, .val (.int p6), .val (.int (p2 - p3)), .unset, .unset] [(.int p4), (.int (p2 - p3))])) tgt := by
        intro tgt kt
        refine XS.icmpYes X0.here hx rfl (pc0 := 13) (pc' := 23) rfl (hb hby d3_13) rfl (tlt hc13_15).1 (by decide) (by decide) ?_
        show Steps p.tables e below (s₁.setTop (mkF m 23 #[.val (.ref a1), .val (.int p2), .val (.int p3), .val (.int p4), .val (.long q5), .second, .val (.int p6), .val (.int (p2 - p3)), .unset, .unset] [])) _
        refine XS.lload X0.here hx rfl (hb hby d3_23) rfl ?_
        show Steps p.tables e below (s₁.setTop (mkF m 25 #[.val (.ref a1), .val (.int p2), .val (.int p3), .val (.int p4), .val (.long q5), .second, .val (.int p6), .val (.int (p2 - p3)), .unset, .unset] [(.long q5)])) _
        refine XS.bipush X0.here hx rfl (hb hby d3_25) ?_
        show Steps p.tables e below (s₁.setTop (mkF m 27 #[.val (.ref a1), .val (.int p2), .val (.int p3), .val (.int p4), .val (.long q5), .second, .val (.int p6), .val (.int (p2 - p3)), .unset, .unset] [(.int (7 : Int32)), (.long q5)])) _
        refine XS.iload X0.here hx rfl (hb hby d3_27) rfl ?_
        show Steps p.tables e below (s₁.setTop (mkF m 29 #[.val (.ref a1), .val (.int p2), .val (.int p3), .val (.int p4), .val (.long q5), .second, .val (.int p6), .val (.int (p2 - p3)), .unset, .unset] [(.int (p2 - p3)), (.int (7 : Int32)), (.long q5)])) _
        refine XS.imul X0.here hx rfl (hb hby d3_29) rfl ?_
        show Steps p.tables e below (s₁.setTop (mkF m 30 #[.val (.ref a1), .val (.int p2), .val (.int p3), .val (.int p4), .val (.long q5), .second, .val (.int p6), .val (.int (p2 - p3)), .unset, .unset] [(.int ((7 : Int32) * (p2 - p3))), (.long q5)])) _
        refine XS.lushr X0.here hx rfl (hb hby d3_30) rfl ?_
        show Steps p.tables e below (s₁.setTop (mkF m 31 #[.val (.ref a1), .val (.int p2), .val (.int p3), .val (.int p4), .val (.long q5), .second, .val (.int p6), .val (.int (p2 - p3)), .unset, .unset] [(.long ((q5.toUInt64 >>> (((7 : Int32) * (p2 - p3)) &&& 0x3f).toInt64.toUInt64).toInt64))])) _
        refine X0.ldc2Long hx hown (mvT hZ (hw _ (List.mem_of_getElem? (i := 15) rfl))) (g := (mkF m 31 #[.val (.ref a1), .val (.int p2), .val (.int p3), .val (.int p4), .val (.long q5), .second, .val (.int p6), .val (.int (p2 - p3)), .unset, .unset] [(.long ((q5.toUInt64 >>> (((7 : Int32) * (p2 - p3)) &&& 0x3f).toInt64.toUInt64).toInt64))])) rfl (hb hby d3_31) _ ?_
        show Steps p.tables e below (s₁.setTop (mkF m 34 #[.val (.ref a1), .val (.int p2), .val (.int p3), .val (.int p4), .val (.long q5), .second, .val (.int p6), .val (.int (p2 - p3)), .unset, .unset] [(.long (127 : Int64)), (.long ((q5.toUInt64 >>> (((7 : Int32) * (p2 - p3)) &&& 0x3f).toInt64.toUInt64).toInt64))])) _
        refine XS.land X0.here hx rfl (hb hby d3_34) rfl ?_
        show Steps p.tables e below (s₁.setTop (mkF m 35 #[.val (.ref a1), .val (.int p2), .val (.int p3), .val (.int p4), .val (.long q5), .second, .val (.int p6), .val (.int (p2 - p3)), .unset, .unset] [(.long (((q5.toUInt64 >>> (((7 : Int32) * (p2 - p3)) &&& 0x3f).toInt64.toUInt64).toInt64) &&& (127 : Int64)))])) _
        refine XS.l2i X0.here hx rfl (hb hby d3_35) rfl ?_
        show Steps p.tables e below (s₁.setTop (mkF m 36 #[.val (.ref a1), .val (.int p2), .val (.int p3), .val (.int p4), .val (.long q5), .second, .val (.int p6), .val (.int (p2 - p3)), .unset, .unset] [(.int ((((q5.toUInt64 >>> (((7 : Int32) * (p2 - p3)) &&& 0x3f).toInt64.toUInt64).toInt64) &&& (127 : Int64)).toInt32))])) _
        refine XS.istore X0.here hx rfl (hb hby d3_36) rfl (l' := #[.val (.ref a1), .val (.int p2), .val (.int p3), .val (.int p4), .val (.long q5), .second, .val (.int p6), .val (.int (p2 - p3)), .unset, .val (.int ((((q5.toUInt64 >>> (((7 : Int32) * (p2 - p3)) &&& 0x3f).toInt64.toUInt64).toInt64) &&& (127 : Int64)).toInt32))]) rfl ?_
        show Steps p.tables e below (s₁.setTop (mkF m 38 #[.val (.ref a1), .val (.int p2), .val (.int p3), .val (.int p4), .val (.long q5), .second, .val (.int p6), .val (.int (p2 - p3)), .unset, .val (.int ((((q5.toUInt64 >>> (((7 : Int32) * (p2 - p3)) &&& 0x3f).toInt64.toUInt64).toInt64) &&& (127 : Int64)).toInt32))] [])) _
        refine XS.iload X0.here hx rfl (hb hby d3_38) rfl ?_
        show Steps p.tables e below (s₁.setTop (mkF m 40 #[.val (.ref a1), .val (.int p2), .val (.int p3), .val (.int p4), .val (.long q5), .second, .val (.int p6), .val (.int (p2 - p3)), .unset, .val (.int ((((q5.toUInt64 >>> (((7 : Int32) * (p2 - p3)) &&& 0x3f).toInt64.toUInt64).toInt64) &&& (127 : Int64)).toInt32))] [(.int (p2 - p3))])) _
        refine XS.iloadN X0.here hx rfl (hb hby d3_40) rfl ?_
        show Steps p.tables e below (s₁.setTop (mkF m 41 #[.val (.ref a1), .val (.int p2), .val (.int p3), .val (.int p4), .val (.long q5), .second, .val (.int p6), .val (.int (p2 - p3)), .unset, .val (.int ((((q5.toUInt64 >>> (((7 : Int32) * (p2 - p3)) &&& 0x3f).toInt64.toUInt64).toInt64) &&& (127 : Int64)).toInt32))] [(.int p4), (.int (p2 - p3))])) _
        refine XS.iconst X0.here hx rfl (hb hby d3_41) ?_
        show Steps p.tables e below (s₁.setTop (mkF m 42 #[.val (.ref a1), .val (.int p2), .val (.int p3), .val (.int p4), .val (.long q5), .second, .val (.int p6), .val (.int (p2 - p3)), .unset, .val (.int ((((q5.toUInt64 >>> (((7 : Int32) * (p2 - p3)) &&& 0x3f).toInt64.toUInt64).toInt64) &&& (127 : Int64)).toInt32))] [(.int (1 : Int32)), (.int p4), (.int (p2 - p3))])) _
        refine XS.isub X0.here hx rfl (hb hby d3_42) rfl ?_
        show Steps p.tables e below (s₁.setTop (mkF m 43 #[.val (.ref a1), .val (.int p2), .val (.int p3), .val (.int p4), .val (.long q5), .second, .val (.int p6), .val (.int (p2 - p3)), .unset, .val (.int ((((q5.toUInt64 >>> (((7 : Int32) * (p2 - p3)) &&& 0x3f).toInt64.toUInt64).toInt64) &&& (127 : Int64)).toInt32))] [(.int (p4 - (1 : Int32))), (.int (p2 - p3))])) _
        exact kt
      refine OwnG.st sg16 ?_
      obtain ⟨z61_18, hz61_18⟩ : ∃ w : Int32, w = (if (p2 - p3) < (p4 - (1 : Int32)) then (((((q5.toUInt64 >>> (((7 : Int32) * (p2 - p3)) &&& 0x3f).toInt64.toUInt64).toInt64) &&& (127 : Int64)).toInt32) ||| (128 : Int32)) else ((((q5.toUInt64 >>> (((7 : Int32) * (p2 - p3)) &&& 0x3f).toInt64.toUInt64).toInt64) &&& (127 : Int64)).toInt32)) := ⟨_, rfl⟩
      have dj19 : ∀ tgt, Steps p.tables e below (s₁.setTop (mkF m 61 #[.val (.ref a1), .val (.int p2), .val (.int p3), .val (.int p4), .val (.long q5), .second, .val (.int p6), .val (.int (p2 - p3)), .val (.int z61_18), .val (.int ((((q5.toUInt64 >>> (((7 : Int32) * (p2 - p3)) &&& 0x3f).toInt64.toUInt64).toInt64) &&& (127 : Int64)).toInt32))] [])) tgt → Steps p.tables e below (s₁.setTop (mkF m 43 #[.val (.ref a1), .val (.int p2), .val (.int p3), .val (.int p4), .val (.long q5), .second, .val (.int p6), .val (.int (p2 - p3)), .unset, .val (.int ((((q5.toUInt64 >>> (((7 : Int32) * (p2 - p3)) &&& 0x3f).toInt64.toUInt64).toInt64) &&& (127 : Int64)).toInt32))] [(.int (p4 - (1 : Int32))), (.int (p2 - p3))])) tgt := by
        intro tgt kt
        by_cases hc43_17 : (p2 - p3) < (p4 - (1 : Int32))
        · have qz61_18 : z61_18 = (((((q5.toUInt64 >>> (((7 : Int32) * (p2 - p3)) &&& 0x3f).toInt64.toUInt64).toInt64) &&& (127 : Int64)).toInt32) ||| (128 : Int32)) := by rw [hz61_18, if_pos hc43_17]
          rw [qz61_18] at kt
          refine XS.icmpNo X0.here hx rfl (hb hby d3_43) rfl (tlt hc43_17).2.1 ?_
          show Steps p.tables e below (s₁.setTop (mkF m 46 #[.val (.ref a1), .val (.int p2), .val (.int p3), .val (.int p4), .val (.long q5), .second, .val (.int p6), .val (.int (p2 - p3)), .unset, .val (.int ((((q5.toUInt64 >>> (((7 : Int32) * (p2 - p3)) &&& 0x3f).toInt64.toUInt64).toInt64) &&& (127 : Int64)).toInt32))] [])) _
          refine XS.iload X0.here hx rfl (hb hby d3_46) rfl ?_
          show Steps p.tables e below (s₁.setTop (mkF m 48 #[.val (.ref a1), .val (.int p2), .val (.int p3), .val (.int p4), .val (.long q5), .second, .val (.int p6), .val (.int (p2 - p3)), .unset, .val (.int ((((q5.toUInt64 >>> (((7 : Int32) * (p2 - p3)) &&& 0x3f).toInt64.toUInt64).toInt64) &&& (127 : Int64)).toInt32))] [(.int ((((q5.toUInt64 >>> (((7 : Int32) * (p2 - p3)) &&& 0x3f).toInt64.toUInt64).toInt64) &&& (127 : Int64)).toInt32))])) _
          refine XS.sipush X0.here hx rfl (hb hby d3_48) ?_
          show Steps p.tables e below (s₁.setTop (mkF m 51 #[.val (.ref a1), .val (.int p2), .val (.int p3), .val (.int p4), .val (.long q5), .second, .val (.int p6), .val (.int (p2 - p3)), .unset, .val (.int ((((q5.toUInt64 >>> (((7 : Int32) * (p2 - p3)) &&& 0x3f).toInt64.toUInt64).toInt64) &&& (127 : Int64)).toInt32))] [(.int (128 : Int32)), (.int ((((q5.toUInt64 >>> (((7 : Int32) * (p2 - p3)) &&& 0x3f).toInt64.toUInt64).toInt64) &&& (127 : Int64)).toInt32))])) _
          refine XS.ior X0.here hx rfl (hb hby d3_51) rfl ?_
          show Steps p.tables e below (s₁.setTop (mkF m 52 #[.val (.ref a1), .val (.int p2), .val (.int p3), .val (.int p4), .val (.long q5), .second, .val (.int p6), .val (.int (p2 - p3)), .unset, .val (.int ((((q5.toUInt64 >>> (((7 : Int32) * (p2 - p3)) &&& 0x3f).toInt64.toUInt64).toInt64) &&& (127 : Int64)).toInt32))] [(.int (((((q5.toUInt64 >>> (((7 : Int32) * (p2 - p3)) &&& 0x3f).toInt64.toUInt64).toInt64) &&& (127 : Int64)).toInt32) ||| (128 : Int32)))])) _
          refine XS.istore X0.here hx rfl (hb hby d3_52) rfl (l' := #[.val (.ref a1), .val (.int p2), .val (.int p3), .val (.int p4), .val (.long q5), .second, .val (.int p6), .val (.int (p2 - p3)), .val (.int (((((q5.toUInt64 >>> (((7 : Int32) * (p2 - p3)) &&& 0x3f).toInt64.toUInt64).toInt64) &&& (127 : Int64)).toInt32) ||| (128 : Int32))), .val (.int ((((q5.toUInt64 >>> (((7 : Int32) * (p2 - p3)) &&& 0x3f).toInt64.toUInt64).toInt64) &&& (127 : Int64)).toInt32))]) rfl ?_
          show Steps p.tables e below (s₁.setTop (mkF m 54 #[.val (.ref a1), .val (.int p2), .val (.int p3), .val (.int p4), .val (.long q5), .second, .val (.int p6), .val (.int (p2 - p3)), .val (.int (((((q5.toUInt64 >>> (((7 : Int32) * (p2 - p3)) &&& 0x3f).toInt64.toUInt64).toInt64) &&& (127 : Int64)).toInt32) ||| (128 : Int32))), .val (.int ((((q5.toUInt64 >>> (((7 : Int32) * (p2 - p3)) &&& 0x3f).toInt64.toUInt64).toInt64) &&& (127 : Int64)).toInt32))] [])) _
          refine XS.goto X0.here hx rfl (pc0 := 54) (pc' := 61) rfl (hb hby d3_54) (by decide) (by decide) ?_
          show Steps p.tables e below (s₁.setTop (mkF m 61 #[.val (.ref a1), .val (.int p2), .val (.int p3), .val (.int p4), .val (.long q5), .second, .val (.int p6), .val (.int (p2 - p3)), .val (.int (((((q5.toUInt64 >>> (((7 : Int32) * (p2 - p3)) &&& 0x3f).toInt64.toUInt64).toInt64) &&& (127 : Int64)).toInt32) ||| (128 : Int32))), .val (.int ((((q5.toUInt64 >>> (((7 : Int32) * (p2 - p3)) &&& 0x3f).toInt64.toUInt64).toInt64) &&& (127 : Int64)).toInt32))] [])) _
          exact kt
        · have qz61_18 : z61_18 = ((((q5.toUInt64 >>> (((7 : Int32) * (p2 - p3)) &&& 0x3f).toInt64.toUInt64).toInt64) &&& (127 : Int64)).toInt32) := by rw [hz61_18, if_neg hc43_17]
          rw [qz61_18] at kt
          refine XS.icmpYes X0.here hx rfl (pc0 := 43) (pc' := 57) rfl (hb hby d3_43) rfl (flt hc43_17).2.1 (by decide) (by decide) ?_
          show Steps p.tables e below (s₁.setTop (mkF m 57 #[.val (.ref a1), .val (.int p2), .val (.int p3), .val (.int p4), .val (.long q5), .second, .val (.int p6), .val (.int (p2 - p3)), .unset, .val (.int ((((q5.toUInt64 >>> (((7 : Int32) * (p2 - p3)) &&& 0x3f).toInt64.toUInt64).toInt64) &&& (127 : Int64)).toInt32))] [])) _
          refine XS.iload X0.here hx rfl (hb hby d3_57) rfl ?_
          show Steps p.tables e below (s₁.setTop (mkF m 59 #[.val (.ref a1), .val (.int p2), .val (.int p3), .val (.int p4), .val (.long q5), .second, .val (.int p6), .val (.int (p2 - p3)), .unset, .val (.int ((((q5.toUInt64 >>> (((7 : Int32) * (p2 - p3)) &&& 0x3f).toInt64.toUInt64).toInt64) &&& (127 : Int64)).toInt32))] [(.int ((((q5.toUInt64 >>> (((7 : Int32) * (p2 - p3)) &&& 0x3f).toInt64.toUInt64).toInt64) &&& (127 : Int64)).toInt32))])) _
          refine XS.istore X0.here hx rfl (hb hby d3_59) rfl (l' := #[.val (.ref a1), .val (.int p2), .val (.int p3), .val (.int p4), .val (.long q5), .second, .val (.int p6), .val (.int (p2 - p3)), .val (.int ((((q5.toUInt64 >>> (((7 : Int32) * (p2 - p3)) &&& 0x3f).toInt64.toUInt64).toInt64) &&& (127 : Int64)).toInt32)), .val (.int ((((q5.toUInt64 >>> (((7 : Int32) * (p2 - p3)) &&& 0x3f).toInt64.toUInt64).toInt64) &&& (127 : Int64)).toInt32))]) rfl ?_
          show Steps p.tables e below (s₁.setTop (mkF m 61 #[.val (.ref a1), .val (.int p2), .val (.int p3), .val (.int p4), .val (.long q5), .second, .val (.int p6), .val (.int (p2 - p3)), .val (.int ((((q5.toUInt64 >>> (((7 : Int32) * (p2 - p3)) &&& 0x3f).toInt64.toUInt64).toInt64) &&& (127 : Int64)).toInt32)), .val (.int ((((q5.toUInt64 >>> (((7 : Int32) * (p2 - p3)) &&& 0x3f).toInt64.toUInt64).toInt64) &&& (127 : Int64)).toInt32))] [])) _
          exact kt
      refine OwnG.st dj19 ?_
      have sg20 : ∀ tgt, Steps p.tables e below (s₁.setTop (mkF m 67 #[.val (.ref a1), .val (.int p2), .val (.int p3), .val (.int p4), .val (.long q5), .second, .val (.int p6), .val (.int (p2 - p3)), .val (.int z61_18), .val (.int ((((q5.toUInt64 >>> (((7 : Int32) * (p2 - p3)) &&& 0x3f).toInt64.toUInt64).toInt64) &&& (127 : Int64)).toInt32))] [(.int (z61_18.toInt8.toInt32)), (.int (g_a1 p2.toInt.toNat))])) tgt → Steps p.tables e below (s₁.setTop (mkF m 61 #[.val (.ref a1), .val (.int p2), .val (.int p3), .val (.int p4), .val (.long q5), .second, .val (.int p6), .val (.int (p2 - p3)), .val (.int z61_18), .val (.int ((((q5.toUInt64 >>> (((7 : Int32) * (p2 - p3)) &&& 0x3f).toInt64.toUInt64).toInt64) &&& (127 : Int64)).toInt32))] [])) tgt := by
        intro tgt kt
        refine XS.aloadN X0.here hx rfl (hb hby d3_61) rfl rfl ?_
        show Steps p.tables e below (s₁.setTop (mkF m 62 #[.val (.ref a1), .val (.int p2), .val (.int p3), .val (.int p4), .val (.long q5), .second, .val (.int p6), .val (.int (p2 - p3)), .val (.int z61_18), .val (.int ((((q5.toUInt64 >>> (((7 : Int32) * (p2 - p3)) &&& 0x3f).toInt64.toUInt64).toInt64) &&& (127 : Int64)).toInt32))] [(.ref a1)])) _
        refine XS.iloadN X0.here hx rfl (hb hby d3_62) rfl ?_
        show Steps p.tables e below (s₁.setTop (mkF m 63 #[.val (.ref a1), .val (.int p2), .val (.int p3), .val (.int p4), .val (.long q5), .second, .val (.int p6), .val (.int (p2 - p3)), .val (.int z61_18), .val (.int ((((q5.toUInt64 >>> (((7 : Int32) * (p2 - p3)) &&& 0x3f).toInt64.toUInt64).toInt64) &&& (127 : Int64)).toInt32))] [(.int p2), (.ref a1)])) _
        refine own_ldB A_a1 X0 hx hZ e0 hs0 hs1 (gf := (mkF m 63 #[.val (.ref a1), .val (.int p2), .val (.int p3), .val (.int p4), .val (.long q5), .second, .val (.int p6), .val (.int (p2 - p3)), .val (.int z61_18), .val (.int ((((q5.toUInt64 >>> (((7 : Int32) * (p2 - p3)) &&& 0x3f).toInt64.toUInt64).toInt64) &&& (127 : Int64)).toInt32))] [(.int p2), (.ref a1)])) rfl rfl (hb hby d3_63) _ ?_
        show Steps p.tables e below (s₁.setTop (mkF m 64 #[.val (.ref a1), .val (.int p2), .val (.int p3), .val (.int p4), .val (.long q5), .second, .val (.int p6), .val (.int (p2 - p3)), .val (.int z61_18), .val (.int ((((q5.toUInt64 >>> (((7 : Int32) * (p2 - p3)) &&& 0x3f).toInt64.toUInt64).toInt64) &&& (127 : Int64)).toInt32))] [(.int (g_a1 p2.toInt.toNat))])) _
        refine XS.iload X0.here hx rfl (hb hby d3_64) rfl ?_
        show Steps p.tables e below (s₁.setTop (mkF m 66 #[.val (.ref a1), .val (.int p2), .val (.int p3), .val (.int p4), .val (.long q5), .second, .val (.int p6), .val (.int (p2 - p3)), .val (.int z61_18), .val (.int ((((q5.toUInt64 >>> (((7 : Int32) * (p2 - p3)) &&& 0x3f).toInt64.toUInt64).toInt64) &&& (127 : Int64)).toInt32))] [(.int z61_18), (.int (g_a1 p2.toInt.toNat))])) _
        refine XS.i2b X0.here hx rfl (hb hby d3_66) rfl ?_
        show Steps p.tables e below (s₁.setTop (mkF m 67 #[.val (.ref a1), .val (.int p2), .val (.int p3), .val (.int p4), .val (.long q5), .second, .val (.int p6), .val (.int (p2 - p3)), .val (.int z61_18), .val (.int ((((q5.toUInt64 >>> (((7 : Int32) * (p2 - p3)) &&& 0x3f).toInt64.toUInt64).toInt64) &&& (127 : Int64)).toInt32))] [(.int (z61_18.toInt8.toInt32)), (.int (g_a1 p2.toInt.toNat))])) _
        exact kt
      refine OwnG.st sg20 ?_
      by_cases hc67_21 : (g_a1 p2.toInt.toNat) = (z61_18.toInt8.toInt32)
      · have sg22 : ∀ tgt, Steps p.tables e below (s₁.setTop (mkF m 75 #[.val (.ref a1), .val (.int p2), .val (.int p3), .val (.int p4), .val (.long q5), .second, .val (.int p6), .val (.int (p2 - p3)), .val (.int z61_18), .val (.int ((((q5.toUInt64 >>> (((7 : Int32) * (p2 - p3)) &&& 0x3f).toInt64.toUInt64).toInt64) &&& (127 : Int64)).toInt32))] [(.int (1 : Int32))])) tgt → Steps p.tables e below (s₁.setTop (mkF m 67 #[.val (.ref a1), .val (.int p2), .val (.int p3), .val (.int p4), .val (.long q5), .second, .val (.int p6), .val (.int (p2 - p3)), .val (.int z61_18), .val (.int ((((q5.toUInt64 >>> (((7 : Int32) * (p2 - p3)) &&& 0x3f).toInt64.toUInt64).toInt64) &&& (127 : Int64)).toInt32))] [(.int (z61_18.toInt8.toInt32)), (.int (g_a1 p2.toInt.toNat))])) tgt := by
          intro tgt kt
          refine XS.icmpNo X0.here hx rfl (hb hby d3_67) rfl (teq hc67_21).2 ?_
          show Steps p.tables e below (s₁.setTop (mkF m 70 #[.val (.ref a1), .val (.int p2), .val (.int p3), .val (.int p4), .val (.long q5), .second, .val (.int p6), .val (.int (p2 - p3)), .val (.int z61_18), .val (.int ((((q5.toUInt64 >>> (((7 : Int32) * (p2 - p3)) &&& 0x3f).toInt64.toUInt64).toInt64) &&& (127 : Int64)).toInt32))] [])) _
          refine XS.iconst X0.here hx rfl (hb hby d3_70) ?_
          show Steps p.tables e below (s₁.setTop (mkF m 71 #[.val (.ref a1), .val (.int p2), .val (.int p3), .val (.int p4), .val (.long q5), .second, .val (.int p6), .val (.int (p2 - p3)), .val (.int z61_18), .val (.int ((((q5.toUInt64 >>> (((7 : Int32) * (p2 - p3)) &&& 0x3f).toInt64.toUInt64).toInt64) &&& (127 : Int64)).toInt32))] [(.int (1 : Int32))])) _
          refine XS.goto X0.here hx rfl (pc0 := 71) (pc' := 75) rfl (hb hby d3_71) (by decide) (by decide) ?_
          show Steps p.tables e below (s₁.setTop (mkF m 75 #[.val (.ref a1), .val (.int p2), .val (.int p3), .val (.int p4), .val (.long q5), .second, .val (.int p6), .val (.int (p2 - p3)), .val (.int z61_18), .val (.int ((((q5.toUInt64 >>> (((7 : Int32) * (p2 - p3)) &&& 0x3f).toInt64.toUInt64).toInt64) &&& (127 : Int64)).toInt32))] [(.int (1 : Int32))])) _
          exact kt
        refine OwnG.st sg22 ?_
        have hv : (1 : Int32) = F3 p2 p3 p4 q5 p6 g_a1 := by subst hz61_18; simp only [F3, if_neg hc7_6, if_pos hc13_15, if_pos hc67_21]
        exact OwnG.retN X0 hx (t := .boolean) (by simp) Bd.returns (BodyLoose.notSynchronized Bd) (hb hby d3_75) ⟨congrArg (fun w => some (Value.int w)) ((show nar .boolean (1 : Int32) = (1 : Int32) from rfl).trans hv), N0, e0⟩ (by decide) (by decide)
      · have sg23 : ∀ tgt, Steps p.tables e below (s₁.setTop (mkF m 75 #[.val (.ref a1), .val (.int p2), .val (.int p3), .val (.int p4), .val (.long q5), .second, .val (.int p6), .val (.int (p2 - p3)), .val (.int z61_18), .val (.int ((((q5.toUInt64 >>> (((7 : Int32) * (p2 - p3)) &&& 0x3f).toInt64.toUInt64).toInt64) &&& (127 : Int64)).toInt32))] [(.int (0 : Int32))])) tgt → Steps p.tables e below (s₁.setTop (mkF m 67 #[.val (.ref a1), .val (.int p2), .val (.int p3), .val (.int p4), .val (.long q5), .second, .val (.int p6), .val (.int (p2 - p3)), .val (.int z61_18), .val (.int ((((q5.toUInt64 >>> (((7 : Int32) * (p2 - p3)) &&& 0x3f).toInt64.toUInt64).toInt64) &&& (127 : Int64)).toInt32))] [(.int (z61_18.toInt8.toInt32)), (.int (g_a1 p2.toInt.toNat))])) tgt := by
          intro tgt kt
          refine XS.icmpYes X0.here hx rfl (pc0 := 67) (pc' := 74) rfl (hb hby d3_67) rfl (feq hc67_21).2 (by decide) (by decide) ?_
          show Steps p.tables e below (s₁.setTop (mkF m 74 #[.val (.ref a1), .val (.int p2), .val (.int p3), .val (.int p4), .val (.long q5), .second, .val (.int p6), .val (.int (p2 - p3)), .val (.int z61_18), .val (.int ((((q5.toUInt64 >>> (((7 : Int32) * (p2 - p3)) &&& 0x3f).toInt64.toUInt64).toInt64) &&& (127 : Int64)).toInt32))] [])) _
          refine XS.iconst X0.here hx rfl (hb hby d3_74) ?_
          show Steps p.tables e below (s₁.setTop (mkF m 75 #[.val (.ref a1), .val (.int p2), .val (.int p3), .val (.int p4), .val (.long q5), .second, .val (.int p6), .val (.int (p2 - p3)), .val (.int z61_18), .val (.int ((((q5.toUInt64 >>> (((7 : Int32) * (p2 - p3)) &&& 0x3f).toInt64.toUInt64).toInt64) &&& (127 : Int64)).toInt32))] [(.int (0 : Int32))])) _
          exact kt
        refine OwnG.st sg23 ?_
        have hv : (0 : Int32) = F3 p2 p3 p4 q5 p6 g_a1 := by subst hz61_18; simp only [F3, if_neg hc7_6, if_pos hc13_15, if_neg hc67_21]
        exact OwnG.retN X0 hx (t := .boolean) (by simp) Bd.returns (BodyLoose.notSynchronized Bd) (hb hby d3_75) ⟨congrArg (fun w => some (Value.int w)) ((show nar .boolean (0 : Int32) = (0 : Int32) from rfl).trans hv), N0, e0⟩ (by decide) (by decide)
    · have sg24 : ∀ tgt, Steps p.tables e below (s₁.setTop (mkF m 67 #[.val (.ref a1), .val (.int p2), .val (.int p3), .val (.int p4), .val (.long q5), .second, .val (.int p6), .val (.int (p2 - p3)), .val (.int p6), .unset] [(.int (p6.toInt8.toInt32)), (.int (g_a1 p2.toInt.toNat))])) tgt → Steps p.tables e below (s₁.setTop (mkF m 13 #[.val (.ref a1), .val (.int p2), .val (.int p3), .val (.int p4), .val (.long q5), .second, .val (.int p6), .val (.int (p2 - p3)), .unset, .unset] [(.int p4), (.int (p2 - p3))])) tgt := by
        intro tgt kt
        refine XS.icmpNo X0.here hx rfl (hb hby d3_13) rfl (flt hc13_15).1 ?_
        show Steps p.tables e below (s₁.setTop (mkF m 16 #[.val (.ref a1), .val (.int p2), .val (.int p3), .val (.int p4), .val (.long q5), .second, .val (.int p6), .val (.int (p2 - p3)), .unset, .unset] [])) _
        refine XS.iload X0.here hx rfl (hb hby d3_16) rfl ?_
        show Steps p.tables e below (s₁.setTop (mkF m 18 #[.val (.ref a1), .val (.int p2), .val (.int p3), .val (.int p4), .val (.long q5), .second, .val (.int p6), .val (.int (p2 - p3)), .unset, .unset] [(.int p6)])) _
        refine XS.istore X0.here hx rfl (hb hby d3_18) rfl (l' := #[.val (.ref a1), .val (.int p2), .val (.int p3), .val (.int p4), .val (.long q5), .second, .val (.int p6), .val (.int (p2 - p3)), .val (.int p6), .unset]) rfl ?_
        show Steps p.tables e below (s₁.setTop (mkF m 20 #[.val (.ref a1), .val (.int p2), .val (.int p3), .val (.int p4), .val (.long q5), .second, .val (.int p6), .val (.int (p2 - p3)), .val (.int p6), .unset] [])) _
        refine XS.goto X0.here hx rfl (pc0 := 20) (pc' := 61) rfl (hb hby d3_20) (by decide) (by decide) ?_
        show Steps p.tables e below (s₁.setTop (mkF m 61 #[.val (.ref a1), .val (.int p2), .val (.int p3), .val (.int p4), .val (.long q5), .second, .val (.int p6), .val (.int (p2 - p3)), .val (.int p6), .unset] [])) _
        refine XS.aloadN X0.here hx rfl (hb hby d3_61) rfl rfl ?_
        show Steps p.tables e below (s₁.setTop (mkF m 62 #[.val (.ref a1), .val (.int p2), .val (.int p3), .val (.int p4), .val (.long q5), .second, .val (.int p6), .val (.int (p2 - p3)), .val (.int p6), .unset] [(.ref a1)])) _
        refine XS.iloadN X0.here hx rfl (hb hby d3_62) rfl ?_
        show Steps p.tables e below (s₁.setTop (mkF m 63 #[.val (.ref a1), .val (.int p2), .val (.int p3), .val (.int p4), .val (.long q5), .second, .val (.int p6), .val (.int (p2 - p3)), .val (.int p6), .unset] [(.int p2), (.ref a1)])) _
        refine own_ldB A_a1 X0 hx hZ e0 hs0 hs1 (gf := (mkF m 63 #[.val (.ref a1), .val (.int p2), .val (.int p3), .val (.int p4), .val (.long q5), .second, .val (.int p6), .val (.int (p2 - p3)), .val (.int p6), .unset] [(.int p2), (.ref a1)])) rfl rfl (hb hby d3_63) _ ?_
        show Steps p.tables e below (s₁.setTop (mkF m 64 #[.val (.ref a1), .val (.int p2), .val (.int p3), .val (.int p4), .val (.long q5), .second, .val (.int p6), .val (.int (p2 - p3)), .val (.int p6), .unset] [(.int (g_a1 p2.toInt.toNat))])) _
        refine XS.iload X0.here hx rfl (hb hby d3_64) rfl ?_
        show Steps p.tables e below (s₁.setTop (mkF m 66 #[.val (.ref a1), .val (.int p2), .val (.int p3), .val (.int p4), .val (.long q5), .second, .val (.int p6), .val (.int (p2 - p3)), .val (.int p6), .unset] [(.int p6), (.int (g_a1 p2.toInt.toNat))])) _
        refine XS.i2b X0.here hx rfl (hb hby d3_66) rfl ?_
        show Steps p.tables e below (s₁.setTop (mkF m 67 #[.val (.ref a1), .val (.int p2), .val (.int p3), .val (.int p4), .val (.long q5), .second, .val (.int p6), .val (.int (p2 - p3)), .val (.int p6), .unset] [(.int (p6.toInt8.toInt32)), (.int (g_a1 p2.toInt.toNat))])) _
        exact kt
      refine OwnG.st sg24 ?_
      by_cases hc67_25 : (g_a1 p2.toInt.toNat) = (p6.toInt8.toInt32)
      · have sg26 : ∀ tgt, Steps p.tables e below (s₁.setTop (mkF m 75 #[.val (.ref a1), .val (.int p2), .val (.int p3), .val (.int p4), .val (.long q5), .second, .val (.int p6), .val (.int (p2 - p3)), .val (.int p6), .unset] [(.int (1 : Int32))])) tgt → Steps p.tables e below (s₁.setTop (mkF m 67 #[.val (.ref a1), .val (.int p2), .val (.int p3), .val (.int p4), .val (.long q5), .second, .val (.int p6), .val (.int (p2 - p3)), .val (.int p6), .unset] [(.int (p6.toInt8.toInt32)), (.int (g_a1 p2.toInt.toNat))])) tgt := by
          intro tgt kt
          refine XS.icmpNo X0.here hx rfl (hb hby d3_67) rfl (teq hc67_25).2 ?_
          show Steps p.tables e below (s₁.setTop (mkF m 70 #[.val (.ref a1), .val (.int p2), .val (.int p3), .val (.int p4), .val (.long q5), .second, .val (.int p6), .val (.int (p2 - p3)), .val (.int p6), .unset] [])) _
          refine XS.iconst X0.here hx rfl (hb hby d3_70) ?_
          show Steps p.tables e below (s₁.setTop (mkF m 71 #[.val (.ref a1), .val (.int p2), .val (.int p3), .val (.int p4), .val (.long q5), .second, .val (.int p6), .val (.int (p2 - p3)), .val (.int p6), .unset] [(.int (1 : Int32))])) _
          refine XS.goto X0.here hx rfl (pc0 := 71) (pc' := 75) rfl (hb hby d3_71) (by decide) (by decide) ?_
          show Steps p.tables e below (s₁.setTop (mkF m 75 #[.val (.ref a1), .val (.int p2), .val (.int p3), .val (.int p4), .val (.long q5), .second, .val (.int p6), .val (.int (p2 - p3)), .val (.int p6), .unset] [(.int (1 : Int32))])) _
          exact kt
        refine OwnG.st sg26 ?_
        have hv : (1 : Int32) = F3 p2 p3 p4 q5 p6 g_a1 := by simp only [F3, if_neg hc7_6, if_neg hc13_15, if_pos hc67_25]
        exact OwnG.retN X0 hx (t := .boolean) (by simp) Bd.returns (BodyLoose.notSynchronized Bd) (hb hby d3_75) ⟨congrArg (fun w => some (Value.int w)) ((show nar .boolean (1 : Int32) = (1 : Int32) from rfl).trans hv), N0, e0⟩ (by decide) (by decide)
      · have sg27 : ∀ tgt, Steps p.tables e below (s₁.setTop (mkF m 75 #[.val (.ref a1), .val (.int p2), .val (.int p3), .val (.int p4), .val (.long q5), .second, .val (.int p6), .val (.int (p2 - p3)), .val (.int p6), .unset] [(.int (0 : Int32))])) tgt → Steps p.tables e below (s₁.setTop (mkF m 67 #[.val (.ref a1), .val (.int p2), .val (.int p3), .val (.int p4), .val (.long q5), .second, .val (.int p6), .val (.int (p2 - p3)), .val (.int p6), .unset] [(.int (p6.toInt8.toInt32)), (.int (g_a1 p2.toInt.toNat))])) tgt := by
          intro tgt kt
          refine XS.icmpYes X0.here hx rfl (pc0 := 67) (pc' := 74) rfl (hb hby d3_67) rfl (feq hc67_25).2 (by decide) (by decide) ?_
          show Steps p.tables e below (s₁.setTop (mkF m 74 #[.val (.ref a1), .val (.int p2), .val (.int p3), .val (.int p4), .val (.long q5), .second, .val (.int p6), .val (.int (p2 - p3)), .val (.int p6), .unset] [])) _
          refine XS.iconst X0.here hx rfl (hb hby d3_74) ?_
          show Steps p.tables e below (s₁.setTop (mkF m 75 #[.val (.ref a1), .val (.int p2), .val (.int p3), .val (.int p4), .val (.long q5), .second, .val (.int p6), .val (.int (p2 - p3)), .val (.int p6), .unset] [(.int (0 : Int32))])) _
          exact kt
        refine OwnG.st sg27 ?_
        have hv : (0 : Int32) = F3 p2 p3 p4 q5 p6 g_a1 := by simp only [F3, if_neg hc7_6, if_neg hc13_15, if_neg hc67_25]
        exact OwnG.retN X0 hx (t := .boolean) (by simp) Bd.returns (BodyLoose.notSynchronized Bd) (hb hby d3_75) ⟨congrArg (fun w => some (Value.int w)) ((show nar .boolean (0 : Int32) = (0 : Int32) from rfl).trans hv), N0, e0⟩ (by decide) (by decide)
theorem own_rb (v : Int64) : ∀ j, j ≤ 9 → (own_rs v j).toBitVec = v.toBitVec >>> (7 * j) := by
  intro j
  induction j with
  | zero => intro _; show v.toBitVec = v.toBitVec >>> 0; rw [BitVec.ushiftRight_zero]
  | succ j ih =>
    intro hj
    rw [own_rss, own_lushr _ 7 7 (by decide), ih (by omega), ← BitVec.shiftRight_add]; rfl
theorem own_rp (v : Int64) (hv : 0 ≤ v.toInt) : ∀ j, 0 ≤ (own_rs v j).toInt ∧ (own_rs v (j + 1)).toInt = (own_rs v j).toInt / 128 := by
  intro j
  have key : ∀ j, 0 ≤ (own_rs v j).toInt := by
    intro j
    induction j with
    | zero => exact hv
    | succ j ih =>
      rw [own_rss, c_lushr _ 7 7 (by decide) (by decide)]
      exact Int.ediv_nonneg (by omega) (by decide)
  refine ⟨key j, ?_⟩
  have h := c_lushr (own_rs v j) 7 7 (by decide) (by decide)
  have r := rng64 (own_rs v j)
  have q := key j
  rw [← own_rss] at h
  omega
theorem own_cnt (v : Int64) (hv : 0 ≤ v.toInt) : (1 ≤ (F1 v).toInt.toNat ∧ (F1 v).toInt.toNat ≤ 9) ∧ (∀ j, j + 1 < (F1 v).toInt.toNat → ¬ own_rs v j < (128 : Int64)) ∧ own_rs v ((F1 v).toInt.toNat - 1) < (128 : Int64) := by
  have r0 : own_rs v 0 = v := rfl
  have q0 : (own_rs v 0).toInt = v.toInt := rfl
  have q1 : (own_rs v 1).toInt = v.toInt / 128 := by
    have a : (own_rs v 1).toInt = (own_rs v 0).toInt / 128 := (own_rp v hv 0).2
    omega
  have q2 : (own_rs v 2).toInt = v.toInt / 16384 := by
    have a : (own_rs v 2).toInt = (own_rs v 1).toInt / 128 := (own_rp v hv 1).2
    omega
  have q3 : (own_rs v 3).toInt = v.toInt / 2097152 := by
    have a : (own_rs v 3).toInt = (own_rs v 2).toInt / 128 := (own_rp v hv 2).2
    omega
  have q4 : (own_rs v 4).toInt = v.toInt / 268435456 := by
    have a : (own_rs v 4).toInt = (own_rs v 3).toInt / 128 := (own_rp v hv 3).2
    omega
  have q5 : (own_rs v 5).toInt = v.toInt / 34359738368 := by
    have a : (own_rs v 5).toInt = (own_rs v 4).toInt / 128 := (own_rp v hv 4).2
    omega
  have q6 : (own_rs v 6).toInt = v.toInt / 4398046511104 := by
    have a : (own_rs v 6).toInt = (own_rs v 5).toInt / 128 := (own_rp v hv 5).2
    omega
  have q7 : (own_rs v 7).toInt = v.toInt / 562949953421312 := by
    have a : (own_rs v 7).toInt = (own_rs v 6).toInt / 128 := (own_rp v hv 6).2
    omega
  have q8 : (own_rs v 8).toInt = v.toInt / 72057594037927936 := by
    have a : (own_rs v 8).toInt = (own_rs v 7).toInt / 128 := (own_rp v hv 7).2
    omega
  have q9 : (own_rs v 9).toInt = v.toInt / 9223372036854775808 := by
    have a : (own_rs v 9).toInt = (own_rs v 8).toInt / 128 := (own_rp v hv 8).2
    omega
  have rv := rng64 v
  have e0 : (128 : Int64).toInt = 128 := rfl
  have e1 : (16384 : Int64).toInt = 16384 := rfl
  have e2 : (2097152 : Int64).toInt = 2097152 := rfl
  have e3 : (268435456 : Int64).toInt = 268435456 := rfl
  have e4 : (34359738368 : Int64).toInt = 34359738368 := rfl
  have e5 : (4398046511104 : Int64).toInt = 4398046511104 := rfl
  have e6 : (562949953421312 : Int64).toInt = 562949953421312 := rfl
  have e7 : (72057594037927936 : Int64).toInt = 72057594037927936 := rfl
  have fin : ∀ M : Nat, 1 ≤ M → M ≤ 9 → (∀ j, j + 1 < M → 128 ≤ (own_rs v j).toInt) → (own_rs v (M - 1)).toInt < 128 → (1 ≤ M ∧ M ≤ 9) ∧ (∀ j, j + 1 < M → ¬ own_rs v j < (128 : Int64)) ∧ own_rs v (M - 1) < (128 : Int64) := by
    intro M h1 h2 h3 h4
    refine ⟨⟨h1, h2⟩, fun j hj => ?_, ?_⟩
    · rw [Int64.lt_iff_toInt_lt]; have := h3 j hj; omega
    · rw [Int64.lt_iff_toInt_lt]; omega
  unfold F1
  by_cases c0 : v < 128
  · rw [if_pos c0]; rw [Int64.lt_iff_toInt_lt] at c0
    exact fin 1 (by decide) (by decide) (fun j hj => absurd hj (by omega)) (by show (own_rs v 0).toInt < 128; omega)
  rw [if_neg c0]; rw [Int64.lt_iff_toInt_lt] at c0
  by_cases c1 : v < 16384
  · rw [if_pos c1]; rw [Int64.lt_iff_toInt_lt] at c1
    refine fin 2 (by decide) (by decide) (fun j hj => ?_) (by show (own_rs v 1).toInt < 128; omega)
    obtain rfl : j = 0 := by omega
    omega
  rw [if_neg c1]; rw [Int64.lt_iff_toInt_lt] at c1
  by_cases c2 : v < 2097152
  · rw [if_pos c2]; rw [Int64.lt_iff_toInt_lt] at c2
    refine fin 3 (by decide) (by decide) (fun j hj => ?_) (by show (own_rs v 2).toInt < 128; omega)
    rcases (by omega : j = 0 ∨ j = 1) with rfl | rfl <;> omega
  rw [if_neg c2]; rw [Int64.lt_iff_toInt_lt] at c2
  by_cases c3 : v < 268435456
  · rw [if_pos c3]; rw [Int64.lt_iff_toInt_lt] at c3
    refine fin 4 (by decide) (by decide) (fun j hj => ?_) (by show (own_rs v 3).toInt < 128; omega)
    rcases (by omega : j = 0 ∨ j = 1 ∨ j = 2) with rfl | rfl | rfl <;> omega
  rw [if_neg c3]; rw [Int64.lt_iff_toInt_lt] at c3
  by_cases c4 : v < 34359738368
  · rw [if_pos c4]; rw [Int64.lt_iff_toInt_lt] at c4
    refine fin 5 (by decide) (by decide) (fun j hj => ?_) (by show (own_rs v 4).toInt < 128; omega)
    rcases (by omega : j = 0 ∨ j = 1 ∨ j = 2 ∨ j = 3) with rfl | rfl | rfl | rfl <;> omega
  rw [if_neg c4]; rw [Int64.lt_iff_toInt_lt] at c4
  by_cases c5 : v < 4398046511104
  · rw [if_pos c5]; rw [Int64.lt_iff_toInt_lt] at c5
    refine fin 6 (by decide) (by decide) (fun j hj => ?_) (by show (own_rs v 5).toInt < 128; omega)
    rcases (by omega : j = 0 ∨ j = 1 ∨ j = 2 ∨ j = 3 ∨ j = 4) with rfl | rfl | rfl | rfl | rfl <;> omega
  rw [if_neg c5]; rw [Int64.lt_iff_toInt_lt] at c5
  by_cases c6 : v < 562949953421312
  · rw [if_pos c6]; rw [Int64.lt_iff_toInt_lt] at c6
    refine fin 7 (by decide) (by decide) (fun j hj => ?_) (by show (own_rs v 6).toInt < 128; omega)
    rcases (by omega : j = 0 ∨ j = 1 ∨ j = 2 ∨ j = 3 ∨ j = 4 ∨ j = 5) with rfl | rfl | rfl | rfl | rfl | rfl <;> omega
  rw [if_neg c6]; rw [Int64.lt_iff_toInt_lt] at c6
  by_cases c7 : v < 72057594037927936
  · rw [if_pos c7]; rw [Int64.lt_iff_toInt_lt] at c7
    refine fin 8 (by decide) (by decide) (fun j hj => ?_) (by show (own_rs v 7).toInt < 128; omega)
    rcases (by omega : j = 0 ∨ j = 1 ∨ j = 2 ∨ j = 3 ∨ j = 4 ∨ j = 5 ∨ j = 6) with rfl | rfl | rfl | rfl | rfl | rfl | rfl <;> omega
  rw [if_neg c7]; rw [Int64.lt_iff_toInt_lt] at c7
  refine fin 9 (by decide) (by decide) (fun j hj => ?_) (by show (own_rs v 8).toInt < 128; omega)
  rcases (by omega : j = 0 ∨ j = 1 ∨ j = 2 ∨ j = 3 ∨ j = 4 ∨ j = 5 ∨ j = 6 ∨ j = 7) with rfl | rfl | rfl | rfl | rfl | rfl | rfl | rfl <;> omega
theorem own_cpos (v : Int64) (hv : 0 ≤ v.toInt) : (F1 v).toInt = ((F1 v).toInt.toNat : Int) := by
  have := (own_cnt v hv).1
  omega
theorem own_wat (g : Nat → Int32) (a : Nat) (v : Int64) : ∀ (j k : Nat), own_w g a v j k = if a ≤ k ∧ k < a + j then ((own_rs v (k - a) ||| (128 : Int64)).toInt32.toInt8.toInt32) else g k := by
  intro j
  induction j with
  | zero => intro k; rw [if_neg (by omega)]; rfl
  | succ j ih =>
    intro k
    show (if k = a + j then _ else own_w g a v j k) = _
    by_cases c : k = a + j
    · rw [if_pos c, if_pos (by omega), show k - a = j by omega]
    · rw [if_neg c, ih]
      by_cases d : a ≤ k ∧ k < a + j
      · rw [if_pos d, if_pos (by omega)]
      · rw [if_neg d, if_neg (by omega)]
theorem own_wfat (g : Nat → Int32) (a : Nat) (v : Int64) (M k : Nat) (hN : 1 ≤ M) : own_wf g a v M k = if a ≤ k ∧ k < a + M then (if k - a < M - 1 then ((own_rs v (k - a) ||| (128 : Int64)).toInt32.toInt8.toInt32) else ((own_rs v (k - a)).toInt32.toInt8.toInt32)) else g k := by
  show (if k = a + (M - 1) then _ else own_w g a v (M - 1) k) = _
  by_cases c : k = a + (M - 1)
  · rw [if_pos c, if_pos (by omega), if_neg (by omega), show k - a = M - 1 by omega]
  · rw [if_neg c, own_wat]
    by_cases d : a ≤ k ∧ k < a + (M - 1)
    · rw [if_pos d, if_pos (by omega), if_pos (by omega)]
    · rw [if_neg d, if_neg (by omega)]
theorem own_sh (v : Int64) (d : Int32) (j : Nat) (hd : d.toInt = j) (hj : j ≤ 8) : ((v.toUInt64 >>> (((7 : Int32) * d) &&& 0x3f).toInt64.toUInt64).toInt64) = own_rs v j := by
  have h := c_imul 7 d
  have r := rng32 (7 * d)
  have e7 : (7 : Int32).toInt = 7 := rfl
  rw [e7] at h
  have hm : (7 * d).toInt = ((7 * j : Nat) : Int) := by omega
  have hn : (7 * d).toBitVec.toNat = 7 * j := by
    have q : (7 * d).toBitVec.toInt = ((7 * j : Nat) : Int) := hm
    rw [BitVec.toInt_eq_toNat_cond] at q
    have := (7 * d).toBitVec.isLt
    split at q <;> omega
  apply Int64.toBitVec_inj.mp
  rw [own_lushr _ _ (7 * j) (by rw [hn]; omega), own_rb v j (by omega)]
theorem own_b8 (x y : Int32) (h : (x.toInt - y.toInt) % 256 = 0) : x.toInt8.toInt32 = y.toInt8.toInt32 := by
  have a := c_i2b x
  have b := c_i2b y
  rw [← Int32.toInt_inj]; omega
theorem own_hib (x : Int64) (hx : 0 ≤ x.toInt) : ((x ||| (128 : Int64)).toInt32.toInt8.toInt32) = ((((x &&& (127 : Int64)).toInt32) ||| (128 : Int32)).toInt8.toInt32) := by
  apply own_b8
  have a := c_maskL x 127 7 (by decide) (by decide)
  have b := c_l2i (x &&& (127 : Int64))
  have rb := rng32 (x &&& (127 : Int64)).toInt32
  have c := c_or' ((x &&& (127 : Int64)).toInt32) 128 7 (by decide) 128 (by decide) (by decide) (by omega) (by omega)
  have e128 : (128 : Int32).toInt = 128 := rfl
  have d := c_l2i (x ||| (128 : Int64))
  have key : (x ||| (128 : Int64)) &&& (255 : Int64) = (x &&& (127 : Int64)) ||| (128 : Int64) := by
    apply Int64.toBitVec_inj.mp
    rw [Int64.toBitVec_and, Int64.toBitVec_or, Int64.toBitVec_or, Int64.toBitVec_and]
    apply BitVec.eq_of_getLsbD_eq
    intro i hi
    have q1 : ∀ i : Fin 64, ((128 : Int64).toBitVec).getLsbD i.1 = decide (i.1 = 7) := by decide
    have q2 : ∀ i : Fin 64, ((255 : Int64).toBitVec).getLsbD i.1 = decide (i.1 < 8) := by decide
    have q3 : ∀ i : Fin 64, ((127 : Int64).toBitVec).getLsbD i.1 = decide (i.1 < 7) := by decide
    rw [BitVec.getLsbD_and, BitVec.getLsbD_or, BitVec.getLsbD_or, BitVec.getLsbD_and, q1 ⟨i, hi⟩, q2 ⟨i, hi⟩, q3 ⟨i, hi⟩]
    by_cases c7 : i = 7
    · subst c7; simp
    · by_cases c8 : i < 7
      · simp [c7, c8, show i < 8 by omega]
      · simp [c7, c8, show ¬ i < 8 by omega]
  have k1 := c_maskL (x ||| (128 : Int64)) 255 8 (by decide) (by decide)
  rw [key] at k1
  have k2 := c_orL' (x &&& (127 : Int64)) 128 7 (by decide) 128 (by decide) (by decide) (by omega) (by omega)
  have e128L : (128 : Int64).toInt = 128 := rfl
  have rk := rng64 ((x &&& (127 : Int64)) ||| (128 : Int64))
  omega
theorem own_lob (x : Int64) : (((x &&& (127 : Int64)).toInt32).toInt8.toInt32) = (x.toInt32.toInt8.toInt32) ∨ ¬ (0 ≤ x.toInt ∧ x.toInt < 128) := by
  by_cases h : 0 ≤ x.toInt ∧ x.toInt < 128
  · left
    apply own_b8
    have a := c_maskL x 127 7 (by decide) (by decide)
    have b := c_l2i (x &&& (127 : Int64))
    have c := c_l2i x
    omega
  · right; exact h
theorem own_okk (g : Nat → Int32) (a : Int32) (v : Int64) (fb k : Int32) (kk : Nat) (hk : k.toInt = kk) (hkk : kk < 16) (ha : 0 ≤ a.toInt ∧ a.toInt ≤ 7) (hv : 0 ≤ v.toInt) (hg : g kk = fb.toInt8.toInt32) : ¬ F3 k a (F1 v) v (fb.toInt8.toInt32) (own_wf g a.toInt.toNat v (F1 v).toInt.toNat) = (0 : Int32) := by
  have hc := own_cnt v hv
  have hp := own_cpos v hv
  obtain ⟨n, hn⟩ : ∃ n, n = F1 v := ⟨_, rfl⟩
  rw [← hn] at hc hp ⊢
  have d1 := c_isub k a
  have rd := rng32 (k - a)
  have n1 := c_isub n 1
  have e0 : (0 : Int32).toInt = 0 := rfl
  have e1 : (1 : Int32).toInt = 1 := rfl
  have rn := rng32 (n - 1)
  have hkn : k.toInt.toNat = kk := by omega
  have hd : (k - a).toInt = kk - a.toInt := by omega
  have hn1 : (n - 1).toInt = n.toInt - 1 := by omega
  have key : (if (k - a) < 0 then fb.toInt8.toInt32 else if (k - a) < n then (if (k - a) < (n - 1) then (((((v.toUInt64 >>> (((7 : Int32) * (k - a)) &&& 0x3f).toInt64.toUInt64).toInt64) &&& (127 : Int64)).toInt32) ||| (128 : Int32)) else ((((v.toUInt64 >>> (((7 : Int32) * (k - a)) &&& 0x3f).toInt64.toUInt64).toInt64) &&& (127 : Int64)).toInt32)) else fb.toInt8.toInt32).toInt8.toInt32 = own_wf g a.toInt.toNat v n.toInt.toNat kk := by
    rw [own_wfat _ _ _ _ _ hc.1.1]
    by_cases c : (k - a) < 0
    · rw [if_pos c]; rw [Int32.lt_iff_toInt_lt] at c
      rw [if_neg (by omega), hg, Int8.toInt8_toInt32]
    · rw [if_neg c]; rw [Int32.lt_iff_toInt_lt] at c
      by_cases d : (k - a) < n
      · rw [if_pos d]; rw [Int32.lt_iff_toInt_lt] at d
        have hs := own_sh v (k - a) (kk - a.toInt.toNat) (by omega) (by omega)
        rw [hs, if_pos (show a.toInt.toNat ≤ kk ∧ kk < a.toInt.toNat + n.toInt.toNat by omega)]
        have rp := (own_rp v hv (kk - a.toInt.toNat)).1
        by_cases e : (k - a) < (n - 1)
        · rw [if_pos e]; rw [Int32.lt_iff_toInt_lt] at e
          rw [if_pos (show kk - a.toInt.toNat < n.toInt.toNat - 1 by omega), own_hib _ rp]
        · rw [if_neg e]; rw [Int32.lt_iff_toInt_lt] at e
          rw [if_neg (show ¬ (kk - a.toInt.toNat < n.toInt.toNat - 1) by omega)]
          have lastv : own_rs v (kk - a.toInt.toNat) < (128 : Int64) := by rw [show kk - a.toInt.toNat = n.toInt.toNat - 1 by omega]; exact hc.2.2
          rw [Int64.lt_iff_toInt_lt] at lastv
          rcases own_lob (own_rs v (kk - a.toInt.toNat)) with q | q
          · exact q
          · exact absurd ⟨rp, lastv⟩ q
      · rw [if_neg d]; rw [Int32.lt_iff_toInt_lt] at d
        rw [if_neg (by omega), hg, Int8.toInt8_toInt32]
  have fin : F3 k a n v (fb.toInt8.toInt32) (own_wf g a.toInt.toNat v n.toInt.toNat) = 1 := by
    unfold F3
    rw [hkn]
    by_cases c : (k - a) < 0
    · rw [if_pos c] at key ⊢; rw [if_pos key.symm]
    · rw [if_neg c] at key ⊢
      by_cases d : (k - a) < n
      · rw [if_pos d] at key ⊢; rw [if_pos key.symm]
      · rw [if_neg d] at key ⊢; rw [if_pos key.symm]
  rw [fin]; decide
theorem own_a7 (x : Int32) : 0 ≤ (x &&& (7 : Int32)).toInt ∧ (x &&& (7 : Int32)).toInt ≤ 7 := by
  have h := c_mask x 7 3 (by decide) (by decide)
  omega
theorem own_rt (n : Int32) (h : 0 ≤ n.toInt) : Int32.ofNat n.toInt.toNat = n := Int32.ofNat_toNatClampNeg n (by rw [Int32.le_iff_toInt_le]; exact h)
theorem own_v (x : Int64) (s : Int32) : 0 ≤ (((x &&& (9223372036854775807 : Int64)).toUInt64 >>> ((s &&& (63 : Int32)) &&& 0x3f).toInt64.toUInt64).toInt64).toInt := by
  have h := c_maskL x 9223372036854775807 63 (by decide) (by decide)
  obtain ⟨y, hy⟩ : ∃ y, y = x &&& (9223372036854775807 : Int64) := ⟨_, rfl⟩
  rw [← hy] at h ⊢
  obtain ⟨q, hq⟩ : ∃ q, q = s &&& (63 : Int32) := ⟨_, rfl⟩
  rw [← hq]
  by_cases c : q.toBitVec.toNat % 64 = 0
  · have e := own_lushr y q 0 c
    rw [BitVec.ushiftRight_zero] at e
    rw [Int64.toBitVec_inj.mp e]; omega
  · rw [c_lushr y q _ rfl (by omega)]
    exact Int.ediv_nonneg (by omega) (Int.natCast_nonneg _)
theorem pn_0 : plainName "com/example/guessd/guessd/VarintsWritePinLaw" = true := by first | (simp [plainName, overriddenIn]; done) | decide +kernel
theorem pd_0_0 : parseMethodDescriptor "(J)I" = some ⟨[.long], some .int⟩ := by decide +kernel
theorem pd_0_1 : parseMethodDescriptor "([BIJ)I" = some ⟨[(.array .byte), .int, .long], some .int⟩ := by decide +kernel
theorem pd_0_2 : parseMethodDescriptor "([BIIIJB)Z" = some ⟨[(.array .byte), .int, .int, .int, .long, .byte], some .boolean⟩ := by decide +kernel
theorem ef_0 (m : MethodId) (q1 : Int64) (p2 : Int32) (p3 : Int32) (p4 : Int32) : entryFrame m #[(.long q1), (.int p2), (.int p3), (.int p4)] maxLocals = mkF m 0 #[.val (.long q1), .second, .val (.int p2), .val (.int p3), .val (.int p4), .unset, .unset, .unset, .unset, .unset, .unset, .unset] [] := by first | (simp [entryFrame, mkF, argsToLocals, Value.category, maxLocals]; done) | rfl
def Q0 (Z : State) (q1 : Int64) (p2 : Int32) (p3 : Int32) (p4 : Int32) (h0 : Heap) (n0 : Nat) (v : Option Value) (h : Heap) (L : List Loc) : Prop := v = some (.int 1) ∧ Fr n0 L
set_option maxRecDepth 65536 in
set_option maxHeartbeats 40000000 in
theorem rm0 (l : Launch) (Z : State) (a0 : Array Value) (hw : ∀ d ∈ tables_1, d.before a0 Z = true) (ws : List Jvm.Cond) (q1 : Int64) (p2 : Int32) (p3 : Int32) (p4 : Int32)  (h0 : Heap) (n0 : Nat) (Z0 : n0 ≤ h0.size)  :
    MetFree l x (head1 (Jvm.Cond.code x code maxLocals ret :: ws) room_1) (fun a U => a = #[(.long q1), (.int p2), (.int p3), (.int p4)] ∧ Z.Warmed39 U.vm ∧ U.heap = h0) (fun _ _ _ _ _ => True) (fun _ U o U' => ∃ v L, o = .returned v ∧ Q0 Z q1 p2 p3 p4 h0 n0 v U'.heap L ∧ FrameEnd U o U' L room_1.cells room_1.slots) := by
  refine MetFree.of_bodySF (plainFor_of_name pn_0) hisR ?_
  intro p e s m args below meth c s₁ Bd hml0 hP hK
  obtain ⟨rfl, hZ, hh⟩ := hP
  have hx := Bd.exec
  have hby := Bd.bytes
  have hml : c.maxLocals = 12 := hml0
  have hown : s.vm.findClass "com/example/guessd/guessd/VarintsWritePinLaw" = some m.cls := findClass_of_methodNamed Bd.named
  have hnm := (name_of_methodNamed Bd.named Bd.method).1
  have X0 : Stand p l e room_1 s m #[(.long q1), (.int p2), (.int p3), (.int p4)] below meth c s₁ [] 0 0 := Stand.of_body Bd
  have e0 : s₁.heap = h0 := by rw [← hh, Bd.state]; rfl
  have N0 := Fr.nil n0
  suffices hG : OwnG p e below s (Q0 Z q1 p2 p3 p4 h0 n0) room_1.cells room_1.slots s₁ (mkF m 0 #[.val (.long q1), .second, .val (.int p2), .val (.int p3), .val (.int p4), .unset, .unset, .unset, .unset, .unset, .unset, .unset] []) by
    obtain ⟨s2, o2, g1, g2⟩ := hG
    exact ⟨s2, o2, castTop (ef_0 m q1 p2 p3 p4) g1, g2⟩
  have sg1 : ∀ tgt, Steps p.tables e below (s₁.setTop (mkF m 12 #[.val (.long q1), .second, .val (.int p2), .val (.int p3), .val (.int p4), .val (.long (((q1 &&& (9223372036854775807 : Int64)).toUInt64 >>> ((p2 &&& (63 : Int32)) &&& 0x3f).toInt64.toUInt64).toInt64)), .second, .unset, .unset, .unset, .unset, .unset] [])) tgt → Steps p.tables e below (s₁.setTop (mkF m 0 #[.val (.long q1), .second, .val (.int p2), .val (.int p3), .val (.int p4), .unset, .unset, .unset, .unset, .unset, .unset, .unset] [])) tgt := by
    intro tgt kt
    refine XS.lloadN X0.here hx rfl (hb hby at_0) rfl ?_
    show Steps p.tables e below (s₁.setTop (mkF m 1 #[.val (.long q1), .second, .val (.int p2), .val (.int p3), .val (.int p4), .unset, .unset, .unset, .unset, .unset, .unset, .unset] [(.long q1)])) _
    refine X0.ldc2Long hx hown (mvT hZ (hw _ (List.mem_of_getElem? (i := 0) rfl))) (g := (mkF m 1 #[.val (.long q1), .second, .val (.int p2), .val (.int p3), .val (.int p4), .unset, .unset, .unset, .unset, .unset, .unset, .unset] [(.long q1)])) rfl (hb hby at_1) _ ?_
    show Steps p.tables e below (s₁.setTop (mkF m 4 #[.val (.long q1), .second, .val (.int p2), .val (.int p3), .val (.int p4), .unset, .unset, .unset, .unset, .unset, .unset, .unset] [(.long (9223372036854775807 : Int64)), (.long q1)])) _
    refine XS.land X0.here hx rfl (hb hby at_4) rfl ?_
    show Steps p.tables e below (s₁.setTop (mkF m 5 #[.val (.long q1), .second, .val (.int p2), .val (.int p3), .val (.int p4), .unset, .unset, .unset, .unset, .unset, .unset, .unset] [(.long (q1 &&& (9223372036854775807 : Int64)))])) _
    refine XS.iloadN X0.here hx rfl (hb hby at_5) rfl ?_
    show Steps p.tables e below (s₁.setTop (mkF m 6 #[.val (.long q1), .second, .val (.int p2), .val (.int p3), .val (.int p4), .unset, .unset, .unset, .unset, .unset, .unset, .unset] [(.int p2), (.long (q1 &&& (9223372036854775807 : Int64)))])) _
    refine XS.bipush X0.here hx rfl (hb hby at_6) ?_
    show Steps p.tables e below (s₁.setTop (mkF m 8 #[.val (.long q1), .second, .val (.int p2), .val (.int p3), .val (.int p4), .unset, .unset, .unset, .unset, .unset, .unset, .unset] [(.int (63 : Int32)), (.int p2), (.long (q1 &&& (9223372036854775807 : Int64)))])) _
    refine XS.iand X0.here hx rfl (hb hby at_8) rfl ?_
    show Steps p.tables e below (s₁.setTop (mkF m 9 #[.val (.long q1), .second, .val (.int p2), .val (.int p3), .val (.int p4), .unset, .unset, .unset, .unset, .unset, .unset, .unset] [(.int (p2 &&& (63 : Int32))), (.long (q1 &&& (9223372036854775807 : Int64)))])) _
    refine XS.lushr X0.here hx rfl (hb hby at_9) rfl ?_
    show Steps p.tables e below (s₁.setTop (mkF m 10 #[.val (.long q1), .second, .val (.int p2), .val (.int p3), .val (.int p4), .unset, .unset, .unset, .unset, .unset, .unset, .unset] [(.long (((q1 &&& (9223372036854775807 : Int64)).toUInt64 >>> ((p2 &&& (63 : Int32)) &&& 0x3f).toInt64.toUInt64).toInt64))])) _
    refine XS.lstore X0.here hx rfl (hb hby at_10) rfl (l' := #[.val (.long q1), .second, .val (.int p2), .val (.int p3), .val (.int p4), .val (.long (((q1 &&& (9223372036854775807 : Int64)).toUInt64 >>> ((p2 &&& (63 : Int32)) &&& 0x3f).toInt64.toUInt64).toInt64)), .second, .unset, .unset, .unset, .unset, .unset]) rfl ?_
    show Steps p.tables e below (s₁.setTop (mkF m 12 #[.val (.long q1), .second, .val (.int p2), .val (.int p3), .val (.int p4), .val (.long (((q1 &&& (9223372036854775807 : Int64)).toUInt64 >>> ((p2 &&& (63 : Int32)) &&& 0x3f).toInt64.toUInt64).toInt64)), .second, .unset, .unset, .unset, .unset, .unset] [])) _
    exact kt
  refine OwnG.st sg1 ?_
  obtain ⟨z5_2, hz5_2⟩ : ∃ w : Int64, w = (((q1 &&& (9223372036854775807 : Int64)).toUInt64 >>> ((p2 &&& (63 : Int32)) &&& 0x3f).toInt64.toUInt64).toInt64) := ⟨_, rfl⟩
  rw [← hz5_2]
  show OwnG p e below s _ _ _ s₁ (mkF m 12 #[.val (.long q1), .second, .val (.int p2), .val (.int p3), .val (.int p4), .val (.long z5_2), .second, .unset, .unset, .unset, .unset, .unset] [])
  have sg3 : ∀ tgt, Steps p.tables e below (s₁.setTop (mkF m 18 #[.val (.long q1), .second, .val (.int p2), .val (.int p3), .val (.int p4), .val (.long z5_2), .second, .val (.int (p3 &&& (7 : Int32))), .unset, .unset, .unset, .unset] [])) tgt → Steps p.tables e below (s₁.setTop (mkF m 12 #[.val (.long q1), .second, .val (.int p2), .val (.int p3), .val (.int p4), .val (.long z5_2), .second, .unset, .unset, .unset, .unset, .unset] [])) tgt := by
    intro tgt kt
    refine XS.iloadN X0.here hx rfl (hb hby at_12) rfl ?_
    show Steps p.tables e below (s₁.setTop (mkF m 13 #[.val (.long q1), .second, .val (.int p2), .val (.int p3), .val (.int p4), .val (.long z5_2), .second, .unset, .unset, .unset, .unset, .unset] [(.int p3)])) _
    refine XS.bipush X0.here hx rfl (hb hby at_13) ?_
    show Steps p.tables e below (s₁.setTop (mkF m 15 #[.val (.long q1), .second, .val (.int p2), .val (.int p3), .val (.int p4), .val (.long z5_2), .second, .unset, .unset, .unset, .unset, .unset] [(.int (7 : Int32)), (.int p3)])) _
    refine XS.iand X0.here hx rfl (hb hby at_15) rfl ?_
    show Steps p.tables e below (s₁.setTop (mkF m 16 #[.val (.long q1), .second, .val (.int p2), .val (.int p3), .val (.int p4), .val (.long z5_2), .second, .unset, .unset, .unset, .unset, .unset] [(.int (p3 &&& (7 : Int32)))])) _
    refine XS.istore X0.here hx rfl (hb hby at_16) rfl (l' := #[.val (.long q1), .second, .val (.int p2), .val (.int p3), .val (.int p4), .val (.long z5_2), .second, .val (.int (p3 &&& (7 : Int32))), .unset, .unset, .unset, .unset]) rfl ?_
    show Steps p.tables e below (s₁.setTop (mkF m 18 #[.val (.long q1), .second, .val (.int p2), .val (.int p3), .val (.int p4), .val (.long z5_2), .second, .val (.int (p3 &&& (7 : Int32))), .unset, .unset, .unset, .unset] [])) _
    exact kt
  refine OwnG.st sg3 ?_
  obtain ⟨z7_4, hz7_4⟩ : ∃ w : Int32, w = (p3 &&& (7 : Int32)) := ⟨_, rfl⟩
  rw [← hz7_4]
  show OwnG p e below s _ _ _ s₁ (mkF m 18 #[.val (.long q1), .second, .val (.int p2), .val (.int p3), .val (.int p4), .val (.long z5_2), .second, .val (.int z7_4), .unset, .unset, .unset, .unset] [])
  have sg5 : ∀ tgt, Steps p.tables e below (s₁.setTop (mkF m 23 #[.val (.long q1), .second, .val (.int p2), .val (.int p3), .val (.int p4), .val (.long z5_2), .second, .val (.int z7_4), .val (.int (p4.toInt8.toInt32)), .unset, .unset, .unset] [])) tgt → Steps p.tables e below (s₁.setTop (mkF m 18 #[.val (.long q1), .second, .val (.int p2), .val (.int p3), .val (.int p4), .val (.long z5_2), .second, .val (.int z7_4), .unset, .unset, .unset, .unset] [])) tgt := by
    intro tgt kt
    refine XS.iload X0.here hx rfl (hb hby at_18) rfl ?_
    show Steps p.tables e below (s₁.setTop (mkF m 20 #[.val (.long q1), .second, .val (.int p2), .val (.int p3), .val (.int p4), .val (.long z5_2), .second, .val (.int z7_4), .unset, .unset, .unset, .unset] [(.int p4)])) _
    refine XS.i2b X0.here hx rfl (hb hby at_20) rfl ?_
    show Steps p.tables e below (s₁.setTop (mkF m 21 #[.val (.long q1), .second, .val (.int p2), .val (.int p3), .val (.int p4), .val (.long z5_2), .second, .val (.int z7_4), .unset, .unset, .unset, .unset] [(.int (p4.toInt8.toInt32))])) _
    refine XS.istore X0.here hx rfl (hb hby at_21) rfl (l' := #[.val (.long q1), .second, .val (.int p2), .val (.int p3), .val (.int p4), .val (.long z5_2), .second, .val (.int z7_4), .val (.int (p4.toInt8.toInt32)), .unset, .unset, .unset]) rfl ?_
    show Steps p.tables e below (s₁.setTop (mkF m 23 #[.val (.long q1), .second, .val (.int p2), .val (.int p3), .val (.int p4), .val (.long z5_2), .second, .val (.int z7_4), .val (.int (p4.toInt8.toInt32)), .unset, .unset, .unset] [])) _
    exact kt
  refine OwnG.st sg5 ?_
  have hv0 := own_v q1 p2
  rw [← hz5_2] at hv0
  have hat := own_a7 p3
  rw [← hz7_4] at hat
  have sg6 : ∀ tgt, Steps p.tables e below (s₁.setTop (mkF m 25 #[.val (.long q1), .second, .val (.int p2), .val (.int p3), .val (.int p4), .val (.long z5_2), .second, .val (.int z7_4), .val (.int (p4.toInt8.toInt32)), .unset, .unset, .unset] [(.int (16 : Int32))])) tgt → Steps p.tables e below (s₁.setTop (mkF m 23 #[.val (.long q1), .second, .val (.int p2), .val (.int p3), .val (.int p4), .val (.long z5_2), .second, .val (.int z7_4), .val (.int (p4.toInt8.toInt32)), .unset, .unset, .unset] [])) tgt := by
    intro tgt kt
    refine XS.bipush X0.here hx rfl (hb hby at_23) ?_
    show Steps p.tables e below (s₁.setTop (mkF m 25 #[.val (.long q1), .second, .val (.int p2), .val (.int p3), .val (.int p4), .val (.long z5_2), .second, .val (.int z7_4), .val (.int (p4.toInt8.toInt32)), .unset, .unset, .unset] [(.int (16 : Int32))])) _
    exact kt
  refine OwnG.st sg6 ?_
  obtain ⟨T7, h7, k7, X7, e7, E7, A7, st7⟩ := newP X0 hx hZ (hw _ (List.mem_of_getElem? (i := 1) rfl)) e0 (g := (mkF m 25 #[.val (.long q1), .second, .val (.int p2), .val (.int p3), .val (.int p4), .val (.long z5_2), .second, .val (.int z7_4), .val (.int (p4.toInt8.toInt32)), .unset, .unset, .unset] [(.int (16 : Int32))])) rfl (hb hby at_25) rfl (by decide) (cap := 16) (by decide) (by decide) (by decide) (by decide)
  obtain ⟨b7, g7⟩ : ∃ z, z = h0.size := ⟨_, rfl⟩
  rw [← g7] at A7 st7
  have V7 : OwnA Z h7 b7 .byte 16 (iv' fun _ => 0) := own_newA A7 (by decide)
  have gb_b7 : n0 ≤ b7 := Nat.le_trans Z0 (Nat.le_of_eq g7.symm)
  have Z7 : n0 ≤ h7.size := Nat.le_trans Z0 E7.1
  have X7 : Stand p l e room_1 s m #[(.long q1), (.int p2), (.int p3), (.int p4)] below meth c T7 _ 1 16 := X7
  refine OwnG.st st7 ?_
  show OwnG p e below s _ _ _ T7 (mkF m 27 #[.val (.long q1), .second, .val (.int p2), .val (.int p3), .val (.int p4), .val (.long z5_2), .second, .val (.int z7_4), .val (.int (p4.toInt8.toInt32)), .unset, .unset, .unset] [(.ref b7)])
  have sg8 : ∀ tgt, Steps p.tables e below (T7.setTop (mkF m 31 #[.val (.long q1), .second, .val (.int p2), .val (.int p3), .val (.int p4), .val (.long z5_2), .second, .val (.int z7_4), .val (.int (p4.toInt8.toInt32)), .unset, .unset, .unset] [(.int (p4.toInt8.toInt32)), (.int (0 : Int32)), (.ref b7), (.ref b7)])) tgt → Steps p.tables e below (T7.setTop (mkF m 27 #[.val (.long q1), .second, .val (.int p2), .val (.int p3), .val (.int p4), .val (.long z5_2), .second, .val (.int z7_4), .val (.int (p4.toInt8.toInt32)), .unset, .unset, .unset] [(.ref b7)])) tgt := by
    intro tgt kt
    refine XS.dup X7.here hx rfl (hb hby at_27) rfl rfl ?_
    show Steps p.tables e below (T7.setTop (mkF m 28 #[.val (.long q1), .second, .val (.int p2), .val (.int p3), .val (.int p4), .val (.long z5_2), .second, .val (.int z7_4), .val (.int (p4.toInt8.toInt32)), .unset, .unset, .unset] [(.ref b7), (.ref b7)])) _
    refine XS.iconst X7.here hx rfl (hb hby at_28) ?_
    show Steps p.tables e below (T7.setTop (mkF m 29 #[.val (.long q1), .second, .val (.int p2), .val (.int p3), .val (.int p4), .val (.long z5_2), .second, .val (.int z7_4), .val (.int (p4.toInt8.toInt32)), .unset, .unset, .unset] [(.int (0 : Int32)), (.ref b7), (.ref b7)])) _
    refine XS.iload X7.here hx rfl (hb hby at_29) rfl ?_
    show Steps p.tables e below (T7.setTop (mkF m 31 #[.val (.long q1), .second, .val (.int p2), .val (.int p3), .val (.int p4), .val (.long z5_2), .second, .val (.int z7_4), .val (.int (p4.toInt8.toInt32)), .unset, .unset, .unset] [(.int (p4.toInt8.toInt32)), (.int (0 : Int32)), (.ref b7), (.ref b7)])) _
    exact kt
  refine OwnG.st sg8 ?_
  obtain ⟨T9, h9, X9, e9, W9, V9, st9⟩ := own_stB V7 X7 hx hZ e7 (by decide) (by decide) (gf := (mkF m 31 #[.val (.long q1), .second, .val (.int p2), .val (.int p3), .val (.int p4), .val (.long z5_2), .second, .val (.int z7_4), .val (.int (p4.toInt8.toInt32)), .unset, .unset, .unset] [(.int (p4.toInt8.toInt32)), (.int (0 : Int32)), (.ref b7), (.ref b7)])) rfl rfl (hb hby at_31)
  have V9' : OwnA Z h9 b7 .byte 16 (iv' (updv (fun _ => 0) 0 (p4.toInt8.toInt32))) := by have q := V9; rw [Int8.toInt8_toInt32] at q; exact q
  obtain ⟨gs9, hgs9⟩ : ∃ g : Nat → Int32, g = (updv (fun _ => 0) 0 (p4.toInt8.toInt32)) := ⟨_, rfl⟩
  have Vg9 : OwnA Z h9 b7 .byte 16 (iv' gs9) := by rw [hgs9]; exact V9'
  have N9 := Fr.snoc X9 N0 gb_b7
  have Z9 : n0 ≤ h9.size := by rw [W9.size]; exact Z7
  refine OwnG.st st9 ?_
  show OwnG p e below s _ _ _ T9 (mkF m 32 #[.val (.long q1), .second, .val (.int p2), .val (.int p3), .val (.int p4), .val (.long z5_2), .second, .val (.int z7_4), .val (.int (p4.toInt8.toInt32)), .unset, .unset, .unset] [(.ref b7)])
  have sg10 : ∀ tgt, Steps p.tables e below (T9.setTop (mkF m 36 #[.val (.long q1), .second, .val (.int p2), .val (.int p3), .val (.int p4), .val (.long z5_2), .second, .val (.int z7_4), .val (.int (p4.toInt8.toInt32)), .unset, .unset, .unset] [(.int (p4.toInt8.toInt32)), (.int (1 : Int32)), (.ref b7), (.ref b7)])) tgt → Steps p.tables e below (T9.setTop (mkF m 32 #[.val (.long q1), .second, .val (.int p2), .val (.int p3), .val (.int p4), .val (.long z5_2), .second, .val (.int z7_4), .val (.int (p4.toInt8.toInt32)), .unset, .unset, .unset] [(.ref b7)])) tgt := by
    intro tgt kt
    refine XS.dup X9.here hx rfl (hb hby at_32) rfl rfl ?_
    show Steps p.tables e below (T9.setTop (mkF m 33 #[.val (.long q1), .second, .val (.int p2), .val (.int p3), .val (.int p4), .val (.long z5_2), .second, .val (.int z7_4), .val (.int (p4.toInt8.toInt32)), .unset, .unset, .unset] [(.ref b7), (.ref b7)])) _
    refine XS.iconst X9.here hx rfl (hb hby at_33) ?_
    show Steps p.tables e below (T9.setTop (mkF m 34 #[.val (.long q1), .second, .val (.int p2), .val (.int p3), .val (.int p4), .val (.long z5_2), .second, .val (.int z7_4), .val (.int (p4.toInt8.toInt32)), .unset, .unset, .unset] [(.int (1 : Int32)), (.ref b7), (.ref b7)])) _
    refine XS.iload X9.here hx rfl (hb hby at_34) rfl ?_
    show Steps p.tables e below (T9.setTop (mkF m 36 #[.val (.long q1), .second, .val (.int p2), .val (.int p3), .val (.int p4), .val (.long z5_2), .second, .val (.int z7_4), .val (.int (p4.toInt8.toInt32)), .unset, .unset, .unset] [(.int (p4.toInt8.toInt32)), (.int (1 : Int32)), (.ref b7), (.ref b7)])) _
    exact kt
  refine OwnG.st sg10 ?_
  obtain ⟨T11, h11, X11, e11, W11, V11, st11⟩ := own_stB Vg9 X9 hx hZ e9 (by decide) (by decide) (gf := (mkF m 36 #[.val (.long q1), .second, .val (.int p2), .val (.int p3), .val (.int p4), .val (.long z5_2), .second, .val (.int z7_4), .val (.int (p4.toInt8.toInt32)), .unset, .unset, .unset] [(.int (p4.toInt8.toInt32)), (.int (1 : Int32)), (.ref b7), (.ref b7)])) rfl rfl (hb hby at_36)
  have V11' : OwnA Z h11 b7 .byte 16 (iv' (updv gs9 1 (p4.toInt8.toInt32))) := by have q := V11; rw [Int8.toInt8_toInt32] at q; exact q
  obtain ⟨gs11, hgs11⟩ : ∃ g : Nat → Int32, g = (updv gs9 1 (p4.toInt8.toInt32)) := ⟨_, rfl⟩
  have Vg11 : OwnA Z h11 b7 .byte 16 (iv' gs11) := by rw [hgs11]; exact V11'
  have N11 := Fr.snoc X11 N9 gb_b7
  have Z11 : n0 ≤ h11.size := by rw [W11.size]; exact Z9
  refine OwnG.st st11 ?_
  show OwnG p e below s _ _ _ T11 (mkF m 37 #[.val (.long q1), .second, .val (.int p2), .val (.int p3), .val (.int p4), .val (.long z5_2), .second, .val (.int z7_4), .val (.int (p4.toInt8.toInt32)), .unset, .unset, .unset] [(.ref b7)])
  have sg12 : ∀ tgt, Steps p.tables e below (T11.setTop (mkF m 41 #[.val (.long q1), .second, .val (.int p2), .val (.int p3), .val (.int p4), .val (.long z5_2), .second, .val (.int z7_4), .val (.int (p4.toInt8.toInt32)), .unset, .unset, .unset] [(.int (p4.toInt8.toInt32)), (.int (2 : Int32)), (.ref b7), (.ref b7)])) tgt → Steps p.tables e below (T11.setTop (mkF m 37 #[.val (.long q1), .second, .val (.int p2), .val (.int p3), .val (.int p4), .val (.long z5_2), .second, .val (.int z7_4), .val (.int (p4.toInt8.toInt32)), .unset, .unset, .unset] [(.ref b7)])) tgt := by
    intro tgt kt
    refine XS.dup X11.here hx rfl (hb hby at_37) rfl rfl ?_
    show Steps p.tables e below (T11.setTop (mkF m 38 #[.val (.long q1), .second, .val (.int p2), .val (.int p3), .val (.int p4), .val (.long z5_2), .second, .val (.int z7_4), .val (.int (p4.toInt8.toInt32)), .unset, .unset, .unset] [(.ref b7), (.ref b7)])) _
    refine XS.iconst X11.here hx rfl (hb hby at_38) ?_
    show Steps p.tables e below (T11.setTop (mkF m 39 #[.val (.long q1), .second, .val (.int p2), .val (.int p3), .val (.int p4), .val (.long z5_2), .second, .val (.int z7_4), .val (.int (p4.toInt8.toInt32)), .unset, .unset, .unset] [(.int (2 : Int32)), (.ref b7), (.ref b7)])) _
    refine XS.iload X11.here hx rfl (hb hby at_39) rfl ?_
    show Steps p.tables e below (T11.setTop (mkF m 41 #[.val (.long q1), .second, .val (.int p2), .val (.int p3), .val (.int p4), .val (.long z5_2), .second, .val (.int z7_4), .val (.int (p4.toInt8.toInt32)), .unset, .unset, .unset] [(.int (p4.toInt8.toInt32)), (.int (2 : Int32)), (.ref b7), (.ref b7)])) _
    exact kt
  refine OwnG.st sg12 ?_
  obtain ⟨T13, h13, X13, e13, W13, V13, st13⟩ := own_stB Vg11 X11 hx hZ e11 (by decide) (by decide) (gf := (mkF m 41 #[.val (.long q1), .second, .val (.int p2), .val (.int p3), .val (.int p4), .val (.long z5_2), .second, .val (.int z7_4), .val (.int (p4.toInt8.toInt32)), .unset, .unset, .unset] [(.int (p4.toInt8.toInt32)), (.int (2 : Int32)), (.ref b7), (.ref b7)])) rfl rfl (hb hby at_41)
  have V13' : OwnA Z h13 b7 .byte 16 (iv' (updv gs11 2 (p4.toInt8.toInt32))) := by have q := V13; rw [Int8.toInt8_toInt32] at q; exact q
  obtain ⟨gs13, hgs13⟩ : ∃ g : Nat → Int32, g = (updv gs11 2 (p4.toInt8.toInt32)) := ⟨_, rfl⟩
  have Vg13 : OwnA Z h13 b7 .byte 16 (iv' gs13) := by rw [hgs13]; exact V13'
  have N13 := Fr.snoc X13 N11 gb_b7
  have Z13 : n0 ≤ h13.size := by rw [W13.size]; exact Z11
  refine OwnG.st st13 ?_
  show OwnG p e below s _ _ _ T13 (mkF m 42 #[.val (.long q1), .second, .val (.int p2), .val (.int p3), .val (.int p4), .val (.long z5_2), .second, .val (.int z7_4), .val (.int (p4.toInt8.toInt32)), .unset, .unset, .unset] [(.ref b7)])
  have sg14 : ∀ tgt, Steps p.tables e below (T13.setTop (mkF m 46 #[.val (.long q1), .second, .val (.int p2), .val (.int p3), .val (.int p4), .val (.long z5_2), .second, .val (.int z7_4), .val (.int (p4.toInt8.toInt32)), .unset, .unset, .unset] [(.int (p4.toInt8.toInt32)), (.int (3 : Int32)), (.ref b7), (.ref b7)])) tgt → Steps p.tables e below (T13.setTop (mkF m 42 #[.val (.long q1), .second, .val (.int p2), .val (.int p3), .val (.int p4), .val (.long z5_2), .second, .val (.int z7_4), .val (.int (p4.toInt8.toInt32)), .unset, .unset, .unset] [(.ref b7)])) tgt := by
    intro tgt kt
    refine XS.dup X13.here hx rfl (hb hby at_42) rfl rfl ?_
    show Steps p.tables e below (T13.setTop (mkF m 43 #[.val (.long q1), .second, .val (.int p2), .val (.int p3), .val (.int p4), .val (.long z5_2), .second, .val (.int z7_4), .val (.int (p4.toInt8.toInt32)), .unset, .unset, .unset] [(.ref b7), (.ref b7)])) _
    refine XS.iconst X13.here hx rfl (hb hby at_43) ?_
    show Steps p.tables e below (T13.setTop (mkF m 44 #[.val (.long q1), .second, .val (.int p2), .val (.int p3), .val (.int p4), .val (.long z5_2), .second, .val (.int z7_4), .val (.int (p4.toInt8.toInt32)), .unset, .unset, .unset] [(.int (3 : Int32)), (.ref b7), (.ref b7)])) _
    refine XS.iload X13.here hx rfl (hb hby at_44) rfl ?_
    show Steps p.tables e below (T13.setTop (mkF m 46 #[.val (.long q1), .second, .val (.int p2), .val (.int p3), .val (.int p4), .val (.long z5_2), .second, .val (.int z7_4), .val (.int (p4.toInt8.toInt32)), .unset, .unset, .unset] [(.int (p4.toInt8.toInt32)), (.int (3 : Int32)), (.ref b7), (.ref b7)])) _
    exact kt
  refine OwnG.st sg14 ?_
  obtain ⟨T15, h15, X15, e15, W15, V15, st15⟩ := own_stB Vg13 X13 hx hZ e13 (by decide) (by decide) (gf := (mkF m 46 #[.val (.long q1), .second, .val (.int p2), .val (.int p3), .val (.int p4), .val (.long z5_2), .second, .val (.int z7_4), .val (.int (p4.toInt8.toInt32)), .unset, .unset, .unset] [(.int (p4.toInt8.toInt32)), (.int (3 : Int32)), (.ref b7), (.ref b7)])) rfl rfl (hb hby at_46)
  have V15' : OwnA Z h15 b7 .byte 16 (iv' (updv gs13 3 (p4.toInt8.toInt32))) := by have q := V15; rw [Int8.toInt8_toInt32] at q; exact q
  obtain ⟨gs15, hgs15⟩ : ∃ g : Nat → Int32, g = (updv gs13 3 (p4.toInt8.toInt32)) := ⟨_, rfl⟩
  have Vg15 : OwnA Z h15 b7 .byte 16 (iv' gs15) := by rw [hgs15]; exact V15'
  have N15 := Fr.snoc X15 N13 gb_b7
  have Z15 : n0 ≤ h15.size := by rw [W15.size]; exact Z13
  refine OwnG.st st15 ?_
  show OwnG p e below s _ _ _ T15 (mkF m 47 #[.val (.long q1), .second, .val (.int p2), .val (.int p3), .val (.int p4), .val (.long z5_2), .second, .val (.int z7_4), .val (.int (p4.toInt8.toInt32)), .unset, .unset, .unset] [(.ref b7)])
  have sg16 : ∀ tgt, Steps p.tables e below (T15.setTop (mkF m 51 #[.val (.long q1), .second, .val (.int p2), .val (.int p3), .val (.int p4), .val (.long z5_2), .second, .val (.int z7_4), .val (.int (p4.toInt8.toInt32)), .unset, .unset, .unset] [(.int (p4.toInt8.toInt32)), (.int (4 : Int32)), (.ref b7), (.ref b7)])) tgt → Steps p.tables e below (T15.setTop (mkF m 47 #[.val (.long q1), .second, .val (.int p2), .val (.int p3), .val (.int p4), .val (.long z5_2), .second, .val (.int z7_4), .val (.int (p4.toInt8.toInt32)), .unset, .unset, .unset] [(.ref b7)])) tgt := by
    intro tgt kt
    refine XS.dup X15.here hx rfl (hb hby at_47) rfl rfl ?_
    show Steps p.tables e below (T15.setTop (mkF m 48 #[.val (.long q1), .second, .val (.int p2), .val (.int p3), .val (.int p4), .val (.long z5_2), .second, .val (.int z7_4), .val (.int (p4.toInt8.toInt32)), .unset, .unset, .unset] [(.ref b7), (.ref b7)])) _
    refine XS.iconst X15.here hx rfl (hb hby at_48) ?_
    show Steps p.tables e below (T15.setTop (mkF m 49 #[.val (.long q1), .second, .val (.int p2), .val (.int p3), .val (.int p4), .val (.long z5_2), .second, .val (.int z7_4), .val (.int (p4.toInt8.toInt32)), .unset, .unset, .unset] [(.int (4 : Int32)), (.ref b7), (.ref b7)])) _
    refine XS.iload X15.here hx rfl (hb hby at_49) rfl ?_
    show Steps p.tables e below (T15.setTop (mkF m 51 #[.val (.long q1), .second, .val (.int p2), .val (.int p3), .val (.int p4), .val (.long z5_2), .second, .val (.int z7_4), .val (.int (p4.toInt8.toInt32)), .unset, .unset, .unset] [(.int (p4.toInt8.toInt32)), (.int (4 : Int32)), (.ref b7), (.ref b7)])) _
    exact kt
  refine OwnG.st sg16 ?_
  obtain ⟨T17, h17, X17, e17, W17, V17, st17⟩ := own_stB Vg15 X15 hx hZ e15 (by decide) (by decide) (gf := (mkF m 51 #[.val (.long q1), .second, .val (.int p2), .val (.int p3), .val (.int p4), .val (.long z5_2), .second, .val (.int z7_4), .val (.int (p4.toInt8.toInt32)), .unset, .unset, .unset] [(.int (p4.toInt8.toInt32)), (.int (4 : Int32)), (.ref b7), (.ref b7)])) rfl rfl (hb hby at_51)
  have V17' : OwnA Z h17 b7 .byte 16 (iv' (updv gs15 4 (p4.toInt8.toInt32))) := by have q := V17; rw [Int8.toInt8_toInt32] at q; exact q
  obtain ⟨gs17, hgs17⟩ : ∃ g : Nat → Int32, g = (updv gs15 4 (p4.toInt8.toInt32)) := ⟨_, rfl⟩
  have Vg17 : OwnA Z h17 b7 .byte 16 (iv' gs17) := by rw [hgs17]; exact V17'
  have N17 := Fr.snoc X17 N15 gb_b7
  have Z17 : n0 ≤ h17.size := by rw [W17.size]; exact Z15
  refine OwnG.st st17 ?_
  show OwnG p e below s _ _ _ T17 (mkF m 52 #[.val (.long q1), .second, .val (.int p2), .val (.int p3), .val (.int p4), .val (.long z5_2), .second, .val (.int z7_4), .val (.int (p4.toInt8.toInt32)), .unset, .unset, .unset] [(.ref b7)])
  have sg18 : ∀ tgt, Steps p.tables e below (T17.setTop (mkF m 56 #[.val (.long q1), .second, .val (.int p2), .val (.int p3), .val (.int p4), .val (.long z5_2), .second, .val (.int z7_4), .val (.int (p4.toInt8.toInt32)), .unset, .unset, .unset] [(.int (p4.toInt8.toInt32)), (.int (5 : Int32)), (.ref b7), (.ref b7)])) tgt → Steps p.tables e below (T17.setTop (mkF m 52 #[.val (.long q1), .second, .val (.int p2), .val (.int p3), .val (.int p4), .val (.long z5_2), .second, .val (.int z7_4), .val (.int (p4.toInt8.toInt32)), .unset, .unset, .unset] [(.ref b7)])) tgt := by
    intro tgt kt
    refine XS.dup X17.here hx rfl (hb hby at_52) rfl rfl ?_
    show Steps p.tables e below (T17.setTop (mkF m 53 #[.val (.long q1), .second, .val (.int p2), .val (.int p3), .val (.int p4), .val (.long z5_2), .second, .val (.int z7_4), .val (.int (p4.toInt8.toInt32)), .unset, .unset, .unset] [(.ref b7), (.ref b7)])) _
    refine XS.iconst X17.here hx rfl (hb hby at_53) ?_
    show Steps p.tables e below (T17.setTop (mkF m 54 #[.val (.long q1), .second, .val (.int p2), .val (.int p3), .val (.int p4), .val (.long z5_2), .second, .val (.int z7_4), .val (.int (p4.toInt8.toInt32)), .unset, .unset, .unset] [(.int (5 : Int32)), (.ref b7), (.ref b7)])) _
    refine XS.iload X17.here hx rfl (hb hby at_54) rfl ?_
    show Steps p.tables e below (T17.setTop (mkF m 56 #[.val (.long q1), .second, .val (.int p2), .val (.int p3), .val (.int p4), .val (.long z5_2), .second, .val (.int z7_4), .val (.int (p4.toInt8.toInt32)), .unset, .unset, .unset] [(.int (p4.toInt8.toInt32)), (.int (5 : Int32)), (.ref b7), (.ref b7)])) _
    exact kt
  refine OwnG.st sg18 ?_
  obtain ⟨T19, h19, X19, e19, W19, V19, st19⟩ := own_stB Vg17 X17 hx hZ e17 (by decide) (by decide) (gf := (mkF m 56 #[.val (.long q1), .second, .val (.int p2), .val (.int p3), .val (.int p4), .val (.long z5_2), .second, .val (.int z7_4), .val (.int (p4.toInt8.toInt32)), .unset, .unset, .unset] [(.int (p4.toInt8.toInt32)), (.int (5 : Int32)), (.ref b7), (.ref b7)])) rfl rfl (hb hby at_56)
  have V19' : OwnA Z h19 b7 .byte 16 (iv' (updv gs17 5 (p4.toInt8.toInt32))) := by have q := V19; rw [Int8.toInt8_toInt32] at q; exact q
  obtain ⟨gs19, hgs19⟩ : ∃ g : Nat → Int32, g = (updv gs17 5 (p4.toInt8.toInt32)) := ⟨_, rfl⟩
  have Vg19 : OwnA Z h19 b7 .byte 16 (iv' gs19) := by rw [hgs19]; exact V19'
  have N19 := Fr.snoc X19 N17 gb_b7
  have Z19 : n0 ≤ h19.size := by rw [W19.size]; exact Z17
  refine OwnG.st st19 ?_
  show OwnG p e below s _ _ _ T19 (mkF m 57 #[.val (.long q1), .second, .val (.int p2), .val (.int p3), .val (.int p4), .val (.long z5_2), .second, .val (.int z7_4), .val (.int (p4.toInt8.toInt32)), .unset, .unset, .unset] [(.ref b7)])
  have sg20 : ∀ tgt, Steps p.tables e below (T19.setTop (mkF m 62 #[.val (.long q1), .second, .val (.int p2), .val (.int p3), .val (.int p4), .val (.long z5_2), .second, .val (.int z7_4), .val (.int (p4.toInt8.toInt32)), .unset, .unset, .unset] [(.int (p4.toInt8.toInt32)), (.int (6 : Int32)), (.ref b7), (.ref b7)])) tgt → Steps p.tables e below (T19.setTop (mkF m 57 #[.val (.long q1), .second, .val (.int p2), .val (.int p3), .val (.int p4), .val (.long z5_2), .second, .val (.int z7_4), .val (.int (p4.toInt8.toInt32)), .unset, .unset, .unset] [(.ref b7)])) tgt := by
    intro tgt kt
    refine XS.dup X19.here hx rfl (hb hby at_57) rfl rfl ?_
    show Steps p.tables e below (T19.setTop (mkF m 58 #[.val (.long q1), .second, .val (.int p2), .val (.int p3), .val (.int p4), .val (.long z5_2), .second, .val (.int z7_4), .val (.int (p4.toInt8.toInt32)), .unset, .unset, .unset] [(.ref b7), (.ref b7)])) _
    refine XS.bipush X19.here hx rfl (hb hby at_58) ?_
    show Steps p.tables e below (T19.setTop (mkF m 60 #[.val (.long q1), .second, .val (.int p2), .val (.int p3), .val (.int p4), .val (.long z5_2), .second, .val (.int z7_4), .val (.int (p4.toInt8.toInt32)), .unset, .unset, .unset] [(.int (6 : Int32)), (.ref b7), (.ref b7)])) _
    refine XS.iload X19.here hx rfl (hb hby at_60) rfl ?_
    show Steps p.tables e below (T19.setTop (mkF m 62 #[.val (.long q1), .second, .val (.int p2), .val (.int p3), .val (.int p4), .val (.long z5_2), .second, .val (.int z7_4), .val (.int (p4.toInt8.toInt32)), .unset, .unset, .unset] [(.int (p4.toInt8.toInt32)), (.int (6 : Int32)), (.ref b7), (.ref b7)])) _
    exact kt
  refine OwnG.st sg20 ?_
  obtain ⟨T21, h21, X21, e21, W21, V21, st21⟩ := own_stB Vg19 X19 hx hZ e19 (by decide) (by decide) (gf := (mkF m 62 #[.val (.long q1), .second, .val (.int p2), .val (.int p3), .val (.int p4), .val (.long z5_2), .second, .val (.int z7_4), .val (.int (p4.toInt8.toInt32)), .unset, .unset, .unset] [(.int (p4.toInt8.toInt32)), (.int (6 : Int32)), (.ref b7), (.ref b7)])) rfl rfl (hb hby at_62)
  have V21' : OwnA Z h21 b7 .byte 16 (iv' (updv gs19 6 (p4.toInt8.toInt32))) := by have q := V21; rw [Int8.toInt8_toInt32] at q; exact q
  obtain ⟨gs21, hgs21⟩ : ∃ g : Nat → Int32, g = (updv gs19 6 (p4.toInt8.toInt32)) := ⟨_, rfl⟩
  have Vg21 : OwnA Z h21 b7 .byte 16 (iv' gs21) := by rw [hgs21]; exact V21'
  have N21 := Fr.snoc X21 N19 gb_b7
  have Z21 : n0 ≤ h21.size := by rw [W21.size]; exact Z19
  refine OwnG.st st21 ?_
  show OwnG p e below s _ _ _ T21 (mkF m 63 #[.val (.long q1), .second, .val (.int p2), .val (.int p3), .val (.int p4), .val (.long z5_2), .second, .val (.int z7_4), .val (.int (p4.toInt8.toInt32)), .unset, .unset, .unset] [(.ref b7)])
  have sg22 : ∀ tgt, Steps p.tables e below (T21.setTop (mkF m 68 #[.val (.long q1), .second, .val (.int p2), .val (.int p3), .val (.int p4), .val (.long z5_2), .second, .val (.int z7_4), .val (.int (p4.toInt8.toInt32)), .unset, .unset, .unset] [(.int (p4.toInt8.toInt32)), (.int (7 : Int32)), (.ref b7), (.ref b7)])) tgt → Steps p.tables e below (T21.setTop (mkF m 63 #[.val (.long q1), .second, .val (.int p2), .val (.int p3), .val (.int p4), .val (.long z5_2), .second, .val (.int z7_4), .val (.int (p4.toInt8.toInt32)), .unset, .unset, .unset] [(.ref b7)])) tgt := by
    intro tgt kt
    refine XS.dup X21.here hx rfl (hb hby at_63) rfl rfl ?_
    show Steps p.tables e below (T21.setTop (mkF m 64 #[.val (.long q1), .second, .val (.int p2), .val (.int p3), .val (.int p4), .val (.long z5_2), .second, .val (.int z7_4), .val (.int (p4.toInt8.toInt32)), .unset, .unset, .unset] [(.ref b7), (.ref b7)])) _
    refine XS.bipush X21.here hx rfl (hb hby at_64) ?_
    show Steps p.tables e below (T21.setTop (mkF m 66 #[.val (.long q1), .second, .val (.int p2), .val (.int p3), .val (.int p4), .val (.long z5_2), .second, .val (.int z7_4), .val (.int (p4.toInt8.toInt32)), .unset, .unset, .unset] [(.int (7 : Int32)), (.ref b7), (.ref b7)])) _
    refine XS.iload X21.here hx rfl (hb hby at_66) rfl ?_
    show Steps p.tables e below (T21.setTop (mkF m 68 #[.val (.long q1), .second, .val (.int p2), .val (.int p3), .val (.int p4), .val (.long z5_2), .second, .val (.int z7_4), .val (.int (p4.toInt8.toInt32)), .unset, .unset, .unset] [(.int (p4.toInt8.toInt32)), (.int (7 : Int32)), (.ref b7), (.ref b7)])) _
    exact kt
  refine OwnG.st sg22 ?_
  obtain ⟨T23, h23, X23, e23, W23, V23, st23⟩ := own_stB Vg21 X21 hx hZ e21 (by decide) (by decide) (gf := (mkF m 68 #[.val (.long q1), .second, .val (.int p2), .val (.int p3), .val (.int p4), .val (.long z5_2), .second, .val (.int z7_4), .val (.int (p4.toInt8.toInt32)), .unset, .unset, .unset] [(.int (p4.toInt8.toInt32)), (.int (7 : Int32)), (.ref b7), (.ref b7)])) rfl rfl (hb hby at_68)
  have V23' : OwnA Z h23 b7 .byte 16 (iv' (updv gs21 7 (p4.toInt8.toInt32))) := by have q := V23; rw [Int8.toInt8_toInt32] at q; exact q
  obtain ⟨gs23, hgs23⟩ : ∃ g : Nat → Int32, g = (updv gs21 7 (p4.toInt8.toInt32)) := ⟨_, rfl⟩
  have Vg23 : OwnA Z h23 b7 .byte 16 (iv' gs23) := by rw [hgs23]; exact V23'
  have N23 := Fr.snoc X23 N21 gb_b7
  have Z23 : n0 ≤ h23.size := by rw [W23.size]; exact Z21
  refine OwnG.st st23 ?_
  show OwnG p e below s _ _ _ T23 (mkF m 69 #[.val (.long q1), .second, .val (.int p2), .val (.int p3), .val (.int p4), .val (.long z5_2), .second, .val (.int z7_4), .val (.int (p4.toInt8.toInt32)), .unset, .unset, .unset] [(.ref b7)])
  have sg24 : ∀ tgt, Steps p.tables e below (T23.setTop (mkF m 74 #[.val (.long q1), .second, .val (.int p2), .val (.int p3), .val (.int p4), .val (.long z5_2), .second, .val (.int z7_4), .val (.int (p4.toInt8.toInt32)), .unset, .unset, .unset] [(.int (p4.toInt8.toInt32)), (.int (8 : Int32)), (.ref b7), (.ref b7)])) tgt → Steps p.tables e below (T23.setTop (mkF m 69 #[.val (.long q1), .second, .val (.int p2), .val (.int p3), .val (.int p4), .val (.long z5_2), .second, .val (.int z7_4), .val (.int (p4.toInt8.toInt32)), .unset, .unset, .unset] [(.ref b7)])) tgt := by
    intro tgt kt
    refine XS.dup X23.here hx rfl (hb hby at_69) rfl rfl ?_
    show Steps p.tables e below (T23.setTop (mkF m 70 #[.val (.long q1), .second, .val (.int p2), .val (.int p3), .val (.int p4), .val (.long z5_2), .second, .val (.int z7_4), .val (.int (p4.toInt8.toInt32)), .unset, .unset, .unset] [(.ref b7), (.ref b7)])) _
    refine XS.bipush X23.here hx rfl (hb hby at_70) ?_
    show Steps p.tables e below (T23.setTop (mkF m 72 #[.val (.long q1), .second, .val (.int p2), .val (.int p3), .val (.int p4), .val (.long z5_2), .second, .val (.int z7_4), .val (.int (p4.toInt8.toInt32)), .unset, .unset, .unset] [(.int (8 : Int32)), (.ref b7), (.ref b7)])) _
    refine XS.iload X23.here hx rfl (hb hby at_72) rfl ?_
    show Steps p.tables e below (T23.setTop (mkF m 74 #[.val (.long q1), .second, .val (.int p2), .val (.int p3), .val (.int p4), .val (.long z5_2), .second, .val (.int z7_4), .val (.int (p4.toInt8.toInt32)), .unset, .unset, .unset] [(.int (p4.toInt8.toInt32)), (.int (8 : Int32)), (.ref b7), (.ref b7)])) _
    exact kt
  refine OwnG.st sg24 ?_
  obtain ⟨T25, h25, X25, e25, W25, V25, st25⟩ := own_stB Vg23 X23 hx hZ e23 (by decide) (by decide) (gf := (mkF m 74 #[.val (.long q1), .second, .val (.int p2), .val (.int p3), .val (.int p4), .val (.long z5_2), .second, .val (.int z7_4), .val (.int (p4.toInt8.toInt32)), .unset, .unset, .unset] [(.int (p4.toInt8.toInt32)), (.int (8 : Int32)), (.ref b7), (.ref b7)])) rfl rfl (hb hby at_74)
  have V25' : OwnA Z h25 b7 .byte 16 (iv' (updv gs23 8 (p4.toInt8.toInt32))) := by have q := V25; rw [Int8.toInt8_toInt32] at q; exact q
  obtain ⟨gs25, hgs25⟩ : ∃ g : Nat → Int32, g = (updv gs23 8 (p4.toInt8.toInt32)) := ⟨_, rfl⟩
  have Vg25 : OwnA Z h25 b7 .byte 16 (iv' gs25) := by rw [hgs25]; exact V25'
  have N25 := Fr.snoc X25 N23 gb_b7
  have Z25 : n0 ≤ h25.size := by rw [W25.size]; exact Z23
  refine OwnG.st st25 ?_
  show OwnG p e below s _ _ _ T25 (mkF m 75 #[.val (.long q1), .second, .val (.int p2), .val (.int p3), .val (.int p4), .val (.long z5_2), .second, .val (.int z7_4), .val (.int (p4.toInt8.toInt32)), .unset, .unset, .unset] [(.ref b7)])
  have sg26 : ∀ tgt, Steps p.tables e below (T25.setTop (mkF m 80 #[.val (.long q1), .second, .val (.int p2), .val (.int p3), .val (.int p4), .val (.long z5_2), .second, .val (.int z7_4), .val (.int (p4.toInt8.toInt32)), .unset, .unset, .unset] [(.int (p4.toInt8.toInt32)), (.int (9 : Int32)), (.ref b7), (.ref b7)])) tgt → Steps p.tables e below (T25.setTop (mkF m 75 #[.val (.long q1), .second, .val (.int p2), .val (.int p3), .val (.int p4), .val (.long z5_2), .second, .val (.int z7_4), .val (.int (p4.toInt8.toInt32)), .unset, .unset, .unset] [(.ref b7)])) tgt := by
    intro tgt kt
    refine XS.dup X25.here hx rfl (hb hby at_75) rfl rfl ?_
    show Steps p.tables e below (T25.setTop (mkF m 76 #[.val (.long q1), .second, .val (.int p2), .val (.int p3), .val (.int p4), .val (.long z5_2), .second, .val (.int z7_4), .val (.int (p4.toInt8.toInt32)), .unset, .unset, .unset] [(.ref b7), (.ref b7)])) _
    refine XS.bipush X25.here hx rfl (hb hby at_76) ?_
    show Steps p.tables e below (T25.setTop (mkF m 78 #[.val (.long q1), .second, .val (.int p2), .val (.int p3), .val (.int p4), .val (.long z5_2), .second, .val (.int z7_4), .val (.int (p4.toInt8.toInt32)), .unset, .unset, .unset] [(.int (9 : Int32)), (.ref b7), (.ref b7)])) _
    refine XS.iload X25.here hx rfl (hb hby at_78) rfl ?_
    show Steps p.tables e below (T25.setTop (mkF m 80 #[.val (.long q1), .second, .val (.int p2), .val (.int p3), .val (.int p4), .val (.long z5_2), .second, .val (.int z7_4), .val (.int (p4.toInt8.toInt32)), .unset, .unset, .unset] [(.int (p4.toInt8.toInt32)), (.int (9 : Int32)), (.ref b7), (.ref b7)])) _
    exact kt
  refine OwnG.st sg26 ?_
  obtain ⟨T27, h27, X27, e27, W27, V27, st27⟩ := own_stB Vg25 X25 hx hZ e25 (by decide) (by decide) (gf := (mkF m 80 #[.val (.long q1), .second, .val (.int p2), .val (.int p3), .val (.int p4), .val (.long z5_2), .second, .val (.int z7_4), .val (.int (p4.toInt8.toInt32)), .unset, .unset, .unset] [(.int (p4.toInt8.toInt32)), (.int (9 : Int32)), (.ref b7), (.ref b7)])) rfl rfl (hb hby at_80)
  have V27' : OwnA Z h27 b7 .byte 16 (iv' (updv gs25 9 (p4.toInt8.toInt32))) := by have q := V27; rw [Int8.toInt8_toInt32] at q; exact q
  obtain ⟨gs27, hgs27⟩ : ∃ g : Nat → Int32, g = (updv gs25 9 (p4.toInt8.toInt32)) := ⟨_, rfl⟩
  have Vg27 : OwnA Z h27 b7 .byte 16 (iv' gs27) := by rw [hgs27]; exact V27'
  have N27 := Fr.snoc X27 N25 gb_b7
  have Z27 : n0 ≤ h27.size := by rw [W27.size]; exact Z25
  refine OwnG.st st27 ?_
  show OwnG p e below s _ _ _ T27 (mkF m 81 #[.val (.long q1), .second, .val (.int p2), .val (.int p3), .val (.int p4), .val (.long z5_2), .second, .val (.int z7_4), .val (.int (p4.toInt8.toInt32)), .unset, .unset, .unset] [(.ref b7)])
  have sg28 : ∀ tgt, Steps p.tables e below (T27.setTop (mkF m 86 #[.val (.long q1), .second, .val (.int p2), .val (.int p3), .val (.int p4), .val (.long z5_2), .second, .val (.int z7_4), .val (.int (p4.toInt8.toInt32)), .unset, .unset, .unset] [(.int (p4.toInt8.toInt32)), (.int (10 : Int32)), (.ref b7), (.ref b7)])) tgt → Steps p.tables e below (T27.setTop (mkF m 81 #[.val (.long q1), .second, .val (.int p2), .val (.int p3), .val (.int p4), .val (.long z5_2), .second, .val (.int z7_4), .val (.int (p4.toInt8.toInt32)), .unset, .unset, .unset] [(.ref b7)])) tgt := by
    intro tgt kt
    refine XS.dup X27.here hx rfl (hb hby at_81) rfl rfl ?_
    show Steps p.tables e below (T27.setTop (mkF m 82 #[.val (.long q1), .second, .val (.int p2), .val (.int p3), .val (.int p4), .val (.long z5_2), .second, .val (.int z7_4), .val (.int (p4.toInt8.toInt32)), .unset, .unset, .unset] [(.ref b7), (.ref b7)])) _
    refine XS.bipush X27.here hx rfl (hb hby at_82) ?_
    show Steps p.tables e below (T27.setTop (mkF m 84 #[.val (.long q1), .second, .val (.int p2), .val (.int p3), .val (.int p4), .val (.long z5_2), .second, .val (.int z7_4), .val (.int (p4.toInt8.toInt32)), .unset, .unset, .unset] [(.int (10 : Int32)), (.ref b7), (.ref b7)])) _
    refine XS.iload X27.here hx rfl (hb hby at_84) rfl ?_
    show Steps p.tables e below (T27.setTop (mkF m 86 #[.val (.long q1), .second, .val (.int p2), .val (.int p3), .val (.int p4), .val (.long z5_2), .second, .val (.int z7_4), .val (.int (p4.toInt8.toInt32)), .unset, .unset, .unset] [(.int (p4.toInt8.toInt32)), (.int (10 : Int32)), (.ref b7), (.ref b7)])) _
    exact kt
  refine OwnG.st sg28 ?_
  obtain ⟨T29, h29, X29, e29, W29, V29, st29⟩ := own_stB Vg27 X27 hx hZ e27 (by decide) (by decide) (gf := (mkF m 86 #[.val (.long q1), .second, .val (.int p2), .val (.int p3), .val (.int p4), .val (.long z5_2), .second, .val (.int z7_4), .val (.int (p4.toInt8.toInt32)), .unset, .unset, .unset] [(.int (p4.toInt8.toInt32)), (.int (10 : Int32)), (.ref b7), (.ref b7)])) rfl rfl (hb hby at_86)
  have V29' : OwnA Z h29 b7 .byte 16 (iv' (updv gs27 10 (p4.toInt8.toInt32))) := by have q := V29; rw [Int8.toInt8_toInt32] at q; exact q
  obtain ⟨gs29, hgs29⟩ : ∃ g : Nat → Int32, g = (updv gs27 10 (p4.toInt8.toInt32)) := ⟨_, rfl⟩
  have Vg29 : OwnA Z h29 b7 .byte 16 (iv' gs29) := by rw [hgs29]; exact V29'
  have N29 := Fr.snoc X29 N27 gb_b7
  have Z29 : n0 ≤ h29.size := by rw [W29.size]; exact Z27
  refine OwnG.st st29 ?_
  show OwnG p e below s _ _ _ T29 (mkF m 87 #[.val (.long q1), .second, .val (.int p2), .val (.int p3), .val (.int p4), .val (.long z5_2), .second, .val (.int z7_4), .val (.int (p4.toInt8.toInt32)), .unset, .unset, .unset] [(.ref b7)])
  have sg30 : ∀ tgt, Steps p.tables e below (T29.setTop (mkF m 92 #[.val (.long q1), .second, .val (.int p2), .val (.int p3), .val (.int p4), .val (.long z5_2), .second, .val (.int z7_4), .val (.int (p4.toInt8.toInt32)), .unset, .unset, .unset] [(.int (p4.toInt8.toInt32)), (.int (11 : Int32)), (.ref b7), (.ref b7)])) tgt → Steps p.tables e below (T29.setTop (mkF m 87 #[.val (.long q1), .second, .val (.int p2), .val (.int p3), .val (.int p4), .val (.long z5_2), .second, .val (.int z7_4), .val (.int (p4.toInt8.toInt32)), .unset, .unset, .unset] [(.ref b7)])) tgt := by
    intro tgt kt
    refine XS.dup X29.here hx rfl (hb hby at_87) rfl rfl ?_
    show Steps p.tables e below (T29.setTop (mkF m 88 #[.val (.long q1), .second, .val (.int p2), .val (.int p3), .val (.int p4), .val (.long z5_2), .second, .val (.int z7_4), .val (.int (p4.toInt8.toInt32)), .unset, .unset, .unset] [(.ref b7), (.ref b7)])) _
    refine XS.bipush X29.here hx rfl (hb hby at_88) ?_
    show Steps p.tables e below (T29.setTop (mkF m 90 #[.val (.long q1), .second, .val (.int p2), .val (.int p3), .val (.int p4), .val (.long z5_2), .second, .val (.int z7_4), .val (.int (p4.toInt8.toInt32)), .unset, .unset, .unset] [(.int (11 : Int32)), (.ref b7), (.ref b7)])) _
    refine XS.iload X29.here hx rfl (hb hby at_90) rfl ?_
    show Steps p.tables e below (T29.setTop (mkF m 92 #[.val (.long q1), .second, .val (.int p2), .val (.int p3), .val (.int p4), .val (.long z5_2), .second, .val (.int z7_4), .val (.int (p4.toInt8.toInt32)), .unset, .unset, .unset] [(.int (p4.toInt8.toInt32)), (.int (11 : Int32)), (.ref b7), (.ref b7)])) _
    exact kt
  refine OwnG.st sg30 ?_
  obtain ⟨T31, h31, X31, e31, W31, V31, st31⟩ := own_stB Vg29 X29 hx hZ e29 (by decide) (by decide) (gf := (mkF m 92 #[.val (.long q1), .second, .val (.int p2), .val (.int p3), .val (.int p4), .val (.long z5_2), .second, .val (.int z7_4), .val (.int (p4.toInt8.toInt32)), .unset, .unset, .unset] [(.int (p4.toInt8.toInt32)), (.int (11 : Int32)), (.ref b7), (.ref b7)])) rfl rfl (hb hby at_92)
  have V31' : OwnA Z h31 b7 .byte 16 (iv' (updv gs29 11 (p4.toInt8.toInt32))) := by have q := V31; rw [Int8.toInt8_toInt32] at q; exact q
  obtain ⟨gs31, hgs31⟩ : ∃ g : Nat → Int32, g = (updv gs29 11 (p4.toInt8.toInt32)) := ⟨_, rfl⟩
  have Vg31 : OwnA Z h31 b7 .byte 16 (iv' gs31) := by rw [hgs31]; exact V31'
  have N31 := Fr.snoc X31 N29 gb_b7
  have Z31 : n0 ≤ h31.size := by rw [W31.size]; exact Z29
  refine OwnG.st st31 ?_
  show OwnG p e below s _ _ _ T31 (mkF m 93 #[.val (.long q1), .second, .val (.int p2), .val (.int p3), .val (.int p4), .val (.long z5_2), .second, .val (.int z7_4), .val (.int (p4.toInt8.toInt32)), .unset, .unset, .unset] [(.ref b7)])
  have sg32 : ∀ tgt, Steps p.tables e below (T31.setTop (mkF m 98 #[.val (.long q1), .second, .val (.int p2), .val (.int p3), .val (.int p4), .val (.long z5_2), .second, .val (.int z7_4), .val (.int (p4.toInt8.toInt32)), .unset, .unset, .unset] [(.int (p4.toInt8.toInt32)), (.int (12 : Int32)), (.ref b7), (.ref b7)])) tgt → Steps p.tables e below (T31.setTop (mkF m 93 #[.val (.long q1), .second, .val (.int p2), .val (.int p3), .val (.int p4), .val (.long z5_2), .second, .val (.int z7_4), .val (.int (p4.toInt8.toInt32)), .unset, .unset, .unset] [(.ref b7)])) tgt := by
    intro tgt kt
    refine XS.dup X31.here hx rfl (hb hby at_93) rfl rfl ?_
    show Steps p.tables e below (T31.setTop (mkF m 94 #[.val (.long q1), .second, .val (.int p2), .val (.int p3), .val (.int p4), .val (.long z5_2), .second, .val (.int z7_4), .val (.int (p4.toInt8.toInt32)), .unset, .unset, .unset] [(.ref b7), (.ref b7)])) _
    refine XS.bipush X31.here hx rfl (hb hby at_94) ?_
    show Steps p.tables e below (T31.setTop (mkF m 96 #[.val (.long q1), .second, .val (.int p2), .val (.int p3), .val (.int p4), .val (.long z5_2), .second, .val (.int z7_4), .val (.int (p4.toInt8.toInt32)), .unset, .unset, .unset] [(.int (12 : Int32)), (.ref b7), (.ref b7)])) _
    refine XS.iload X31.here hx rfl (hb hby at_96) rfl ?_
    show Steps p.tables e below (T31.setTop (mkF m 98 #[.val (.long q1), .second, .val (.int p2), .val (.int p3), .val (.int p4), .val (.long z5_2), .second, .val (.int z7_4), .val (.int (p4.toInt8.toInt32)), .unset, .unset, .unset] [(.int (p4.toInt8.toInt32)), (.int (12 : Int32)), (.ref b7), (.ref b7)])) _
    exact kt
  refine OwnG.st sg32 ?_
  obtain ⟨T33, h33, X33, e33, W33, V33, st33⟩ := own_stB Vg31 X31 hx hZ e31 (by decide) (by decide) (gf := (mkF m 98 #[.val (.long q1), .second, .val (.int p2), .val (.int p3), .val (.int p4), .val (.long z5_2), .second, .val (.int z7_4), .val (.int (p4.toInt8.toInt32)), .unset, .unset, .unset] [(.int (p4.toInt8.toInt32)), (.int (12 : Int32)), (.ref b7), (.ref b7)])) rfl rfl (hb hby at_98)
  have V33' : OwnA Z h33 b7 .byte 16 (iv' (updv gs31 12 (p4.toInt8.toInt32))) := by have q := V33; rw [Int8.toInt8_toInt32] at q; exact q
  obtain ⟨gs33, hgs33⟩ : ∃ g : Nat → Int32, g = (updv gs31 12 (p4.toInt8.toInt32)) := ⟨_, rfl⟩
  have Vg33 : OwnA Z h33 b7 .byte 16 (iv' gs33) := by rw [hgs33]; exact V33'
  have N33 := Fr.snoc X33 N31 gb_b7
  have Z33 : n0 ≤ h33.size := by rw [W33.size]; exact Z31
  refine OwnG.st st33 ?_
  show OwnG p e below s _ _ _ T33 (mkF m 99 #[.val (.long q1), .second, .val (.int p2), .val (.int p3), .val (.int p4), .val (.long z5_2), .second, .val (.int z7_4), .val (.int (p4.toInt8.toInt32)), .unset, .unset, .unset] [(.ref b7)])
  have sg34 : ∀ tgt, Steps p.tables e below (T33.setTop (mkF m 104 #[.val (.long q1), .second, .val (.int p2), .val (.int p3), .val (.int p4), .val (.long z5_2), .second, .val (.int z7_4), .val (.int (p4.toInt8.toInt32)), .unset, .unset, .unset] [(.int (p4.toInt8.toInt32)), (.int (13 : Int32)), (.ref b7), (.ref b7)])) tgt → Steps p.tables e below (T33.setTop (mkF m 99 #[.val (.long q1), .second, .val (.int p2), .val (.int p3), .val (.int p4), .val (.long z5_2), .second, .val (.int z7_4), .val (.int (p4.toInt8.toInt32)), .unset, .unset, .unset] [(.ref b7)])) tgt := by
    intro tgt kt
    refine XS.dup X33.here hx rfl (hb hby at_99) rfl rfl ?_
    show Steps p.tables e below (T33.setTop (mkF m 100 #[.val (.long q1), .second, .val (.int p2), .val (.int p3), .val (.int p4), .val (.long z5_2), .second, .val (.int z7_4), .val (.int (p4.toInt8.toInt32)), .unset, .unset, .unset] [(.ref b7), (.ref b7)])) _
    refine XS.bipush X33.here hx rfl (hb hby at_100) ?_
    show Steps p.tables e below (T33.setTop (mkF m 102 #[.val (.long q1), .second, .val (.int p2), .val (.int p3), .val (.int p4), .val (.long z5_2), .second, .val (.int z7_4), .val (.int (p4.toInt8.toInt32)), .unset, .unset, .unset] [(.int (13 : Int32)), (.ref b7), (.ref b7)])) _
    refine XS.iload X33.here hx rfl (hb hby at_102) rfl ?_
    show Steps p.tables e below (T33.setTop (mkF m 104 #[.val (.long q1), .second, .val (.int p2), .val (.int p3), .val (.int p4), .val (.long z5_2), .second, .val (.int z7_4), .val (.int (p4.toInt8.toInt32)), .unset, .unset, .unset] [(.int (p4.toInt8.toInt32)), (.int (13 : Int32)), (.ref b7), (.ref b7)])) _
    exact kt
  refine OwnG.st sg34 ?_
  obtain ⟨T35, h35, X35, e35, W35, V35, st35⟩ := own_stB Vg33 X33 hx hZ e33 (by decide) (by decide) (gf := (mkF m 104 #[.val (.long q1), .second, .val (.int p2), .val (.int p3), .val (.int p4), .val (.long z5_2), .second, .val (.int z7_4), .val (.int (p4.toInt8.toInt32)), .unset, .unset, .unset] [(.int (p4.toInt8.toInt32)), (.int (13 : Int32)), (.ref b7), (.ref b7)])) rfl rfl (hb hby at_104)
  have V35' : OwnA Z h35 b7 .byte 16 (iv' (updv gs33 13 (p4.toInt8.toInt32))) := by have q := V35; rw [Int8.toInt8_toInt32] at q; exact q
  obtain ⟨gs35, hgs35⟩ : ∃ g : Nat → Int32, g = (updv gs33 13 (p4.toInt8.toInt32)) := ⟨_, rfl⟩
  have Vg35 : OwnA Z h35 b7 .byte 16 (iv' gs35) := by rw [hgs35]; exact V35'
  have N35 := Fr.snoc X35 N33 gb_b7
  have Z35 : n0 ≤ h35.size := by rw [W35.size]; exact Z33
  refine OwnG.st st35 ?_
  show OwnG p e below s _ _ _ T35 (mkF m 105 #[.val (.long q1), .second, .val (.int p2), .val (.int p3), .val (.int p4), .val (.long z5_2), .second, .val (.int z7_4), .val (.int (p4.toInt8.toInt32)), .unset, .unset, .unset] [(.ref b7)])
  have sg36 : ∀ tgt, Steps p.tables e below (T35.setTop (mkF m 110 #[.val (.long q1), .second, .val (.int p2), .val (.int p3), .val (.int p4), .val (.long z5_2), .second, .val (.int z7_4), .val (.int (p4.toInt8.toInt32)), .unset, .unset, .unset] [(.int (p4.toInt8.toInt32)), (.int (14 : Int32)), (.ref b7), (.ref b7)])) tgt → Steps p.tables e below (T35.setTop (mkF m 105 #[.val (.long q1), .second, .val (.int p2), .val (.int p3), .val (.int p4), .val (.long z5_2), .second, .val (.int z7_4), .val (.int (p4.toInt8.toInt32)), .unset, .unset, .unset] [(.ref b7)])) tgt := by
    intro tgt kt
    refine XS.dup X35.here hx rfl (hb hby at_105) rfl rfl ?_
    show Steps p.tables e below (T35.setTop (mkF m 106 #[.val (.long q1), .second, .val (.int p2), .val (.int p3), .val (.int p4), .val (.long z5_2), .second, .val (.int z7_4), .val (.int (p4.toInt8.toInt32)), .unset, .unset, .unset] [(.ref b7), (.ref b7)])) _
    refine XS.bipush X35.here hx rfl (hb hby at_106) ?_
    show Steps p.tables e below (T35.setTop (mkF m 108 #[.val (.long q1), .second, .val (.int p2), .val (.int p3), .val (.int p4), .val (.long z5_2), .second, .val (.int z7_4), .val (.int (p4.toInt8.toInt32)), .unset, .unset, .unset] [(.int (14 : Int32)), (.ref b7), (.ref b7)])) _
    refine XS.iload X35.here hx rfl (hb hby at_108) rfl ?_
    show Steps p.tables e below (T35.setTop (mkF m 110 #[.val (.long q1), .second, .val (.int p2), .val (.int p3), .val (.int p4), .val (.long z5_2), .second, .val (.int z7_4), .val (.int (p4.toInt8.toInt32)), .unset, .unset, .unset] [(.int (p4.toInt8.toInt32)), (.int (14 : Int32)), (.ref b7), (.ref b7)])) _
    exact kt
  refine OwnG.st sg36 ?_
  obtain ⟨T37, h37, X37, e37, W37, V37, st37⟩ := own_stB Vg35 X35 hx hZ e35 (by decide) (by decide) (gf := (mkF m 110 #[.val (.long q1), .second, .val (.int p2), .val (.int p3), .val (.int p4), .val (.long z5_2), .second, .val (.int z7_4), .val (.int (p4.toInt8.toInt32)), .unset, .unset, .unset] [(.int (p4.toInt8.toInt32)), (.int (14 : Int32)), (.ref b7), (.ref b7)])) rfl rfl (hb hby at_110)
  have V37' : OwnA Z h37 b7 .byte 16 (iv' (updv gs35 14 (p4.toInt8.toInt32))) := by have q := V37; rw [Int8.toInt8_toInt32] at q; exact q
  obtain ⟨gs37, hgs37⟩ : ∃ g : Nat → Int32, g = (updv gs35 14 (p4.toInt8.toInt32)) := ⟨_, rfl⟩
  have Vg37 : OwnA Z h37 b7 .byte 16 (iv' gs37) := by rw [hgs37]; exact V37'
  have N37 := Fr.snoc X37 N35 gb_b7
  have Z37 : n0 ≤ h37.size := by rw [W37.size]; exact Z35
  refine OwnG.st st37 ?_
  show OwnG p e below s _ _ _ T37 (mkF m 111 #[.val (.long q1), .second, .val (.int p2), .val (.int p3), .val (.int p4), .val (.long z5_2), .second, .val (.int z7_4), .val (.int (p4.toInt8.toInt32)), .unset, .unset, .unset] [(.ref b7)])
  have sg38 : ∀ tgt, Steps p.tables e below (T37.setTop (mkF m 116 #[.val (.long q1), .second, .val (.int p2), .val (.int p3), .val (.int p4), .val (.long z5_2), .second, .val (.int z7_4), .val (.int (p4.toInt8.toInt32)), .unset, .unset, .unset] [(.int (p4.toInt8.toInt32)), (.int (15 : Int32)), (.ref b7), (.ref b7)])) tgt → Steps p.tables e below (T37.setTop (mkF m 111 #[.val (.long q1), .second, .val (.int p2), .val (.int p3), .val (.int p4), .val (.long z5_2), .second, .val (.int z7_4), .val (.int (p4.toInt8.toInt32)), .unset, .unset, .unset] [(.ref b7)])) tgt := by
    intro tgt kt
    refine XS.dup X37.here hx rfl (hb hby at_111) rfl rfl ?_
    show Steps p.tables e below (T37.setTop (mkF m 112 #[.val (.long q1), .second, .val (.int p2), .val (.int p3), .val (.int p4), .val (.long z5_2), .second, .val (.int z7_4), .val (.int (p4.toInt8.toInt32)), .unset, .unset, .unset] [(.ref b7), (.ref b7)])) _
    refine XS.bipush X37.here hx rfl (hb hby at_112) ?_
    show Steps p.tables e below (T37.setTop (mkF m 114 #[.val (.long q1), .second, .val (.int p2), .val (.int p3), .val (.int p4), .val (.long z5_2), .second, .val (.int z7_4), .val (.int (p4.toInt8.toInt32)), .unset, .unset, .unset] [(.int (15 : Int32)), (.ref b7), (.ref b7)])) _
    refine XS.iload X37.here hx rfl (hb hby at_114) rfl ?_
    show Steps p.tables e below (T37.setTop (mkF m 116 #[.val (.long q1), .second, .val (.int p2), .val (.int p3), .val (.int p4), .val (.long z5_2), .second, .val (.int z7_4), .val (.int (p4.toInt8.toInt32)), .unset, .unset, .unset] [(.int (p4.toInt8.toInt32)), (.int (15 : Int32)), (.ref b7), (.ref b7)])) _
    exact kt
  refine OwnG.st sg38 ?_
  obtain ⟨T39, h39, X39, e39, W39, V39, st39⟩ := own_stB Vg37 X37 hx hZ e37 (by decide) (by decide) (gf := (mkF m 116 #[.val (.long q1), .second, .val (.int p2), .val (.int p3), .val (.int p4), .val (.long z5_2), .second, .val (.int z7_4), .val (.int (p4.toInt8.toInt32)), .unset, .unset, .unset] [(.int (p4.toInt8.toInt32)), (.int (15 : Int32)), (.ref b7), (.ref b7)])) rfl rfl (hb hby at_116)
  have V39' : OwnA Z h39 b7 .byte 16 (iv' (updv gs37 15 (p4.toInt8.toInt32))) := by have q := V39; rw [Int8.toInt8_toInt32] at q; exact q
  obtain ⟨gs39, hgs39⟩ : ∃ g : Nat → Int32, g = (updv gs37 15 (p4.toInt8.toInt32)) := ⟨_, rfl⟩
  have Vg39 : OwnA Z h39 b7 .byte 16 (iv' gs39) := by rw [hgs39]; exact V39'
  have N39 := Fr.snoc X39 N37 gb_b7
  have Z39 : n0 ≤ h39.size := by rw [W39.size]; exact Z37
  refine OwnG.st st39 ?_
  show OwnG p e below s _ _ _ T39 (mkF m 117 #[.val (.long q1), .second, .val (.int p2), .val (.int p3), .val (.int p4), .val (.long z5_2), .second, .val (.int z7_4), .val (.int (p4.toInt8.toInt32)), .unset, .unset, .unset] [(.ref b7)])
  have sg40 : ∀ tgt, Steps p.tables e below (T39.setTop (mkF m 119 #[.val (.long q1), .second, .val (.int p2), .val (.int p3), .val (.int p4), .val (.long z5_2), .second, .val (.int z7_4), .val (.int (p4.toInt8.toInt32)), .val (.ref b7), .unset, .unset] [])) tgt → Steps p.tables e below (T39.setTop (mkF m 117 #[.val (.long q1), .second, .val (.int p2), .val (.int p3), .val (.int p4), .val (.long z5_2), .second, .val (.int z7_4), .val (.int (p4.toInt8.toInt32)), .unset, .unset, .unset] [(.ref b7)])) tgt := by
    intro tgt kt
    refine XS.astore X39.here hx rfl (hb hby at_117) rfl rfl (l' := #[.val (.long q1), .second, .val (.int p2), .val (.int p3), .val (.int p4), .val (.long z5_2), .second, .val (.int z7_4), .val (.int (p4.toInt8.toInt32)), .val (.ref b7), .unset, .unset]) rfl ?_
    show Steps p.tables e below (T39.setTop (mkF m 119 #[.val (.long q1), .second, .val (.int p2), .val (.int p3), .val (.int p4), .val (.long z5_2), .second, .val (.int z7_4), .val (.int (p4.toInt8.toInt32)), .val (.ref b7), .unset, .unset] [])) _
    exact kt
  refine OwnG.st sg40 ?_
  obtain ⟨gB, hgB⟩ : ∃ g : Nat → Int32, g = gs39 := ⟨_, rfl⟩
  rw [hgs39, hgs37, hgs35, hgs33, hgs31, hgs29, hgs27, hgs25, hgs23, hgs21, hgs19, hgs17, hgs15, hgs13, hgs11, hgs9] at hgB
  have VgB : OwnA Z h39 b7 .byte 16 (iv' gB) := by rw [hgB]; exact (by have q := Vg39; rw [hgs39, hgs37, hgs35, hgs33, hgs31, hgs29, hgs27, hgs25, hgs23, hgs21, hgs19, hgs17, hgs15, hgs13, hgs11, hgs9] at q; exact q)
  have sg41 : ∀ tgt, Steps p.tables e below (T39.setTop (mkF m 121 #[.val (.long q1), .second, .val (.int p2), .val (.int p3), .val (.int p4), .val (.long z5_2), .second, .val (.int z7_4), .val (.int (p4.toInt8.toInt32)), .val (.ref b7), .unset, .unset] [(.long z5_2)])) tgt → Steps p.tables e below (T39.setTop (mkF m 119 #[.val (.long q1), .second, .val (.int p2), .val (.int p3), .val (.int p4), .val (.long z5_2), .second, .val (.int z7_4), .val (.int (p4.toInt8.toInt32)), .val (.ref b7), .unset, .unset] [])) tgt := by
    intro tgt kt
    refine XS.lload X39.here hx rfl (hb hby at_119) rfl ?_
    show Steps p.tables e below (T39.setTop (mkF m 121 #[.val (.long q1), .second, .val (.int p2), .val (.int p3), .val (.int p4), .val (.long z5_2), .second, .val (.int z7_4), .val (.int (p4.toInt8.toInt32)), .val (.ref b7), .unset, .unset] [(.long z5_2)])) _
    exact kt
  refine OwnG.st sg41 ?_
  obtain ⟨vb42, _, B42, -, Xb42, hb42, sb42⟩ := Jvm.LawKit.callS X39 hx (y := (⟨"com/example/guessd/guessd/VarintsWritePinLaw", "count", "(J)I"⟩ : MethodName)) hown (mvT hZ (hw _ (List.mem_of_getElem? (i := 2) rfl))) (mvT hZ (hw _ (List.mem_of_getElem? (i := 3) rfl))) (mvT hZ (hw _ (List.mem_of_getElem? (i := 4) rfl))) (mvT hZ (hw _ (List.mem_of_getElem? (i := 5) rfl))) (by decide) (backOf (W := 0) (rm1 l Z a0 hw [] z5_2  h39 n0 Z39 ) hZ (hw _ (List.mem_of_getElem? (i := 5) rfl)) (hw _ (List.mem_of_getElem? (i := 4) rfl)) (by decide) (by decide)) (g := (mkF m 121 #[.val (.long q1), .second, .val (.int p2), .val (.int p3), .val (.int p4), .val (.long z5_2), .second, .val (.int z7_4), .val (.int (p4.toInt8.toInt32)), .val (.ref b7), .unset, .unset] [(.long z5_2)])) rfl (by rw [hml]; rfl) (argsL := [(.long z5_2)]) (rest := []) (lenOf pd_0_0 rfl) rfl (by show 2 * 0 + _ ≤ _; exact Nat.le_of_eq rfl) (hb hby at_121) (fun _ _ => ⟨rfl, e39, (by decide : 1 + 0 ≤ _), (by decide : 16 + 0 ≤ _)⟩)
  obtain ⟨T42, Lc42, vc42, X42, hQ42, st42⟩ := own_bk (F' := fun v => { ((mkF m 121 #[.val (.long q1), .second, .val (.int p2), .val (.int p3), .val (.int p4), .val (.long z5_2), .second, .val (.int z7_4), .val (.int (p4.toInt8.toInt32)), .val (.ref b7), .unset, .unset] [(.long z5_2)]) : JFrame) with pc := 124, stack := v.toList ++ [] }) (ck := 1) (sn := 16) Xb42 hb42 sb42 rfl rfl
  obtain ⟨hv42, N42q, e42⟩ := hQ42
  have N42 := Fr.app N39 N42q
  refine OwnG.st (F' := (mkF m 124 #[.val (.long q1), .second, .val (.int p2), .val (.int p3), .val (.int p4), .val (.long z5_2), .second, .val (.int z7_4), .val (.int (p4.toInt8.toInt32)), .val (.ref b7), .unset, .unset] [(.int (F1 z5_2))])) (fun t k => st42 t (by rw [hv42]; exact k)) ?_
  clear Xb42 hb42 sb42 st42 hv42
  have sg43 : ∀ tgt, Steps p.tables e below (T42.setTop (mkF m 126 #[.val (.long q1), .second, .val (.int p2), .val (.int p3), .val (.int p4), .val (.long z5_2), .second, .val (.int z7_4), .val (.int (p4.toInt8.toInt32)), .val (.ref b7), .val (.int (F1 z5_2)), .unset] [])) tgt → Steps p.tables e below (T42.setTop (mkF m 124 #[.val (.long q1), .second, .val (.int p2), .val (.int p3), .val (.int p4), .val (.long z5_2), .second, .val (.int z7_4), .val (.int (p4.toInt8.toInt32)), .val (.ref b7), .unset, .unset] [(.int (F1 z5_2))])) tgt := by
    intro tgt kt
    refine XS.istore X42.here hx rfl (hb hby at_124) rfl (l' := #[.val (.long q1), .second, .val (.int p2), .val (.int p3), .val (.int p4), .val (.long z5_2), .second, .val (.int z7_4), .val (.int (p4.toInt8.toInt32)), .val (.ref b7), .val (.int (F1 z5_2)), .unset]) rfl ?_
    show Steps p.tables e below (T42.setTop (mkF m 126 #[.val (.long q1), .second, .val (.int p2), .val (.int p3), .val (.int p4), .val (.long z5_2), .second, .val (.int z7_4), .val (.int (p4.toInt8.toInt32)), .val (.ref b7), .val (.int (F1 z5_2)), .unset] [])) _
    exact kt
  refine OwnG.st sg43 ?_
  obtain ⟨z10_44, hz10_44⟩ : ∃ w : Int32, w = (F1 z5_2) := ⟨_, rfl⟩
  rw [← hz10_44]
  show OwnG p e below s _ _ _ T42 (mkF m 126 #[.val (.long q1), .second, .val (.int p2), .val (.int p3), .val (.int p4), .val (.long z5_2), .second, .val (.int z7_4), .val (.int (p4.toInt8.toInt32)), .val (.ref b7), .val (.int z10_44), .unset] [])
  have hcn := own_cnt _ hv0
  rw [← hz10_44] at hcn
  have sg45 : ∀ tgt, Steps p.tables e below (T42.setTop (mkF m 132 #[.val (.long q1), .second, .val (.int p2), .val (.int p3), .val (.int p4), .val (.long z5_2), .second, .val (.int z7_4), .val (.int (p4.toInt8.toInt32)), .val (.ref b7), .val (.int z10_44), .unset] [(.long z5_2), (.int z7_4), (.ref b7)])) tgt → Steps p.tables e below (T42.setTop (mkF m 126 #[.val (.long q1), .second, .val (.int p2), .val (.int p3), .val (.int p4), .val (.long z5_2), .second, .val (.int z7_4), .val (.int (p4.toInt8.toInt32)), .val (.ref b7), .val (.int z10_44), .unset] [])) tgt := by
    intro tgt kt
    refine XS.aload X42.here hx rfl (hb hby at_126) rfl rfl ?_
    show Steps p.tables e below (T42.setTop (mkF m 128 #[.val (.long q1), .second, .val (.int p2), .val (.int p3), .val (.int p4), .val (.long z5_2), .second, .val (.int z7_4), .val (.int (p4.toInt8.toInt32)), .val (.ref b7), .val (.int z10_44), .unset] [(.ref b7)])) _
    refine XS.iload X42.here hx rfl (hb hby at_128) rfl ?_
    show Steps p.tables e below (T42.setTop (mkF m 130 #[.val (.long q1), .second, .val (.int p2), .val (.int p3), .val (.int p4), .val (.long z5_2), .second, .val (.int z7_4), .val (.int (p4.toInt8.toInt32)), .val (.ref b7), .val (.int z10_44), .unset] [(.int z7_4), (.ref b7)])) _
    refine XS.lload X42.here hx rfl (hb hby at_130) rfl ?_
    show Steps p.tables e below (T42.setTop (mkF m 132 #[.val (.long q1), .second, .val (.int p2), .val (.int p3), .val (.int p4), .val (.long z5_2), .second, .val (.int z7_4), .val (.int (p4.toInt8.toInt32)), .val (.ref b7), .val (.int z10_44), .unset] [(.long z5_2), (.int z7_4), (.ref b7)])) _
    exact kt
  refine OwnG.st sg45 ?_
  obtain ⟨vb46, _, B46, -, Xb46, hb46, sb46⟩ := Jvm.LawKit.callS X42 hx (y := (⟨"com/example/guessd/guessd/Varints", "write", "([BIJ)I"⟩ : MethodName)) hown (mvT hZ (hw _ (List.mem_of_getElem? (i := 7) rfl))) (mvT hZ (hw _ (List.mem_of_getElem? (i := 8) rfl))) (mvT hZ (hw _ (List.mem_of_getElem? (i := 9) rfl))) (mvT hZ (hw _ (List.mem_of_getElem? (i := 10) rfl))) (by decide) (backOf (W := 0) (rm2 l Z a0 hw [] b7 z7_4 z5_2 z10_44.toInt.toNat gB h39 n0 Z39 gb_b7 VgB hat hcn.1 hcn.2.1 hcn.2.2) hZ (hw _ (List.mem_of_getElem? (i := 10) rfl)) (hw _ (List.mem_of_getElem? (i := 9) rfl)) (by decide) (by decide)) (g := (mkF m 132 #[.val (.long q1), .second, .val (.int p2), .val (.int p3), .val (.int p4), .val (.long z5_2), .second, .val (.int z7_4), .val (.int (p4.toInt8.toInt32)), .val (.ref b7), .val (.int z10_44), .unset] [(.long z5_2), (.int z7_4), (.ref b7)])) rfl (by rw [hml]; rfl) (argsL := [(.ref b7), (.int z7_4), (.long z5_2)]) (rest := []) (lenOf pd_0_1 rfl) rfl (by show 2 * 0 + _ ≤ _; exact Nat.le_of_eq rfl) (hb hby at_132) (fun _ _ => ⟨rfl, e42, (by decide : 1 + 0 ≤ _), (by decide : 16 + 0 ≤ _)⟩)
  obtain ⟨T46, Lc46, vc46, X46, hQ46, st46⟩ := own_bk (F' := fun v => { ((mkF m 132 #[.val (.long q1), .second, .val (.int p2), .val (.int p3), .val (.int p4), .val (.long z5_2), .second, .val (.int z7_4), .val (.int (p4.toInt8.toInt32)), .val (.ref b7), .val (.int z10_44), .unset] [(.long z5_2), (.int z7_4), (.ref b7)]) : JFrame) with pc := 135, stack := v.toList ++ [] }) (ck := 1) (sn := 16) Xb46 hb46 sb46 rfl rfl
  obtain ⟨hv46, N46q, Kq46, Vq46⟩ := hQ46
  have Z46 : n0 ≤ T46.heap.size := Nat.le_trans Z39 Kq46.1
  obtain ⟨gW, hgW⟩ : ∃ g : Nat → Int32, g = (own_wf gB z7_4.toInt.toNat z5_2 z10_44.toInt.toNat) := ⟨_, rfl⟩
  have VgW : OwnA Z T46.heap b7 .byte 16 (iv' gW) := by rw [hgW]; exact Vq46
  have N46 := Fr.app N42 N46q
  refine OwnG.st (F' := (mkF m 135 #[.val (.long q1), .second, .val (.int p2), .val (.int p3), .val (.int p4), .val (.long z5_2), .second, .val (.int z7_4), .val (.int (p4.toInt8.toInt32)), .val (.ref b7), .val (.int z10_44), .unset] [(.int (z7_4 + Int32.ofNat z10_44.toInt.toNat))])) (fun t k => st46 t (by rw [hv46]; exact k)) ?_
  clear Xb46 hb46 sb46 st46 hv46
  have hc144_47 : (z7_4 + Int32.ofNat z10_44.toInt.toNat) = (z7_4 + z10_44) := congrArg _ (own_rt _ (by have q := hcn.1; omega))
  have sg48 : ∀ tgt, Steps p.tables e below (T46.setTop (mkF m 160 #[.val (.long q1), .second, .val (.int p2), .val (.int p3), .val (.int p4), .val (.long z5_2), .second, .val (.int z7_4), .val (.int (p4.toInt8.toInt32)), .val (.ref b7), .val (.int z10_44), .val (.int (z7_4 + Int32.ofNat z10_44.toInt.toNat))] [(.int (p4.toInt8.toInt32)), (.long z5_2), (.int z10_44), (.int z7_4), (.int (0 : Int32)), (.ref b7)])) tgt → Steps p.tables e below (T46.setTop (mkF m 135 #[.val (.long q1), .second, .val (.int p2), .val (.int p3), .val (.int p4), .val (.long z5_2), .second, .val (.int z7_4), .val (.int (p4.toInt8.toInt32)), .val (.ref b7), .val (.int z10_44), .unset] [(.int (z7_4 + Int32.ofNat z10_44.toInt.toNat))])) tgt := by
    intro tgt kt
    refine XS.istore X46.here hx rfl (hb hby at_135) rfl (l' := #[.val (.long q1), .second, .val (.int p2), .val (.int p3), .val (.int p4), .val (.long z5_2), .second, .val (.int z7_4), .val (.int (p4.toInt8.toInt32)), .val (.ref b7), .val (.int z10_44), .val (.int (z7_4 + Int32.ofNat z10_44.toInt.toNat))]) rfl ?_
    show Steps p.tables e below (T46.setTop (mkF m 137 #[.val (.long q1), .second, .val (.int p2), .val (.int p3), .val (.int p4), .val (.long z5_2), .second, .val (.int z7_4), .val (.int (p4.toInt8.toInt32)), .val (.ref b7), .val (.int z10_44), .val (.int (z7_4 + Int32.ofNat z10_44.toInt.toNat))] [])) _
    refine XS.iload X46.here hx rfl (hb hby at_137) rfl ?_
    show Steps p.tables e below (T46.setTop (mkF m 139 #[.val (.long q1), .second, .val (.int p2), .val (.int p3), .val (.int p4), .val (.long z5_2), .second, .val (.int z7_4), .val (.int (p4.toInt8.toInt32)), .val (.ref b7), .val (.int z10_44), .val (.int (z7_4 + Int32.ofNat z10_44.toInt.toNat))] [(.int (z7_4 + Int32.ofNat z10_44.toInt.toNat))])) _
    refine XS.iload X46.here hx rfl (hb hby at_139) rfl ?_
    show Steps p.tables e below (T46.setTop (mkF m 141 #[.val (.long q1), .second, .val (.int p2), .val (.int p3), .val (.int p4), .val (.long z5_2), .second, .val (.int z7_4), .val (.int (p4.toInt8.toInt32)), .val (.ref b7), .val (.int z10_44), .val (.int (z7_4 + Int32.ofNat z10_44.toInt.toNat))] [(.int z7_4), (.int (z7_4 + Int32.ofNat z10_44.toInt.toNat))])) _
    refine XS.iload X46.here hx rfl (hb hby at_141) rfl ?_
    show Steps p.tables e below (T46.setTop (mkF m 143 #[.val (.long q1), .second, .val (.int p2), .val (.int p3), .val (.int p4), .val (.long z5_2), .second, .val (.int z7_4), .val (.int (p4.toInt8.toInt32)), .val (.ref b7), .val (.int z10_44), .val (.int (z7_4 + Int32.ofNat z10_44.toInt.toNat))] [(.int z10_44), (.int z7_4), (.int (z7_4 + Int32.ofNat z10_44.toInt.toNat))])) _
    refine XS.iadd X46.here hx rfl (hb hby at_143) rfl ?_
    show Steps p.tables e below (T46.setTop (mkF m 144 #[.val (.long q1), .second, .val (.int p2), .val (.int p3), .val (.int p4), .val (.long z5_2), .second, .val (.int z7_4), .val (.int (p4.toInt8.toInt32)), .val (.ref b7), .val (.int z10_44), .val (.int (z7_4 + Int32.ofNat z10_44.toInt.toNat))] [(.int (z7_4 + z10_44)), (.int (z7_4 + Int32.ofNat z10_44.toInt.toNat))])) _
    refine XS.icmpYes X46.here hx rfl (pc0 := 144) (pc' := 149) rfl (hb hby at_144) rfl (teq hc144_47).1 (by decide) (by decide) ?_
    show Steps p.tables e below (T46.setTop (mkF m 149 #[.val (.long q1), .second, .val (.int p2), .val (.int p3), .val (.int p4), .val (.long z5_2), .second, .val (.int z7_4), .val (.int (p4.toInt8.toInt32)), .val (.ref b7), .val (.int z10_44), .val (.int (z7_4 + Int32.ofNat z10_44.toInt.toNat))] [])) _
    refine XS.aload X46.here hx rfl (hb hby at_149) rfl rfl ?_
    show Steps p.tables e below (T46.setTop (mkF m 151 #[.val (.long q1), .second, .val (.int p2), .val (.int p3), .val (.int p4), .val (.long z5_2), .second, .val (.int z7_4), .val (.int (p4.toInt8.toInt32)), .val (.ref b7), .val (.int z10_44), .val (.int (z7_4 + Int32.ofNat z10_44.toInt.toNat))] [(.ref b7)])) _
    refine XS.iconst X46.here hx rfl (hb hby at_151) ?_
    show Steps p.tables e below (T46.setTop (mkF m 152 #[.val (.long q1), .second, .val (.int p2), .val (.int p3), .val (.int p4), .val (.long z5_2), .second, .val (.int z7_4), .val (.int (p4.toInt8.toInt32)), .val (.ref b7), .val (.int z10_44), .val (.int (z7_4 + Int32.ofNat z10_44.toInt.toNat))] [(.int (0 : Int32)), (.ref b7)])) _
    refine XS.iload X46.here hx rfl (hb hby at_152) rfl ?_
    show Steps p.tables e below (T46.setTop (mkF m 154 #[.val (.long q1), .second, .val (.int p2), .val (.int p3), .val (.int p4), .val (.long z5_2), .second, .val (.int z7_4), .val (.int (p4.toInt8.toInt32)), .val (.ref b7), .val (.int z10_44), .val (.int (z7_4 + Int32.ofNat z10_44.toInt.toNat))] [(.int z7_4), (.int (0 : Int32)), (.ref b7)])) _
    refine XS.iload X46.here hx rfl (hb hby at_154) rfl ?_
    show Steps p.tables e below (T46.setTop (mkF m 156 #[.val (.long q1), .second, .val (.int p2), .val (.int p3), .val (.int p4), .val (.long z5_2), .second, .val (.int z7_4), .val (.int (p4.toInt8.toInt32)), .val (.ref b7), .val (.int z10_44), .val (.int (z7_4 + Int32.ofNat z10_44.toInt.toNat))] [(.int z10_44), (.int z7_4), (.int (0 : Int32)), (.ref b7)])) _
    refine XS.lload X46.here hx rfl (hb hby at_156) rfl ?_
    show Steps p.tables e below (T46.setTop (mkF m 158 #[.val (.long q1), .second, .val (.int p2), .val (.int p3), .val (.int p4), .val (.long z5_2), .second, .val (.int z7_4), .val (.int (p4.toInt8.toInt32)), .val (.ref b7), .val (.int z10_44), .val (.int (z7_4 + Int32.ofNat z10_44.toInt.toNat))] [(.long z5_2), (.int z10_44), (.int z7_4), (.int (0 : Int32)), (.ref b7)])) _
    refine XS.iload X46.here hx rfl (hb hby at_158) rfl ?_
    show Steps p.tables e below (T46.setTop (mkF m 160 #[.val (.long q1), .second, .val (.int p2), .val (.int p3), .val (.int p4), .val (.long z5_2), .second, .val (.int z7_4), .val (.int (p4.toInt8.toInt32)), .val (.ref b7), .val (.int z10_44), .val (.int (z7_4 + Int32.ofNat z10_44.toInt.toNat))] [(.int (p4.toInt8.toInt32)), (.long z5_2), (.int z10_44), (.int z7_4), (.int (0 : Int32)), (.ref b7)])) _
    exact kt
  refine OwnG.st sg48 ?_
  obtain ⟨vb49, _, B49, -, Xb49, hb49, sb49⟩ := Jvm.LawKit.callS X46 hx (y := (⟨"com/example/guessd/guessd/VarintsWritePinLaw", "ok", "([BIIIJB)Z"⟩ : MethodName)) hown (mvT hZ (hw _ (List.mem_of_getElem? (i := 12) rfl))) (mvT hZ (hw _ (List.mem_of_getElem? (i := 13) rfl))) (mvT hZ (hw _ (List.mem_of_getElem? (i := 4) rfl))) (mvT hZ (hw _ (List.mem_of_getElem? (i := 14) rfl))) (by decide) (backOf (W := 0) (rm3 l Z a0 hw [] b7 (0 : Int32) z7_4 z10_44 z5_2 (p4.toInt8.toInt32) 16 gW T46.heap n0 Z46 VgW (by decide) (by decide)) hZ (hw _ (List.mem_of_getElem? (i := 14) rfl)) (hw _ (List.mem_of_getElem? (i := 4) rfl)) (by decide) (by decide)) (g := (mkF m 160 #[.val (.long q1), .second, .val (.int p2), .val (.int p3), .val (.int p4), .val (.long z5_2), .second, .val (.int z7_4), .val (.int (p4.toInt8.toInt32)), .val (.ref b7), .val (.int z10_44), .val (.int (z7_4 + Int32.ofNat z10_44.toInt.toNat))] [(.int (p4.toInt8.toInt32)), (.long z5_2), (.int z10_44), (.int z7_4), (.int (0 : Int32)), (.ref b7)])) rfl (by rw [hml]; rfl) (argsL := [(.ref b7), (.int (0 : Int32)), (.int z7_4), (.int z10_44), (.long z5_2), (.int (p4.toInt8.toInt32))]) (rest := []) (lenOf pd_0_2 rfl) rfl (by show 2 * 0 + _ ≤ _; exact Nat.le_of_eq rfl) (hb hby at_160) (fun _ _ => ⟨rfl, rfl, (by decide : 1 + 0 ≤ _), (by decide : 16 + 0 ≤ _)⟩)
  obtain ⟨T49, Lc49, vc49, X49, hQ49, st49⟩ := own_bk (F' := fun v => { ((mkF m 160 #[.val (.long q1), .second, .val (.int p2), .val (.int p3), .val (.int p4), .val (.long z5_2), .second, .val (.int z7_4), .val (.int (p4.toInt8.toInt32)), .val (.ref b7), .val (.int z10_44), .val (.int (z7_4 + Int32.ofNat z10_44.toInt.toNat))] [(.int (p4.toInt8.toInt32)), (.long z5_2), (.int z10_44), (.int z7_4), (.int (0 : Int32)), (.ref b7)]) : JFrame) with pc := 163, stack := v.toList ++ [] }) (ck := 1) (sn := 16) Xb49 hb49 sb49 rfl rfl
  obtain ⟨hv49, N49q, e49⟩ := hQ49
  have N49 := Fr.app N46 N49q
  refine OwnG.st (F' := (mkF m 163 #[.val (.long q1), .second, .val (.int p2), .val (.int p3), .val (.int p4), .val (.long z5_2), .second, .val (.int z7_4), .val (.int (p4.toInt8.toInt32)), .val (.ref b7), .val (.int z10_44), .val (.int (z7_4 + Int32.ofNat z10_44.toInt.toNat))] [(.int (F3 (0 : Int32) z7_4 z10_44 z5_2 (p4.toInt8.toInt32) gW))])) (fun t k => st49 t (by rw [hv49]; exact k)) ?_
  clear Xb49 hb49 sb49 st49 hv49
  have hc163_50 : ¬ ((F3 (0 : Int32) z7_4 z10_44 z5_2 (p4.toInt8.toInt32) gW) = (0 : Int32)) := by rw [hgW, hz10_44]; exact own_okk gB _ _ p4 0 0 rfl (by decide) hat hv0 (by rw [hgB]; rfl)
  have sg51 : ∀ tgt, Steps p.tables e below (T49.setTop (mkF m 177 #[.val (.long q1), .second, .val (.int p2), .val (.int p3), .val (.int p4), .val (.long z5_2), .second, .val (.int z7_4), .val (.int (p4.toInt8.toInt32)), .val (.ref b7), .val (.int z10_44), .val (.int (z7_4 + Int32.ofNat z10_44.toInt.toNat))] [(.int (p4.toInt8.toInt32)), (.long z5_2), (.int z10_44), (.int z7_4), (.int (1 : Int32)), (.ref b7)])) tgt → Steps p.tables e below (T49.setTop (mkF m 163 #[.val (.long q1), .second, .val (.int p2), .val (.int p3), .val (.int p4), .val (.long z5_2), .second, .val (.int z7_4), .val (.int (p4.toInt8.toInt32)), .val (.ref b7), .val (.int z10_44), .val (.int (z7_4 + Int32.ofNat z10_44.toInt.toNat))] [(.int (F3 (0 : Int32) z7_4 z10_44 z5_2 (p4.toInt8.toInt32) gW))])) tgt := by
    intro tgt kt
    refine XS.ifNo X49.here hx rfl (hb hby at_163) rfl ((if0 _ _).trans (feq hc163_50).1) ?_
    show Steps p.tables e below (T49.setTop (mkF m 166 #[.val (.long q1), .second, .val (.int p2), .val (.int p3), .val (.int p4), .val (.long z5_2), .second, .val (.int z7_4), .val (.int (p4.toInt8.toInt32)), .val (.ref b7), .val (.int z10_44), .val (.int (z7_4 + Int32.ofNat z10_44.toInt.toNat))] [])) _
    refine XS.aload X49.here hx rfl (hb hby at_166) rfl rfl ?_
    show Steps p.tables e below (T49.setTop (mkF m 168 #[.val (.long q1), .second, .val (.int p2), .val (.int p3), .val (.int p4), .val (.long z5_2), .second, .val (.int z7_4), .val (.int (p4.toInt8.toInt32)), .val (.ref b7), .val (.int z10_44), .val (.int (z7_4 + Int32.ofNat z10_44.toInt.toNat))] [(.ref b7)])) _
    refine XS.iconst X49.here hx rfl (hb hby at_168) ?_
    show Steps p.tables e below (T49.setTop (mkF m 169 #[.val (.long q1), .second, .val (.int p2), .val (.int p3), .val (.int p4), .val (.long z5_2), .second, .val (.int z7_4), .val (.int (p4.toInt8.toInt32)), .val (.ref b7), .val (.int z10_44), .val (.int (z7_4 + Int32.ofNat z10_44.toInt.toNat))] [(.int (1 : Int32)), (.ref b7)])) _
    refine XS.iload X49.here hx rfl (hb hby at_169) rfl ?_
    show Steps p.tables e below (T49.setTop (mkF m 171 #[.val (.long q1), .second, .val (.int p2), .val (.int p3), .val (.int p4), .val (.long z5_2), .second, .val (.int z7_4), .val (.int (p4.toInt8.toInt32)), .val (.ref b7), .val (.int z10_44), .val (.int (z7_4 + Int32.ofNat z10_44.toInt.toNat))] [(.int z7_4), (.int (1 : Int32)), (.ref b7)])) _
    refine XS.iload X49.here hx rfl (hb hby at_171) rfl ?_
    show Steps p.tables e below (T49.setTop (mkF m 173 #[.val (.long q1), .second, .val (.int p2), .val (.int p3), .val (.int p4), .val (.long z5_2), .second, .val (.int z7_4), .val (.int (p4.toInt8.toInt32)), .val (.ref b7), .val (.int z10_44), .val (.int (z7_4 + Int32.ofNat z10_44.toInt.toNat))] [(.int z10_44), (.int z7_4), (.int (1 : Int32)), (.ref b7)])) _
    refine XS.lload X49.here hx rfl (hb hby at_173) rfl ?_
    show Steps p.tables e below (T49.setTop (mkF m 175 #[.val (.long q1), .second, .val (.int p2), .val (.int p3), .val (.int p4), .val (.long z5_2), .second, .val (.int z7_4), .val (.int (p4.toInt8.toInt32)), .val (.ref b7), .val (.int z10_44), .val (.int (z7_4 + Int32.ofNat z10_44.toInt.toNat))] [(.long z5_2), (.int z10_44), (.int z7_4), (.int (1 : Int32)), (.ref b7)])) _
    refine XS.iload X49.here hx rfl (hb hby at_175) rfl ?_
    show Steps p.tables e below (T49.setTop (mkF m 177 #[.val (.long q1), .second, .val (.int p2), .val (.int p3), .val (.int p4), .val (.long z5_2), .second, .val (.int z7_4), .val (.int (p4.toInt8.toInt32)), .val (.ref b7), .val (.int z10_44), .val (.int (z7_4 + Int32.ofNat z10_44.toInt.toNat))] [(.int (p4.toInt8.toInt32)), (.long z5_2), (.int z10_44), (.int z7_4), (.int (1 : Int32)), (.ref b7)])) _
    exact kt
  refine OwnG.st sg51 ?_
  obtain ⟨vb52, _, B52, -, Xb52, hb52, sb52⟩ := Jvm.LawKit.callS X49 hx (y := (⟨"com/example/guessd/guessd/VarintsWritePinLaw", "ok", "([BIIIJB)Z"⟩ : MethodName)) hown (mvT hZ (hw _ (List.mem_of_getElem? (i := 12) rfl))) (mvT hZ (hw _ (List.mem_of_getElem? (i := 13) rfl))) (mvT hZ (hw _ (List.mem_of_getElem? (i := 4) rfl))) (mvT hZ (hw _ (List.mem_of_getElem? (i := 14) rfl))) (by decide) (backOf (W := 0) (rm3 l Z a0 hw [] b7 (1 : Int32) z7_4 z10_44 z5_2 (p4.toInt8.toInt32) 16 gW T46.heap n0 Z46 VgW (by decide) (by decide)) hZ (hw _ (List.mem_of_getElem? (i := 14) rfl)) (hw _ (List.mem_of_getElem? (i := 4) rfl)) (by decide) (by decide)) (g := (mkF m 177 #[.val (.long q1), .second, .val (.int p2), .val (.int p3), .val (.int p4), .val (.long z5_2), .second, .val (.int z7_4), .val (.int (p4.toInt8.toInt32)), .val (.ref b7), .val (.int z10_44), .val (.int (z7_4 + Int32.ofNat z10_44.toInt.toNat))] [(.int (p4.toInt8.toInt32)), (.long z5_2), (.int z10_44), (.int z7_4), (.int (1 : Int32)), (.ref b7)])) rfl (by rw [hml]; rfl) (argsL := [(.ref b7), (.int (1 : Int32)), (.int z7_4), (.int z10_44), (.long z5_2), (.int (p4.toInt8.toInt32))]) (rest := []) (lenOf pd_0_2 rfl) rfl (by show 2 * 0 + _ ≤ _; exact Nat.le_of_eq rfl) (hb hby at_177) (fun _ _ => ⟨rfl, e49, (by decide : 1 + 0 ≤ _), (by decide : 16 + 0 ≤ _)⟩)
  obtain ⟨T52, Lc52, vc52, X52, hQ52, st52⟩ := own_bk (F' := fun v => { ((mkF m 177 #[.val (.long q1), .second, .val (.int p2), .val (.int p3), .val (.int p4), .val (.long z5_2), .second, .val (.int z7_4), .val (.int (p4.toInt8.toInt32)), .val (.ref b7), .val (.int z10_44), .val (.int (z7_4 + Int32.ofNat z10_44.toInt.toNat))] [(.int (p4.toInt8.toInt32)), (.long z5_2), (.int z10_44), (.int z7_4), (.int (1 : Int32)), (.ref b7)]) : JFrame) with pc := 180, stack := v.toList ++ [] }) (ck := 1) (sn := 16) Xb52 hb52 sb52 rfl rfl
  obtain ⟨hv52, N52q, e52⟩ := hQ52
  have N52 := Fr.app N49 N52q
  refine OwnG.st (F' := (mkF m 180 #[.val (.long q1), .second, .val (.int p2), .val (.int p3), .val (.int p4), .val (.long z5_2), .second, .val (.int z7_4), .val (.int (p4.toInt8.toInt32)), .val (.ref b7), .val (.int z10_44), .val (.int (z7_4 + Int32.ofNat z10_44.toInt.toNat))] [(.int (F3 (1 : Int32) z7_4 z10_44 z5_2 (p4.toInt8.toInt32) gW))])) (fun t k => st52 t (by rw [hv52]; exact k)) ?_
  clear Xb52 hb52 sb52 st52 hv52
  have hc180_53 : ¬ ((F3 (1 : Int32) z7_4 z10_44 z5_2 (p4.toInt8.toInt32) gW) = (0 : Int32)) := by rw [hgW, hz10_44]; exact own_okk gB _ _ p4 1 1 rfl (by decide) hat hv0 (by rw [hgB]; rfl)
  have sg54 : ∀ tgt, Steps p.tables e below (T52.setTop (mkF m 194 #[.val (.long q1), .second, .val (.int p2), .val (.int p3), .val (.int p4), .val (.long z5_2), .second, .val (.int z7_4), .val (.int (p4.toInt8.toInt32)), .val (.ref b7), .val (.int z10_44), .val (.int (z7_4 + Int32.ofNat z10_44.toInt.toNat))] [(.int (p4.toInt8.toInt32)), (.long z5_2), (.int z10_44), (.int z7_4), (.int (2 : Int32)), (.ref b7)])) tgt → Steps p.tables e below (T52.setTop (mkF m 180 #[.val (.long q1), .second, .val (.int p2), .val (.int p3), .val (.int p4), .val (.long z5_2), .second, .val (.int z7_4), .val (.int (p4.toInt8.toInt32)), .val (.ref b7), .val (.int z10_44), .val (.int (z7_4 + Int32.ofNat z10_44.toInt.toNat))] [(.int (F3 (1 : Int32) z7_4 z10_44 z5_2 (p4.toInt8.toInt32) gW))])) tgt := by
    intro tgt kt
    refine XS.ifNo X52.here hx rfl (hb hby at_180) rfl ((if0 _ _).trans (feq hc180_53).1) ?_
    show Steps p.tables e below (T52.setTop (mkF m 183 #[.val (.long q1), .second, .val (.int p2), .val (.int p3), .val (.int p4), .val (.long z5_2), .second, .val (.int z7_4), .val (.int (p4.toInt8.toInt32)), .val (.ref b7), .val (.int z10_44), .val (.int (z7_4 + Int32.ofNat z10_44.toInt.toNat))] [])) _
    refine XS.aload X52.here hx rfl (hb hby at_183) rfl rfl ?_
    show Steps p.tables e below (T52.setTop (mkF m 185 #[.val (.long q1), .second, .val (.int p2), .val (.int p3), .val (.int p4), .val (.long z5_2), .second, .val (.int z7_4), .val (.int (p4.toInt8.toInt32)), .val (.ref b7), .val (.int z10_44), .val (.int (z7_4 + Int32.ofNat z10_44.toInt.toNat))] [(.ref b7)])) _
    refine XS.iconst X52.here hx rfl (hb hby at_185) ?_
    show Steps p.tables e below (T52.setTop (mkF m 186 #[.val (.long q1), .second, .val (.int p2), .val (.int p3), .val (.int p4), .val (.long z5_2), .second, .val (.int z7_4), .val (.int (p4.toInt8.toInt32)), .val (.ref b7), .val (.int z10_44), .val (.int (z7_4 + Int32.ofNat z10_44.toInt.toNat))] [(.int (2 : Int32)), (.ref b7)])) _
    refine XS.iload X52.here hx rfl (hb hby at_186) rfl ?_
    show Steps p.tables e below (T52.setTop (mkF m 188 #[.val (.long q1), .second, .val (.int p2), .val (.int p3), .val (.int p4), .val (.long z5_2), .second, .val (.int z7_4), .val (.int (p4.toInt8.toInt32)), .val (.ref b7), .val (.int z10_44), .val (.int (z7_4 + Int32.ofNat z10_44.toInt.toNat))] [(.int z7_4), (.int (2 : Int32)), (.ref b7)])) _
    refine XS.iload X52.here hx rfl (hb hby at_188) rfl ?_
    show Steps p.tables e below (T52.setTop (mkF m 190 #[.val (.long q1), .second, .val (.int p2), .val (.int p3), .val (.int p4), .val (.long z5_2), .second, .val (.int z7_4), .val (.int (p4.toInt8.toInt32)), .val (.ref b7), .val (.int z10_44), .val (.int (z7_4 + Int32.ofNat z10_44.toInt.toNat))] [(.int z10_44), (.int z7_4), (.int (2 : Int32)), (.ref b7)])) _
    refine XS.lload X52.here hx rfl (hb hby at_190) rfl ?_
    show Steps p.tables e below (T52.setTop (mkF m 192 #[.val (.long q1), .second, .val (.int p2), .val (.int p3), .val (.int p4), .val (.long z5_2), .second, .val (.int z7_4), .val (.int (p4.toInt8.toInt32)), .val (.ref b7), .val (.int z10_44), .val (.int (z7_4 + Int32.ofNat z10_44.toInt.toNat))] [(.long z5_2), (.int z10_44), (.int z7_4), (.int (2 : Int32)), (.ref b7)])) _
    refine XS.iload X52.here hx rfl (hb hby at_192) rfl ?_
    show Steps p.tables e below (T52.setTop (mkF m 194 #[.val (.long q1), .second, .val (.int p2), .val (.int p3), .val (.int p4), .val (.long z5_2), .second, .val (.int z7_4), .val (.int (p4.toInt8.toInt32)), .val (.ref b7), .val (.int z10_44), .val (.int (z7_4 + Int32.ofNat z10_44.toInt.toNat))] [(.int (p4.toInt8.toInt32)), (.long z5_2), (.int z10_44), (.int z7_4), (.int (2 : Int32)), (.ref b7)])) _
    exact kt
  refine OwnG.st sg54 ?_
  obtain ⟨vb55, _, B55, -, Xb55, hb55, sb55⟩ := Jvm.LawKit.callS X52 hx (y := (⟨"com/example/guessd/guessd/VarintsWritePinLaw", "ok", "([BIIIJB)Z"⟩ : MethodName)) hown (mvT hZ (hw _ (List.mem_of_getElem? (i := 12) rfl))) (mvT hZ (hw _ (List.mem_of_getElem? (i := 13) rfl))) (mvT hZ (hw _ (List.mem_of_getElem? (i := 4) rfl))) (mvT hZ (hw _ (List.mem_of_getElem? (i := 14) rfl))) (by decide) (backOf (W := 0) (rm3 l Z a0 hw [] b7 (2 : Int32) z7_4 z10_44 z5_2 (p4.toInt8.toInt32) 16 gW T46.heap n0 Z46 VgW (by decide) (by decide)) hZ (hw _ (List.mem_of_getElem? (i := 14) rfl)) (hw _ (List.mem_of_getElem? (i := 4) rfl)) (by decide) (by decide)) (g := (mkF m 194 #[.val (.long q1), .second, .val (.int p2), .val (.int p3), .val (.int p4), .val (.long z5_2), .second, .val (.int z7_4), .val (.int (p4.toInt8.toInt32)), .val (.ref b7), .val (.int z10_44), .val (.int (z7_4 + Int32.ofNat z10_44.toInt.toNat))] [(.int (p4.toInt8.toInt32)), (.long z5_2), (.int z10_44), (.int z7_4), (.int (2 : Int32)), (.ref b7)])) rfl (by rw [hml]; rfl) (argsL := [(.ref b7), (.int (2 : Int32)), (.int z7_4), (.int z10_44), (.long z5_2), (.int (p4.toInt8.toInt32))]) (rest := []) (lenOf pd_0_2 rfl) rfl (by show 2 * 0 + _ ≤ _; exact Nat.le_of_eq rfl) (hb hby at_194) (fun _ _ => ⟨rfl, e52, (by decide : 1 + 0 ≤ _), (by decide : 16 + 0 ≤ _)⟩)
  obtain ⟨T55, Lc55, vc55, X55, hQ55, st55⟩ := own_bk (F' := fun v => { ((mkF m 194 #[.val (.long q1), .second, .val (.int p2), .val (.int p3), .val (.int p4), .val (.long z5_2), .second, .val (.int z7_4), .val (.int (p4.toInt8.toInt32)), .val (.ref b7), .val (.int z10_44), .val (.int (z7_4 + Int32.ofNat z10_44.toInt.toNat))] [(.int (p4.toInt8.toInt32)), (.long z5_2), (.int z10_44), (.int z7_4), (.int (2 : Int32)), (.ref b7)]) : JFrame) with pc := 197, stack := v.toList ++ [] }) (ck := 1) (sn := 16) Xb55 hb55 sb55 rfl rfl
  obtain ⟨hv55, N55q, e55⟩ := hQ55
  have N55 := Fr.app N52 N55q
  refine OwnG.st (F' := (mkF m 197 #[.val (.long q1), .second, .val (.int p2), .val (.int p3), .val (.int p4), .val (.long z5_2), .second, .val (.int z7_4), .val (.int (p4.toInt8.toInt32)), .val (.ref b7), .val (.int z10_44), .val (.int (z7_4 + Int32.ofNat z10_44.toInt.toNat))] [(.int (F3 (2 : Int32) z7_4 z10_44 z5_2 (p4.toInt8.toInt32) gW))])) (fun t k => st55 t (by rw [hv55]; exact k)) ?_
  clear Xb55 hb55 sb55 st55 hv55
  have hc197_56 : ¬ ((F3 (2 : Int32) z7_4 z10_44 z5_2 (p4.toInt8.toInt32) gW) = (0 : Int32)) := by rw [hgW, hz10_44]; exact own_okk gB _ _ p4 2 2 rfl (by decide) hat hv0 (by rw [hgB]; rfl)
  have sg57 : ∀ tgt, Steps p.tables e below (T55.setTop (mkF m 211 #[.val (.long q1), .second, .val (.int p2), .val (.int p3), .val (.int p4), .val (.long z5_2), .second, .val (.int z7_4), .val (.int (p4.toInt8.toInt32)), .val (.ref b7), .val (.int z10_44), .val (.int (z7_4 + Int32.ofNat z10_44.toInt.toNat))] [(.int (p4.toInt8.toInt32)), (.long z5_2), (.int z10_44), (.int z7_4), (.int (3 : Int32)), (.ref b7)])) tgt → Steps p.tables e below (T55.setTop (mkF m 197 #[.val (.long q1), .second, .val (.int p2), .val (.int p3), .val (.int p4), .val (.long z5_2), .second, .val (.int z7_4), .val (.int (p4.toInt8.toInt32)), .val (.ref b7), .val (.int z10_44), .val (.int (z7_4 + Int32.ofNat z10_44.toInt.toNat))] [(.int (F3 (2 : Int32) z7_4 z10_44 z5_2 (p4.toInt8.toInt32) gW))])) tgt := by
    intro tgt kt
    refine XS.ifNo X55.here hx rfl (hb hby at_197) rfl ((if0 _ _).trans (feq hc197_56).1) ?_
    show Steps p.tables e below (T55.setTop (mkF m 200 #[.val (.long q1), .second, .val (.int p2), .val (.int p3), .val (.int p4), .val (.long z5_2), .second, .val (.int z7_4), .val (.int (p4.toInt8.toInt32)), .val (.ref b7), .val (.int z10_44), .val (.int (z7_4 + Int32.ofNat z10_44.toInt.toNat))] [])) _
    refine XS.aload X55.here hx rfl (hb hby at_200) rfl rfl ?_
    show Steps p.tables e below (T55.setTop (mkF m 202 #[.val (.long q1), .second, .val (.int p2), .val (.int p3), .val (.int p4), .val (.long z5_2), .second, .val (.int z7_4), .val (.int (p4.toInt8.toInt32)), .val (.ref b7), .val (.int z10_44), .val (.int (z7_4 + Int32.ofNat z10_44.toInt.toNat))] [(.ref b7)])) _
    refine XS.iconst X55.here hx rfl (hb hby at_202) ?_
    show Steps p.tables e below (T55.setTop (mkF m 203 #[.val (.long q1), .second, .val (.int p2), .val (.int p3), .val (.int p4), .val (.long z5_2), .second, .val (.int z7_4), .val (.int (p4.toInt8.toInt32)), .val (.ref b7), .val (.int z10_44), .val (.int (z7_4 + Int32.ofNat z10_44.toInt.toNat))] [(.int (3 : Int32)), (.ref b7)])) _
    refine XS.iload X55.here hx rfl (hb hby at_203) rfl ?_
    show Steps p.tables e below (T55.setTop (mkF m 205 #[.val (.long q1), .second, .val (.int p2), .val (.int p3), .val (.int p4), .val (.long z5_2), .second, .val (.int z7_4), .val (.int (p4.toInt8.toInt32)), .val (.ref b7), .val (.int z10_44), .val (.int (z7_4 + Int32.ofNat z10_44.toInt.toNat))] [(.int z7_4), (.int (3 : Int32)), (.ref b7)])) _
    refine XS.iload X55.here hx rfl (hb hby at_205) rfl ?_
    show Steps p.tables e below (T55.setTop (mkF m 207 #[.val (.long q1), .second, .val (.int p2), .val (.int p3), .val (.int p4), .val (.long z5_2), .second, .val (.int z7_4), .val (.int (p4.toInt8.toInt32)), .val (.ref b7), .val (.int z10_44), .val (.int (z7_4 + Int32.ofNat z10_44.toInt.toNat))] [(.int z10_44), (.int z7_4), (.int (3 : Int32)), (.ref b7)])) _
    refine XS.lload X55.here hx rfl (hb hby at_207) rfl ?_
    show Steps p.tables e below (T55.setTop (mkF m 209 #[.val (.long q1), .second, .val (.int p2), .val (.int p3), .val (.int p4), .val (.long z5_2), .second, .val (.int z7_4), .val (.int (p4.toInt8.toInt32)), .val (.ref b7), .val (.int z10_44), .val (.int (z7_4 + Int32.ofNat z10_44.toInt.toNat))] [(.long z5_2), (.int z10_44), (.int z7_4), (.int (3 : Int32)), (.ref b7)])) _
    refine XS.iload X55.here hx rfl (hb hby at_209) rfl ?_
    show Steps p.tables e below (T55.setTop (mkF m 211 #[.val (.long q1), .second, .val (.int p2), .val (.int p3), .val (.int p4), .val (.long z5_2), .second, .val (.int z7_4), .val (.int (p4.toInt8.toInt32)), .val (.ref b7), .val (.int z10_44), .val (.int (z7_4 + Int32.ofNat z10_44.toInt.toNat))] [(.int (p4.toInt8.toInt32)), (.long z5_2), (.int z10_44), (.int z7_4), (.int (3 : Int32)), (.ref b7)])) _
    exact kt
  refine OwnG.st sg57 ?_
  obtain ⟨vb58, _, B58, -, Xb58, hb58, sb58⟩ := Jvm.LawKit.callS X55 hx (y := (⟨"com/example/guessd/guessd/VarintsWritePinLaw", "ok", "([BIIIJB)Z"⟩ : MethodName)) hown (mvT hZ (hw _ (List.mem_of_getElem? (i := 12) rfl))) (mvT hZ (hw _ (List.mem_of_getElem? (i := 13) rfl))) (mvT hZ (hw _ (List.mem_of_getElem? (i := 4) rfl))) (mvT hZ (hw _ (List.mem_of_getElem? (i := 14) rfl))) (by decide) (backOf (W := 0) (rm3 l Z a0 hw [] b7 (3 : Int32) z7_4 z10_44 z5_2 (p4.toInt8.toInt32) 16 gW T46.heap n0 Z46 VgW (by decide) (by decide)) hZ (hw _ (List.mem_of_getElem? (i := 14) rfl)) (hw _ (List.mem_of_getElem? (i := 4) rfl)) (by decide) (by decide)) (g := (mkF m 211 #[.val (.long q1), .second, .val (.int p2), .val (.int p3), .val (.int p4), .val (.long z5_2), .second, .val (.int z7_4), .val (.int (p4.toInt8.toInt32)), .val (.ref b7), .val (.int z10_44), .val (.int (z7_4 + Int32.ofNat z10_44.toInt.toNat))] [(.int (p4.toInt8.toInt32)), (.long z5_2), (.int z10_44), (.int z7_4), (.int (3 : Int32)), (.ref b7)])) rfl (by rw [hml]; rfl) (argsL := [(.ref b7), (.int (3 : Int32)), (.int z7_4), (.int z10_44), (.long z5_2), (.int (p4.toInt8.toInt32))]) (rest := []) (lenOf pd_0_2 rfl) rfl (by show 2 * 0 + _ ≤ _; exact Nat.le_of_eq rfl) (hb hby at_211) (fun _ _ => ⟨rfl, e55, (by decide : 1 + 0 ≤ _), (by decide : 16 + 0 ≤ _)⟩)
  obtain ⟨T58, Lc58, vc58, X58, hQ58, st58⟩ := own_bk (F' := fun v => { ((mkF m 211 #[.val (.long q1), .second, .val (.int p2), .val (.int p3), .val (.int p4), .val (.long z5_2), .second, .val (.int z7_4), .val (.int (p4.toInt8.toInt32)), .val (.ref b7), .val (.int z10_44), .val (.int (z7_4 + Int32.ofNat z10_44.toInt.toNat))] [(.int (p4.toInt8.toInt32)), (.long z5_2), (.int z10_44), (.int z7_4), (.int (3 : Int32)), (.ref b7)]) : JFrame) with pc := 214, stack := v.toList ++ [] }) (ck := 1) (sn := 16) Xb58 hb58 sb58 rfl rfl
  obtain ⟨hv58, N58q, e58⟩ := hQ58
  have N58 := Fr.app N55 N58q
  refine OwnG.st (F' := (mkF m 214 #[.val (.long q1), .second, .val (.int p2), .val (.int p3), .val (.int p4), .val (.long z5_2), .second, .val (.int z7_4), .val (.int (p4.toInt8.toInt32)), .val (.ref b7), .val (.int z10_44), .val (.int (z7_4 + Int32.ofNat z10_44.toInt.toNat))] [(.int (F3 (3 : Int32) z7_4 z10_44 z5_2 (p4.toInt8.toInt32) gW))])) (fun t k => st58 t (by rw [hv58]; exact k)) ?_
  clear Xb58 hb58 sb58 st58 hv58
  have hc214_59 : ¬ ((F3 (3 : Int32) z7_4 z10_44 z5_2 (p4.toInt8.toInt32) gW) = (0 : Int32)) := by rw [hgW, hz10_44]; exact own_okk gB _ _ p4 3 3 rfl (by decide) hat hv0 (by rw [hgB]; rfl)
  have sg60 : ∀ tgt, Steps p.tables e below (T58.setTop (mkF m 228 #[.val (.long q1), .second, .val (.int p2), .val (.int p3), .val (.int p4), .val (.long z5_2), .second, .val (.int z7_4), .val (.int (p4.toInt8.toInt32)), .val (.ref b7), .val (.int z10_44), .val (.int (z7_4 + Int32.ofNat z10_44.toInt.toNat))] [(.int (p4.toInt8.toInt32)), (.long z5_2), (.int z10_44), (.int z7_4), (.int (4 : Int32)), (.ref b7)])) tgt → Steps p.tables e below (T58.setTop (mkF m 214 #[.val (.long q1), .second, .val (.int p2), .val (.int p3), .val (.int p4), .val (.long z5_2), .second, .val (.int z7_4), .val (.int (p4.toInt8.toInt32)), .val (.ref b7), .val (.int z10_44), .val (.int (z7_4 + Int32.ofNat z10_44.toInt.toNat))] [(.int (F3 (3 : Int32) z7_4 z10_44 z5_2 (p4.toInt8.toInt32) gW))])) tgt := by
    intro tgt kt
    refine XS.ifNo X58.here hx rfl (hb hby at_214) rfl ((if0 _ _).trans (feq hc214_59).1) ?_
    show Steps p.tables e below (T58.setTop (mkF m 217 #[.val (.long q1), .second, .val (.int p2), .val (.int p3), .val (.int p4), .val (.long z5_2), .second, .val (.int z7_4), .val (.int (p4.toInt8.toInt32)), .val (.ref b7), .val (.int z10_44), .val (.int (z7_4 + Int32.ofNat z10_44.toInt.toNat))] [])) _
    refine XS.aload X58.here hx rfl (hb hby at_217) rfl rfl ?_
    show Steps p.tables e below (T58.setTop (mkF m 219 #[.val (.long q1), .second, .val (.int p2), .val (.int p3), .val (.int p4), .val (.long z5_2), .second, .val (.int z7_4), .val (.int (p4.toInt8.toInt32)), .val (.ref b7), .val (.int z10_44), .val (.int (z7_4 + Int32.ofNat z10_44.toInt.toNat))] [(.ref b7)])) _
    refine XS.iconst X58.here hx rfl (hb hby at_219) ?_
    show Steps p.tables e below (T58.setTop (mkF m 220 #[.val (.long q1), .second, .val (.int p2), .val (.int p3), .val (.int p4), .val (.long z5_2), .second, .val (.int z7_4), .val (.int (p4.toInt8.toInt32)), .val (.ref b7), .val (.int z10_44), .val (.int (z7_4 + Int32.ofNat z10_44.toInt.toNat))] [(.int (4 : Int32)), (.ref b7)])) _
    refine XS.iload X58.here hx rfl (hb hby at_220) rfl ?_
    show Steps p.tables e below (T58.setTop (mkF m 222 #[.val (.long q1), .second, .val (.int p2), .val (.int p3), .val (.int p4), .val (.long z5_2), .second, .val (.int z7_4), .val (.int (p4.toInt8.toInt32)), .val (.ref b7), .val (.int z10_44), .val (.int (z7_4 + Int32.ofNat z10_44.toInt.toNat))] [(.int z7_4), (.int (4 : Int32)), (.ref b7)])) _
    refine XS.iload X58.here hx rfl (hb hby at_222) rfl ?_
    show Steps p.tables e below (T58.setTop (mkF m 224 #[.val (.long q1), .second, .val (.int p2), .val (.int p3), .val (.int p4), .val (.long z5_2), .second, .val (.int z7_4), .val (.int (p4.toInt8.toInt32)), .val (.ref b7), .val (.int z10_44), .val (.int (z7_4 + Int32.ofNat z10_44.toInt.toNat))] [(.int z10_44), (.int z7_4), (.int (4 : Int32)), (.ref b7)])) _
    refine XS.lload X58.here hx rfl (hb hby at_224) rfl ?_
    show Steps p.tables e below (T58.setTop (mkF m 226 #[.val (.long q1), .second, .val (.int p2), .val (.int p3), .val (.int p4), .val (.long z5_2), .second, .val (.int z7_4), .val (.int (p4.toInt8.toInt32)), .val (.ref b7), .val (.int z10_44), .val (.int (z7_4 + Int32.ofNat z10_44.toInt.toNat))] [(.long z5_2), (.int z10_44), (.int z7_4), (.int (4 : Int32)), (.ref b7)])) _
    refine XS.iload X58.here hx rfl (hb hby at_226) rfl ?_
    show Steps p.tables e below (T58.setTop (mkF m 228 #[.val (.long q1), .second, .val (.int p2), .val (.int p3), .val (.int p4), .val (.long z5_2), .second, .val (.int z7_4), .val (.int (p4.toInt8.toInt32)), .val (.ref b7), .val (.int z10_44), .val (.int (z7_4 + Int32.ofNat z10_44.toInt.toNat))] [(.int (p4.toInt8.toInt32)), (.long z5_2), (.int z10_44), (.int z7_4), (.int (4 : Int32)), (.ref b7)])) _
    exact kt
  refine OwnG.st sg60 ?_
  obtain ⟨vb61, _, B61, -, Xb61, hb61, sb61⟩ := Jvm.LawKit.callS X58 hx (y := (⟨"com/example/guessd/guessd/VarintsWritePinLaw", "ok", "([BIIIJB)Z"⟩ : MethodName)) hown (mvT hZ (hw _ (List.mem_of_getElem? (i := 12) rfl))) (mvT hZ (hw _ (List.mem_of_getElem? (i := 13) rfl))) (mvT hZ (hw _ (List.mem_of_getElem? (i := 4) rfl))) (mvT hZ (hw _ (List.mem_of_getElem? (i := 14) rfl))) (by decide) (backOf (W := 0) (rm3 l Z a0 hw [] b7 (4 : Int32) z7_4 z10_44 z5_2 (p4.toInt8.toInt32) 16 gW T46.heap n0 Z46 VgW (by decide) (by decide)) hZ (hw _ (List.mem_of_getElem? (i := 14) rfl)) (hw _ (List.mem_of_getElem? (i := 4) rfl)) (by decide) (by decide)) (g := (mkF m 228 #[.val (.long q1), .second, .val (.int p2), .val (.int p3), .val (.int p4), .val (.long z5_2), .second, .val (.int z7_4), .val (.int (p4.toInt8.toInt32)), .val (.ref b7), .val (.int z10_44), .val (.int (z7_4 + Int32.ofNat z10_44.toInt.toNat))] [(.int (p4.toInt8.toInt32)), (.long z5_2), (.int z10_44), (.int z7_4), (.int (4 : Int32)), (.ref b7)])) rfl (by rw [hml]; rfl) (argsL := [(.ref b7), (.int (4 : Int32)), (.int z7_4), (.int z10_44), (.long z5_2), (.int (p4.toInt8.toInt32))]) (rest := []) (lenOf pd_0_2 rfl) rfl (by show 2 * 0 + _ ≤ _; exact Nat.le_of_eq rfl) (hb hby at_228) (fun _ _ => ⟨rfl, e58, (by decide : 1 + 0 ≤ _), (by decide : 16 + 0 ≤ _)⟩)
  obtain ⟨T61, Lc61, vc61, X61, hQ61, st61⟩ := own_bk (F' := fun v => { ((mkF m 228 #[.val (.long q1), .second, .val (.int p2), .val (.int p3), .val (.int p4), .val (.long z5_2), .second, .val (.int z7_4), .val (.int (p4.toInt8.toInt32)), .val (.ref b7), .val (.int z10_44), .val (.int (z7_4 + Int32.ofNat z10_44.toInt.toNat))] [(.int (p4.toInt8.toInt32)), (.long z5_2), (.int z10_44), (.int z7_4), (.int (4 : Int32)), (.ref b7)]) : JFrame) with pc := 231, stack := v.toList ++ [] }) (ck := 1) (sn := 16) Xb61 hb61 sb61 rfl rfl
  obtain ⟨hv61, N61q, e61⟩ := hQ61
  have N61 := Fr.app N58 N61q
  refine OwnG.st (F' := (mkF m 231 #[.val (.long q1), .second, .val (.int p2), .val (.int p3), .val (.int p4), .val (.long z5_2), .second, .val (.int z7_4), .val (.int (p4.toInt8.toInt32)), .val (.ref b7), .val (.int z10_44), .val (.int (z7_4 + Int32.ofNat z10_44.toInt.toNat))] [(.int (F3 (4 : Int32) z7_4 z10_44 z5_2 (p4.toInt8.toInt32) gW))])) (fun t k => st61 t (by rw [hv61]; exact k)) ?_
  clear Xb61 hb61 sb61 st61 hv61
  have hc231_62 : ¬ ((F3 (4 : Int32) z7_4 z10_44 z5_2 (p4.toInt8.toInt32) gW) = (0 : Int32)) := by rw [hgW, hz10_44]; exact own_okk gB _ _ p4 4 4 rfl (by decide) hat hv0 (by rw [hgB]; rfl)
  have sg63 : ∀ tgt, Steps p.tables e below (T61.setTop (mkF m 245 #[.val (.long q1), .second, .val (.int p2), .val (.int p3), .val (.int p4), .val (.long z5_2), .second, .val (.int z7_4), .val (.int (p4.toInt8.toInt32)), .val (.ref b7), .val (.int z10_44), .val (.int (z7_4 + Int32.ofNat z10_44.toInt.toNat))] [(.int (p4.toInt8.toInt32)), (.long z5_2), (.int z10_44), (.int z7_4), (.int (5 : Int32)), (.ref b7)])) tgt → Steps p.tables e below (T61.setTop (mkF m 231 #[.val (.long q1), .second, .val (.int p2), .val (.int p3), .val (.int p4), .val (.long z5_2), .second, .val (.int z7_4), .val (.int (p4.toInt8.toInt32)), .val (.ref b7), .val (.int z10_44), .val (.int (z7_4 + Int32.ofNat z10_44.toInt.toNat))] [(.int (F3 (4 : Int32) z7_4 z10_44 z5_2 (p4.toInt8.toInt32) gW))])) tgt := by
    intro tgt kt
    refine XS.ifNo X61.here hx rfl (hb hby at_231) rfl ((if0 _ _).trans (feq hc231_62).1) ?_
    show Steps p.tables e below (T61.setTop (mkF m 234 #[.val (.long q1), .second, .val (.int p2), .val (.int p3), .val (.int p4), .val (.long z5_2), .second, .val (.int z7_4), .val (.int (p4.toInt8.toInt32)), .val (.ref b7), .val (.int z10_44), .val (.int (z7_4 + Int32.ofNat z10_44.toInt.toNat))] [])) _
    refine XS.aload X61.here hx rfl (hb hby at_234) rfl rfl ?_
    show Steps p.tables e below (T61.setTop (mkF m 236 #[.val (.long q1), .second, .val (.int p2), .val (.int p3), .val (.int p4), .val (.long z5_2), .second, .val (.int z7_4), .val (.int (p4.toInt8.toInt32)), .val (.ref b7), .val (.int z10_44), .val (.int (z7_4 + Int32.ofNat z10_44.toInt.toNat))] [(.ref b7)])) _
    refine XS.iconst X61.here hx rfl (hb hby at_236) ?_
    show Steps p.tables e below (T61.setTop (mkF m 237 #[.val (.long q1), .second, .val (.int p2), .val (.int p3), .val (.int p4), .val (.long z5_2), .second, .val (.int z7_4), .val (.int (p4.toInt8.toInt32)), .val (.ref b7), .val (.int z10_44), .val (.int (z7_4 + Int32.ofNat z10_44.toInt.toNat))] [(.int (5 : Int32)), (.ref b7)])) _
    refine XS.iload X61.here hx rfl (hb hby at_237) rfl ?_
    show Steps p.tables e below (T61.setTop (mkF m 239 #[.val (.long q1), .second, .val (.int p2), .val (.int p3), .val (.int p4), .val (.long z5_2), .second, .val (.int z7_4), .val (.int (p4.toInt8.toInt32)), .val (.ref b7), .val (.int z10_44), .val (.int (z7_4 + Int32.ofNat z10_44.toInt.toNat))] [(.int z7_4), (.int (5 : Int32)), (.ref b7)])) _
    refine XS.iload X61.here hx rfl (hb hby at_239) rfl ?_
    show Steps p.tables e below (T61.setTop (mkF m 241 #[.val (.long q1), .second, .val (.int p2), .val (.int p3), .val (.int p4), .val (.long z5_2), .second, .val (.int z7_4), .val (.int (p4.toInt8.toInt32)), .val (.ref b7), .val (.int z10_44), .val (.int (z7_4 + Int32.ofNat z10_44.toInt.toNat))] [(.int z10_44), (.int z7_4), (.int (5 : Int32)), (.ref b7)])) _
    refine XS.lload X61.here hx rfl (hb hby at_241) rfl ?_
    show Steps p.tables e below (T61.setTop (mkF m 243 #[.val (.long q1), .second, .val (.int p2), .val (.int p3), .val (.int p4), .val (.long z5_2), .second, .val (.int z7_4), .val (.int (p4.toInt8.toInt32)), .val (.ref b7), .val (.int z10_44), .val (.int (z7_4 + Int32.ofNat z10_44.toInt.toNat))] [(.long z5_2), (.int z10_44), (.int z7_4), (.int (5 : Int32)), (.ref b7)])) _
    refine XS.iload X61.here hx rfl (hb hby at_243) rfl ?_
    show Steps p.tables e below (T61.setTop (mkF m 245 #[.val (.long q1), .second, .val (.int p2), .val (.int p3), .val (.int p4), .val (.long z5_2), .second, .val (.int z7_4), .val (.int (p4.toInt8.toInt32)), .val (.ref b7), .val (.int z10_44), .val (.int (z7_4 + Int32.ofNat z10_44.toInt.toNat))] [(.int (p4.toInt8.toInt32)), (.long z5_2), (.int z10_44), (.int z7_4), (.int (5 : Int32)), (.ref b7)])) _
    exact kt
  refine OwnG.st sg63 ?_
  obtain ⟨vb64, _, B64, -, Xb64, hb64, sb64⟩ := Jvm.LawKit.callS X61 hx (y := (⟨"com/example/guessd/guessd/VarintsWritePinLaw", "ok", "([BIIIJB)Z"⟩ : MethodName)) hown (mvT hZ (hw _ (List.mem_of_getElem? (i := 12) rfl))) (mvT hZ (hw _ (List.mem_of_getElem? (i := 13) rfl))) (mvT hZ (hw _ (List.mem_of_getElem? (i := 4) rfl))) (mvT hZ (hw _ (List.mem_of_getElem? (i := 14) rfl))) (by decide) (backOf (W := 0) (rm3 l Z a0 hw [] b7 (5 : Int32) z7_4 z10_44 z5_2 (p4.toInt8.toInt32) 16 gW T46.heap n0 Z46 VgW (by decide) (by decide)) hZ (hw _ (List.mem_of_getElem? (i := 14) rfl)) (hw _ (List.mem_of_getElem? (i := 4) rfl)) (by decide) (by decide)) (g := (mkF m 245 #[.val (.long q1), .second, .val (.int p2), .val (.int p3), .val (.int p4), .val (.long z5_2), .second, .val (.int z7_4), .val (.int (p4.toInt8.toInt32)), .val (.ref b7), .val (.int z10_44), .val (.int (z7_4 + Int32.ofNat z10_44.toInt.toNat))] [(.int (p4.toInt8.toInt32)), (.long z5_2), (.int z10_44), (.int z7_4), (.int (5 : Int32)), (.ref b7)])) rfl (by rw [hml]; rfl) (argsL := [(.ref b7), (.int (5 : Int32)), (.int z7_4), (.int z10_44), (.long z5_2), (.int (p4.toInt8.toInt32))]) (rest := []) (lenOf pd_0_2 rfl) rfl (by show 2 * 0 + _ ≤ _; exact Nat.le_of_eq rfl) (hb hby at_245) (fun _ _ => ⟨rfl, e61, (by decide : 1 + 0 ≤ _), (by decide : 16 + 0 ≤ _)⟩)
  obtain ⟨T64, Lc64, vc64, X64, hQ64, st64⟩ := own_bk (F' := fun v => { ((mkF m 245 #[.val (.long q1), .second, .val (.int p2), .val (.int p3), .val (.int p4), .val (.long z5_2), .second, .val (.int z7_4), .val (.int (p4.toInt8.toInt32)), .val (.ref b7), .val (.int z10_44), .val (.int (z7_4 + Int32.ofNat z10_44.toInt.toNat))] [(.int (p4.toInt8.toInt32)), (.long z5_2), (.int z10_44), (.int z7_4), (.int (5 : Int32)), (.ref b7)]) : JFrame) with pc := 248, stack := v.toList ++ [] }) (ck := 1) (sn := 16) Xb64 hb64 sb64 rfl rfl
  obtain ⟨hv64, N64q, e64⟩ := hQ64
  have N64 := Fr.app N61 N64q
  refine OwnG.st (F' := (mkF m 248 #[.val (.long q1), .second, .val (.int p2), .val (.int p3), .val (.int p4), .val (.long z5_2), .second, .val (.int z7_4), .val (.int (p4.toInt8.toInt32)), .val (.ref b7), .val (.int z10_44), .val (.int (z7_4 + Int32.ofNat z10_44.toInt.toNat))] [(.int (F3 (5 : Int32) z7_4 z10_44 z5_2 (p4.toInt8.toInt32) gW))])) (fun t k => st64 t (by rw [hv64]; exact k)) ?_
  clear Xb64 hb64 sb64 st64 hv64
  have hc248_65 : ¬ ((F3 (5 : Int32) z7_4 z10_44 z5_2 (p4.toInt8.toInt32) gW) = (0 : Int32)) := by rw [hgW, hz10_44]; exact own_okk gB _ _ p4 5 5 rfl (by decide) hat hv0 (by rw [hgB]; rfl)
  have sg66 : ∀ tgt, Steps p.tables e below (T64.setTop (mkF m 263 #[.val (.long q1), .second, .val (.int p2), .val (.int p3), .val (.int p4), .val (.long z5_2), .second, .val (.int z7_4), .val (.int (p4.toInt8.toInt32)), .val (.ref b7), .val (.int z10_44), .val (.int (z7_4 + Int32.ofNat z10_44.toInt.toNat))] [(.int (p4.toInt8.toInt32)), (.long z5_2), (.int z10_44), (.int z7_4), (.int (6 : Int32)), (.ref b7)])) tgt → Steps p.tables e below (T64.setTop (mkF m 248 #[.val (.long q1), .second, .val (.int p2), .val (.int p3), .val (.int p4), .val (.long z5_2), .second, .val (.int z7_4), .val (.int (p4.toInt8.toInt32)), .val (.ref b7), .val (.int z10_44), .val (.int (z7_4 + Int32.ofNat z10_44.toInt.toNat))] [(.int (F3 (5 : Int32) z7_4 z10_44 z5_2 (p4.toInt8.toInt32) gW))])) tgt := by
    intro tgt kt
    refine XS.ifNo X64.here hx rfl (hb hby at_248) rfl ((if0 _ _).trans (feq hc248_65).1) ?_
    show Steps p.tables e below (T64.setTop (mkF m 251 #[.val (.long q1), .second, .val (.int p2), .val (.int p3), .val (.int p4), .val (.long z5_2), .second, .val (.int z7_4), .val (.int (p4.toInt8.toInt32)), .val (.ref b7), .val (.int z10_44), .val (.int (z7_4 + Int32.ofNat z10_44.toInt.toNat))] [])) _
    refine XS.aload X64.here hx rfl (hb hby at_251) rfl rfl ?_
    show Steps p.tables e below (T64.setTop (mkF m 253 #[.val (.long q1), .second, .val (.int p2), .val (.int p3), .val (.int p4), .val (.long z5_2), .second, .val (.int z7_4), .val (.int (p4.toInt8.toInt32)), .val (.ref b7), .val (.int z10_44), .val (.int (z7_4 + Int32.ofNat z10_44.toInt.toNat))] [(.ref b7)])) _
    refine XS.bipush X64.here hx rfl (hb hby at_253) ?_
    show Steps p.tables e below (T64.setTop (mkF m 255 #[.val (.long q1), .second, .val (.int p2), .val (.int p3), .val (.int p4), .val (.long z5_2), .second, .val (.int z7_4), .val (.int (p4.toInt8.toInt32)), .val (.ref b7), .val (.int z10_44), .val (.int (z7_4 + Int32.ofNat z10_44.toInt.toNat))] [(.int (6 : Int32)), (.ref b7)])) _
    refine XS.iload X64.here hx rfl (hb hby at_255) rfl ?_
    show Steps p.tables e below (T64.setTop (mkF m 257 #[.val (.long q1), .second, .val (.int p2), .val (.int p3), .val (.int p4), .val (.long z5_2), .second, .val (.int z7_4), .val (.int (p4.toInt8.toInt32)), .val (.ref b7), .val (.int z10_44), .val (.int (z7_4 + Int32.ofNat z10_44.toInt.toNat))] [(.int z7_4), (.int (6 : Int32)), (.ref b7)])) _
    refine XS.iload X64.here hx rfl (hb hby at_257) rfl ?_
    show Steps p.tables e below (T64.setTop (mkF m 259 #[.val (.long q1), .second, .val (.int p2), .val (.int p3), .val (.int p4), .val (.long z5_2), .second, .val (.int z7_4), .val (.int (p4.toInt8.toInt32)), .val (.ref b7), .val (.int z10_44), .val (.int (z7_4 + Int32.ofNat z10_44.toInt.toNat))] [(.int z10_44), (.int z7_4), (.int (6 : Int32)), (.ref b7)])) _
    refine XS.lload X64.here hx rfl (hb hby at_259) rfl ?_
    show Steps p.tables e below (T64.setTop (mkF m 261 #[.val (.long q1), .second, .val (.int p2), .val (.int p3), .val (.int p4), .val (.long z5_2), .second, .val (.int z7_4), .val (.int (p4.toInt8.toInt32)), .val (.ref b7), .val (.int z10_44), .val (.int (z7_4 + Int32.ofNat z10_44.toInt.toNat))] [(.long z5_2), (.int z10_44), (.int z7_4), (.int (6 : Int32)), (.ref b7)])) _
    refine XS.iload X64.here hx rfl (hb hby at_261) rfl ?_
    show Steps p.tables e below (T64.setTop (mkF m 263 #[.val (.long q1), .second, .val (.int p2), .val (.int p3), .val (.int p4), .val (.long z5_2), .second, .val (.int z7_4), .val (.int (p4.toInt8.toInt32)), .val (.ref b7), .val (.int z10_44), .val (.int (z7_4 + Int32.ofNat z10_44.toInt.toNat))] [(.int (p4.toInt8.toInt32)), (.long z5_2), (.int z10_44), (.int z7_4), (.int (6 : Int32)), (.ref b7)])) _
    exact kt
  refine OwnG.st sg66 ?_
  obtain ⟨vb67, _, B67, -, Xb67, hb67, sb67⟩ := Jvm.LawKit.callS X64 hx (y := (⟨"com/example/guessd/guessd/VarintsWritePinLaw", "ok", "([BIIIJB)Z"⟩ : MethodName)) hown (mvT hZ (hw _ (List.mem_of_getElem? (i := 12) rfl))) (mvT hZ (hw _ (List.mem_of_getElem? (i := 13) rfl))) (mvT hZ (hw _ (List.mem_of_getElem? (i := 4) rfl))) (mvT hZ (hw _ (List.mem_of_getElem? (i := 14) rfl))) (by decide) (backOf (W := 0) (rm3 l Z a0 hw [] b7 (6 : Int32) z7_4 z10_44 z5_2 (p4.toInt8.toInt32) 16 gW T46.heap n0 Z46 VgW (by decide) (by decide)) hZ (hw _ (List.mem_of_getElem? (i := 14) rfl)) (hw _ (List.mem_of_getElem? (i := 4) rfl)) (by decide) (by decide)) (g := (mkF m 263 #[.val (.long q1), .second, .val (.int p2), .val (.int p3), .val (.int p4), .val (.long z5_2), .second, .val (.int z7_4), .val (.int (p4.toInt8.toInt32)), .val (.ref b7), .val (.int z10_44), .val (.int (z7_4 + Int32.ofNat z10_44.toInt.toNat))] [(.int (p4.toInt8.toInt32)), (.long z5_2), (.int z10_44), (.int z7_4), (.int (6 : Int32)), (.ref b7)])) rfl (by rw [hml]; rfl) (argsL := [(.ref b7), (.int (6 : Int32)), (.int z7_4), (.int z10_44), (.long z5_2), (.int (p4.toInt8.toInt32))]) (rest := []) (lenOf pd_0_2 rfl) rfl (by show 2 * 0 + _ ≤ _; exact Nat.le_of_eq rfl) (hb hby at_263) (fun _ _ => ⟨rfl, e64, (by decide : 1 + 0 ≤ _), (by decide : 16 + 0 ≤ _)⟩)
  obtain ⟨T67, Lc67, vc67, X67, hQ67, st67⟩ := own_bk (F' := fun v => { ((mkF m 263 #[.val (.long q1), .second, .val (.int p2), .val (.int p3), .val (.int p4), .val (.long z5_2), .second, .val (.int z7_4), .val (.int (p4.toInt8.toInt32)), .val (.ref b7), .val (.int z10_44), .val (.int (z7_4 + Int32.ofNat z10_44.toInt.toNat))] [(.int (p4.toInt8.toInt32)), (.long z5_2), (.int z10_44), (.int z7_4), (.int (6 : Int32)), (.ref b7)]) : JFrame) with pc := 266, stack := v.toList ++ [] }) (ck := 1) (sn := 16) Xb67 hb67 sb67 rfl rfl
  obtain ⟨hv67, N67q, e67⟩ := hQ67
  have N67 := Fr.app N64 N67q
  refine OwnG.st (F' := (mkF m 266 #[.val (.long q1), .second, .val (.int p2), .val (.int p3), .val (.int p4), .val (.long z5_2), .second, .val (.int z7_4), .val (.int (p4.toInt8.toInt32)), .val (.ref b7), .val (.int z10_44), .val (.int (z7_4 + Int32.ofNat z10_44.toInt.toNat))] [(.int (F3 (6 : Int32) z7_4 z10_44 z5_2 (p4.toInt8.toInt32) gW))])) (fun t k => st67 t (by rw [hv67]; exact k)) ?_
  clear Xb67 hb67 sb67 st67 hv67
  have hc266_68 : ¬ ((F3 (6 : Int32) z7_4 z10_44 z5_2 (p4.toInt8.toInt32) gW) = (0 : Int32)) := by rw [hgW, hz10_44]; exact own_okk gB _ _ p4 6 6 rfl (by decide) hat hv0 (by rw [hgB]; rfl)
  have sg69 : ∀ tgt, Steps p.tables e below (T67.setTop (mkF m 281 #[.val (.long q1), .second, .val (.int p2), .val (.int p3), .val (.int p4), .val (.long z5_2), .second, .val (.int z7_4), .val (.int (p4.toInt8.toInt32)), .val (.ref b7), .val (.int z10_44), .val (.int (z7_4 + Int32.ofNat z10_44.toInt.toNat))] [(.int (p4.toInt8.toInt32)), (.long z5_2), (.int z10_44), (.int z7_4), (.int (7 : Int32)), (.ref b7)])) tgt → Steps p.tables e below (T67.setTop (mkF m 266 #[.val (.long q1), .second, .val (.int p2), .val (.int p3), .val (.int p4), .val (.long z5_2), .second, .val (.int z7_4), .val (.int (p4.toInt8.toInt32)), .val (.ref b7), .val (.int z10_44), .val (.int (z7_4 + Int32.ofNat z10_44.toInt.toNat))] [(.int (F3 (6 : Int32) z7_4 z10_44 z5_2 (p4.toInt8.toInt32) gW))])) tgt := by
    intro tgt kt
    refine XS.ifNo X67.here hx rfl (hb hby at_266) rfl ((if0 _ _).trans (feq hc266_68).1) ?_
    show Steps p.tables e below (T67.setTop (mkF m 269 #[.val (.long q1), .second, .val (.int p2), .val (.int p3), .val (.int p4), .val (.long z5_2), .second, .val (.int z7_4), .val (.int (p4.toInt8.toInt32)), .val (.ref b7), .val (.int z10_44), .val (.int (z7_4 + Int32.ofNat z10_44.toInt.toNat))] [])) _
    refine XS.aload X67.here hx rfl (hb hby at_269) rfl rfl ?_
    show Steps p.tables e below (T67.setTop (mkF m 271 #[.val (.long q1), .second, .val (.int p2), .val (.int p3), .val (.int p4), .val (.long z5_2), .second, .val (.int z7_4), .val (.int (p4.toInt8.toInt32)), .val (.ref b7), .val (.int z10_44), .val (.int (z7_4 + Int32.ofNat z10_44.toInt.toNat))] [(.ref b7)])) _
    refine XS.bipush X67.here hx rfl (hb hby at_271) ?_
    show Steps p.tables e below (T67.setTop (mkF m 273 #[.val (.long q1), .second, .val (.int p2), .val (.int p3), .val (.int p4), .val (.long z5_2), .second, .val (.int z7_4), .val (.int (p4.toInt8.toInt32)), .val (.ref b7), .val (.int z10_44), .val (.int (z7_4 + Int32.ofNat z10_44.toInt.toNat))] [(.int (7 : Int32)), (.ref b7)])) _
    refine XS.iload X67.here hx rfl (hb hby at_273) rfl ?_
    show Steps p.tables e below (T67.setTop (mkF m 275 #[.val (.long q1), .second, .val (.int p2), .val (.int p3), .val (.int p4), .val (.long z5_2), .second, .val (.int z7_4), .val (.int (p4.toInt8.toInt32)), .val (.ref b7), .val (.int z10_44), .val (.int (z7_4 + Int32.ofNat z10_44.toInt.toNat))] [(.int z7_4), (.int (7 : Int32)), (.ref b7)])) _
    refine XS.iload X67.here hx rfl (hb hby at_275) rfl ?_
    show Steps p.tables e below (T67.setTop (mkF m 277 #[.val (.long q1), .second, .val (.int p2), .val (.int p3), .val (.int p4), .val (.long z5_2), .second, .val (.int z7_4), .val (.int (p4.toInt8.toInt32)), .val (.ref b7), .val (.int z10_44), .val (.int (z7_4 + Int32.ofNat z10_44.toInt.toNat))] [(.int z10_44), (.int z7_4), (.int (7 : Int32)), (.ref b7)])) _
    refine XS.lload X67.here hx rfl (hb hby at_277) rfl ?_
    show Steps p.tables e below (T67.setTop (mkF m 279 #[.val (.long q1), .second, .val (.int p2), .val (.int p3), .val (.int p4), .val (.long z5_2), .second, .val (.int z7_4), .val (.int (p4.toInt8.toInt32)), .val (.ref b7), .val (.int z10_44), .val (.int (z7_4 + Int32.ofNat z10_44.toInt.toNat))] [(.long z5_2), (.int z10_44), (.int z7_4), (.int (7 : Int32)), (.ref b7)])) _
    refine XS.iload X67.here hx rfl (hb hby at_279) rfl ?_
    show Steps p.tables e below (T67.setTop (mkF m 281 #[.val (.long q1), .second, .val (.int p2), .val (.int p3), .val (.int p4), .val (.long z5_2), .second, .val (.int z7_4), .val (.int (p4.toInt8.toInt32)), .val (.ref b7), .val (.int z10_44), .val (.int (z7_4 + Int32.ofNat z10_44.toInt.toNat))] [(.int (p4.toInt8.toInt32)), (.long z5_2), (.int z10_44), (.int z7_4), (.int (7 : Int32)), (.ref b7)])) _
    exact kt
  refine OwnG.st sg69 ?_
  obtain ⟨vb70, _, B70, -, Xb70, hb70, sb70⟩ := Jvm.LawKit.callS X67 hx (y := (⟨"com/example/guessd/guessd/VarintsWritePinLaw", "ok", "([BIIIJB)Z"⟩ : MethodName)) hown (mvT hZ (hw _ (List.mem_of_getElem? (i := 12) rfl))) (mvT hZ (hw _ (List.mem_of_getElem? (i := 13) rfl))) (mvT hZ (hw _ (List.mem_of_getElem? (i := 4) rfl))) (mvT hZ (hw _ (List.mem_of_getElem? (i := 14) rfl))) (by decide) (backOf (W := 0) (rm3 l Z a0 hw [] b7 (7 : Int32) z7_4 z10_44 z5_2 (p4.toInt8.toInt32) 16 gW T46.heap n0 Z46 VgW (by decide) (by decide)) hZ (hw _ (List.mem_of_getElem? (i := 14) rfl)) (hw _ (List.mem_of_getElem? (i := 4) rfl)) (by decide) (by decide)) (g := (mkF m 281 #[.val (.long q1), .second, .val (.int p2), .val (.int p3), .val (.int p4), .val (.long z5_2), .second, .val (.int z7_4), .val (.int (p4.toInt8.toInt32)), .val (.ref b7), .val (.int z10_44), .val (.int (z7_4 + Int32.ofNat z10_44.toInt.toNat))] [(.int (p4.toInt8.toInt32)), (.long z5_2), (.int z10_44), (.int z7_4), (.int (7 : Int32)), (.ref b7)])) rfl (by rw [hml]; rfl) (argsL := [(.ref b7), (.int (7 : Int32)), (.int z7_4), (.int z10_44), (.long z5_2), (.int (p4.toInt8.toInt32))]) (rest := []) (lenOf pd_0_2 rfl) rfl (by show 2 * 0 + _ ≤ _; exact Nat.le_of_eq rfl) (hb hby at_281) (fun _ _ => ⟨rfl, e67, (by decide : 1 + 0 ≤ _), (by decide : 16 + 0 ≤ _)⟩)
  obtain ⟨T70, Lc70, vc70, X70, hQ70, st70⟩ := own_bk (F' := fun v => { ((mkF m 281 #[.val (.long q1), .second, .val (.int p2), .val (.int p3), .val (.int p4), .val (.long z5_2), .second, .val (.int z7_4), .val (.int (p4.toInt8.toInt32)), .val (.ref b7), .val (.int z10_44), .val (.int (z7_4 + Int32.ofNat z10_44.toInt.toNat))] [(.int (p4.toInt8.toInt32)), (.long z5_2), (.int z10_44), (.int z7_4), (.int (7 : Int32)), (.ref b7)]) : JFrame) with pc := 284, stack := v.toList ++ [] }) (ck := 1) (sn := 16) Xb70 hb70 sb70 rfl rfl
  obtain ⟨hv70, N70q, e70⟩ := hQ70
  have N70 := Fr.app N67 N70q
  refine OwnG.st (F' := (mkF m 284 #[.val (.long q1), .second, .val (.int p2), .val (.int p3), .val (.int p4), .val (.long z5_2), .second, .val (.int z7_4), .val (.int (p4.toInt8.toInt32)), .val (.ref b7), .val (.int z10_44), .val (.int (z7_4 + Int32.ofNat z10_44.toInt.toNat))] [(.int (F3 (7 : Int32) z7_4 z10_44 z5_2 (p4.toInt8.toInt32) gW))])) (fun t k => st70 t (by rw [hv70]; exact k)) ?_
  clear Xb70 hb70 sb70 st70 hv70
  have hc284_71 : ¬ ((F3 (7 : Int32) z7_4 z10_44 z5_2 (p4.toInt8.toInt32) gW) = (0 : Int32)) := by rw [hgW, hz10_44]; exact own_okk gB _ _ p4 7 7 rfl (by decide) hat hv0 (by rw [hgB]; rfl)
  have sg72 : ∀ tgt, Steps p.tables e below (T70.setTop (mkF m 299 #[.val (.long q1), .second, .val (.int p2), .val (.int p3), .val (.int p4), .val (.long z5_2), .second, .val (.int z7_4), .val (.int (p4.toInt8.toInt32)), .val (.ref b7), .val (.int z10_44), .val (.int (z7_4 + Int32.ofNat z10_44.toInt.toNat))] [(.int (p4.toInt8.toInt32)), (.long z5_2), (.int z10_44), (.int z7_4), (.int (8 : Int32)), (.ref b7)])) tgt → Steps p.tables e below (T70.setTop (mkF m 284 #[.val (.long q1), .second, .val (.int p2), .val (.int p3), .val (.int p4), .val (.long z5_2), .second, .val (.int z7_4), .val (.int (p4.toInt8.toInt32)), .val (.ref b7), .val (.int z10_44), .val (.int (z7_4 + Int32.ofNat z10_44.toInt.toNat))] [(.int (F3 (7 : Int32) z7_4 z10_44 z5_2 (p4.toInt8.toInt32) gW))])) tgt := by
    intro tgt kt
    refine XS.ifNo X70.here hx rfl (hb hby at_284) rfl ((if0 _ _).trans (feq hc284_71).1) ?_
    show Steps p.tables e below (T70.setTop (mkF m 287 #[.val (.long q1), .second, .val (.int p2), .val (.int p3), .val (.int p4), .val (.long z5_2), .second, .val (.int z7_4), .val (.int (p4.toInt8.toInt32)), .val (.ref b7), .val (.int z10_44), .val (.int (z7_4 + Int32.ofNat z10_44.toInt.toNat))] [])) _
    refine XS.aload X70.here hx rfl (hb hby at_287) rfl rfl ?_
    show Steps p.tables e below (T70.setTop (mkF m 289 #[.val (.long q1), .second, .val (.int p2), .val (.int p3), .val (.int p4), .val (.long z5_2), .second, .val (.int z7_4), .val (.int (p4.toInt8.toInt32)), .val (.ref b7), .val (.int z10_44), .val (.int (z7_4 + Int32.ofNat z10_44.toInt.toNat))] [(.ref b7)])) _
    refine XS.bipush X70.here hx rfl (hb hby at_289) ?_
    show Steps p.tables e below (T70.setTop (mkF m 291 #[.val (.long q1), .second, .val (.int p2), .val (.int p3), .val (.int p4), .val (.long z5_2), .second, .val (.int z7_4), .val (.int (p4.toInt8.toInt32)), .val (.ref b7), .val (.int z10_44), .val (.int (z7_4 + Int32.ofNat z10_44.toInt.toNat))] [(.int (8 : Int32)), (.ref b7)])) _
    refine XS.iload X70.here hx rfl (hb hby at_291) rfl ?_
    show Steps p.tables e below (T70.setTop (mkF m 293 #[.val (.long q1), .second, .val (.int p2), .val (.int p3), .val (.int p4), .val (.long z5_2), .second, .val (.int z7_4), .val (.int (p4.toInt8.toInt32)), .val (.ref b7), .val (.int z10_44), .val (.int (z7_4 + Int32.ofNat z10_44.toInt.toNat))] [(.int z7_4), (.int (8 : Int32)), (.ref b7)])) _
    refine XS.iload X70.here hx rfl (hb hby at_293) rfl ?_
    show Steps p.tables e below (T70.setTop (mkF m 295 #[.val (.long q1), .second, .val (.int p2), .val (.int p3), .val (.int p4), .val (.long z5_2), .second, .val (.int z7_4), .val (.int (p4.toInt8.toInt32)), .val (.ref b7), .val (.int z10_44), .val (.int (z7_4 + Int32.ofNat z10_44.toInt.toNat))] [(.int z10_44), (.int z7_4), (.int (8 : Int32)), (.ref b7)])) _
    refine XS.lload X70.here hx rfl (hb hby at_295) rfl ?_
    show Steps p.tables e below (T70.setTop (mkF m 297 #[.val (.long q1), .second, .val (.int p2), .val (.int p3), .val (.int p4), .val (.long z5_2), .second, .val (.int z7_4), .val (.int (p4.toInt8.toInt32)), .val (.ref b7), .val (.int z10_44), .val (.int (z7_4 + Int32.ofNat z10_44.toInt.toNat))] [(.long z5_2), (.int z10_44), (.int z7_4), (.int (8 : Int32)), (.ref b7)])) _
    refine XS.iload X70.here hx rfl (hb hby at_297) rfl ?_
    show Steps p.tables e below (T70.setTop (mkF m 299 #[.val (.long q1), .second, .val (.int p2), .val (.int p3), .val (.int p4), .val (.long z5_2), .second, .val (.int z7_4), .val (.int (p4.toInt8.toInt32)), .val (.ref b7), .val (.int z10_44), .val (.int (z7_4 + Int32.ofNat z10_44.toInt.toNat))] [(.int (p4.toInt8.toInt32)), (.long z5_2), (.int z10_44), (.int z7_4), (.int (8 : Int32)), (.ref b7)])) _
    exact kt
  refine OwnG.st sg72 ?_
  obtain ⟨vb73, _, B73, -, Xb73, hb73, sb73⟩ := Jvm.LawKit.callS X70 hx (y := (⟨"com/example/guessd/guessd/VarintsWritePinLaw", "ok", "([BIIIJB)Z"⟩ : MethodName)) hown (mvT hZ (hw _ (List.mem_of_getElem? (i := 12) rfl))) (mvT hZ (hw _ (List.mem_of_getElem? (i := 13) rfl))) (mvT hZ (hw _ (List.mem_of_getElem? (i := 4) rfl))) (mvT hZ (hw _ (List.mem_of_getElem? (i := 14) rfl))) (by decide) (backOf (W := 0) (rm3 l Z a0 hw [] b7 (8 : Int32) z7_4 z10_44 z5_2 (p4.toInt8.toInt32) 16 gW T46.heap n0 Z46 VgW (by decide) (by decide)) hZ (hw _ (List.mem_of_getElem? (i := 14) rfl)) (hw _ (List.mem_of_getElem? (i := 4) rfl)) (by decide) (by decide)) (g := (mkF m 299 #[.val (.long q1), .second, .val (.int p2), .val (.int p3), .val (.int p4), .val (.long z5_2), .second, .val (.int z7_4), .val (.int (p4.toInt8.toInt32)), .val (.ref b7), .val (.int z10_44), .val (.int (z7_4 + Int32.ofNat z10_44.toInt.toNat))] [(.int (p4.toInt8.toInt32)), (.long z5_2), (.int z10_44), (.int z7_4), (.int (8 : Int32)), (.ref b7)])) rfl (by rw [hml]; rfl) (argsL := [(.ref b7), (.int (8 : Int32)), (.int z7_4), (.int z10_44), (.long z5_2), (.int (p4.toInt8.toInt32))]) (rest := []) (lenOf pd_0_2 rfl) rfl (by show 2 * 0 + _ ≤ _; exact Nat.le_of_eq rfl) (hb hby at_299) (fun _ _ => ⟨rfl, e70, (by decide : 1 + 0 ≤ _), (by decide : 16 + 0 ≤ _)⟩)
  obtain ⟨T73, Lc73, vc73, X73, hQ73, st73⟩ := own_bk (F' := fun v => { ((mkF m 299 #[.val (.long q1), .second, .val (.int p2), .val (.int p3), .val (.int p4), .val (.long z5_2), .second, .val (.int z7_4), .val (.int (p4.toInt8.toInt32)), .val (.ref b7), .val (.int z10_44), .val (.int (z7_4 + Int32.ofNat z10_44.toInt.toNat))] [(.int (p4.toInt8.toInt32)), (.long z5_2), (.int z10_44), (.int z7_4), (.int (8 : Int32)), (.ref b7)]) : JFrame) with pc := 302, stack := v.toList ++ [] }) (ck := 1) (sn := 16) Xb73 hb73 sb73 rfl rfl
  obtain ⟨hv73, N73q, e73⟩ := hQ73
  have N73 := Fr.app N70 N73q
  refine OwnG.st (F' := (mkF m 302 #[.val (.long q1), .second, .val (.int p2), .val (.int p3), .val (.int p4), .val (.long z5_2), .second, .val (.int z7_4), .val (.int (p4.toInt8.toInt32)), .val (.ref b7), .val (.int z10_44), .val (.int (z7_4 + Int32.ofNat z10_44.toInt.toNat))] [(.int (F3 (8 : Int32) z7_4 z10_44 z5_2 (p4.toInt8.toInt32) gW))])) (fun t k => st73 t (by rw [hv73]; exact k)) ?_
  clear Xb73 hb73 sb73 st73 hv73
  have hc302_74 : ¬ ((F3 (8 : Int32) z7_4 z10_44 z5_2 (p4.toInt8.toInt32) gW) = (0 : Int32)) := by rw [hgW, hz10_44]; exact own_okk gB _ _ p4 8 8 rfl (by decide) hat hv0 (by rw [hgB]; rfl)
  have sg75 : ∀ tgt, Steps p.tables e below (T73.setTop (mkF m 317 #[.val (.long q1), .second, .val (.int p2), .val (.int p3), .val (.int p4), .val (.long z5_2), .second, .val (.int z7_4), .val (.int (p4.toInt8.toInt32)), .val (.ref b7), .val (.int z10_44), .val (.int (z7_4 + Int32.ofNat z10_44.toInt.toNat))] [(.int (p4.toInt8.toInt32)), (.long z5_2), (.int z10_44), (.int z7_4), (.int (9 : Int32)), (.ref b7)])) tgt → Steps p.tables e below (T73.setTop (mkF m 302 #[.val (.long q1), .second, .val (.int p2), .val (.int p3), .val (.int p4), .val (.long z5_2), .second, .val (.int z7_4), .val (.int (p4.toInt8.toInt32)), .val (.ref b7), .val (.int z10_44), .val (.int (z7_4 + Int32.ofNat z10_44.toInt.toNat))] [(.int (F3 (8 : Int32) z7_4 z10_44 z5_2 (p4.toInt8.toInt32) gW))])) tgt := by
    intro tgt kt
    refine XS.ifNo X73.here hx rfl (hb hby at_302) rfl ((if0 _ _).trans (feq hc302_74).1) ?_
    show Steps p.tables e below (T73.setTop (mkF m 305 #[.val (.long q1), .second, .val (.int p2), .val (.int p3), .val (.int p4), .val (.long z5_2), .second, .val (.int z7_4), .val (.int (p4.toInt8.toInt32)), .val (.ref b7), .val (.int z10_44), .val (.int (z7_4 + Int32.ofNat z10_44.toInt.toNat))] [])) _
    refine XS.aload X73.here hx rfl (hb hby at_305) rfl rfl ?_
    show Steps p.tables e below (T73.setTop (mkF m 307 #[.val (.long q1), .second, .val (.int p2), .val (.int p3), .val (.int p4), .val (.long z5_2), .second, .val (.int z7_4), .val (.int (p4.toInt8.toInt32)), .val (.ref b7), .val (.int z10_44), .val (.int (z7_4 + Int32.ofNat z10_44.toInt.toNat))] [(.ref b7)])) _
    refine XS.bipush X73.here hx rfl (hb hby at_307) ?_
    show Steps p.tables e below (T73.setTop (mkF m 309 #[.val (.long q1), .second, .val (.int p2), .val (.int p3), .val (.int p4), .val (.long z5_2), .second, .val (.int z7_4), .val (.int (p4.toInt8.toInt32)), .val (.ref b7), .val (.int z10_44), .val (.int (z7_4 + Int32.ofNat z10_44.toInt.toNat))] [(.int (9 : Int32)), (.ref b7)])) _
    refine XS.iload X73.here hx rfl (hb hby at_309) rfl ?_
    show Steps p.tables e below (T73.setTop (mkF m 311 #[.val (.long q1), .second, .val (.int p2), .val (.int p3), .val (.int p4), .val (.long z5_2), .second, .val (.int z7_4), .val (.int (p4.toInt8.toInt32)), .val (.ref b7), .val (.int z10_44), .val (.int (z7_4 + Int32.ofNat z10_44.toInt.toNat))] [(.int z7_4), (.int (9 : Int32)), (.ref b7)])) _
    refine XS.iload X73.here hx rfl (hb hby at_311) rfl ?_
    show Steps p.tables e below (T73.setTop (mkF m 313 #[.val (.long q1), .second, .val (.int p2), .val (.int p3), .val (.int p4), .val (.long z5_2), .second, .val (.int z7_4), .val (.int (p4.toInt8.toInt32)), .val (.ref b7), .val (.int z10_44), .val (.int (z7_4 + Int32.ofNat z10_44.toInt.toNat))] [(.int z10_44), (.int z7_4), (.int (9 : Int32)), (.ref b7)])) _
    refine XS.lload X73.here hx rfl (hb hby at_313) rfl ?_
    show Steps p.tables e below (T73.setTop (mkF m 315 #[.val (.long q1), .second, .val (.int p2), .val (.int p3), .val (.int p4), .val (.long z5_2), .second, .val (.int z7_4), .val (.int (p4.toInt8.toInt32)), .val (.ref b7), .val (.int z10_44), .val (.int (z7_4 + Int32.ofNat z10_44.toInt.toNat))] [(.long z5_2), (.int z10_44), (.int z7_4), (.int (9 : Int32)), (.ref b7)])) _
    refine XS.iload X73.here hx rfl (hb hby at_315) rfl ?_
    show Steps p.tables e below (T73.setTop (mkF m 317 #[.val (.long q1), .second, .val (.int p2), .val (.int p3), .val (.int p4), .val (.long z5_2), .second, .val (.int z7_4), .val (.int (p4.toInt8.toInt32)), .val (.ref b7), .val (.int z10_44), .val (.int (z7_4 + Int32.ofNat z10_44.toInt.toNat))] [(.int (p4.toInt8.toInt32)), (.long z5_2), (.int z10_44), (.int z7_4), (.int (9 : Int32)), (.ref b7)])) _
    exact kt
  refine OwnG.st sg75 ?_
  obtain ⟨vb76, _, B76, -, Xb76, hb76, sb76⟩ := Jvm.LawKit.callS X73 hx (y := (⟨"com/example/guessd/guessd/VarintsWritePinLaw", "ok", "([BIIIJB)Z"⟩ : MethodName)) hown (mvT hZ (hw _ (List.mem_of_getElem? (i := 12) rfl))) (mvT hZ (hw _ (List.mem_of_getElem? (i := 13) rfl))) (mvT hZ (hw _ (List.mem_of_getElem? (i := 4) rfl))) (mvT hZ (hw _ (List.mem_of_getElem? (i := 14) rfl))) (by decide) (backOf (W := 0) (rm3 l Z a0 hw [] b7 (9 : Int32) z7_4 z10_44 z5_2 (p4.toInt8.toInt32) 16 gW T46.heap n0 Z46 VgW (by decide) (by decide)) hZ (hw _ (List.mem_of_getElem? (i := 14) rfl)) (hw _ (List.mem_of_getElem? (i := 4) rfl)) (by decide) (by decide)) (g := (mkF m 317 #[.val (.long q1), .second, .val (.int p2), .val (.int p3), .val (.int p4), .val (.long z5_2), .second, .val (.int z7_4), .val (.int (p4.toInt8.toInt32)), .val (.ref b7), .val (.int z10_44), .val (.int (z7_4 + Int32.ofNat z10_44.toInt.toNat))] [(.int (p4.toInt8.toInt32)), (.long z5_2), (.int z10_44), (.int z7_4), (.int (9 : Int32)), (.ref b7)])) rfl (by rw [hml]; rfl) (argsL := [(.ref b7), (.int (9 : Int32)), (.int z7_4), (.int z10_44), (.long z5_2), (.int (p4.toInt8.toInt32))]) (rest := []) (lenOf pd_0_2 rfl) rfl (by show 2 * 0 + _ ≤ _; exact Nat.le_of_eq rfl) (hb hby at_317) (fun _ _ => ⟨rfl, e73, (by decide : 1 + 0 ≤ _), (by decide : 16 + 0 ≤ _)⟩)
  obtain ⟨T76, Lc76, vc76, X76, hQ76, st76⟩ := own_bk (F' := fun v => { ((mkF m 317 #[.val (.long q1), .second, .val (.int p2), .val (.int p3), .val (.int p4), .val (.long z5_2), .second, .val (.int z7_4), .val (.int (p4.toInt8.toInt32)), .val (.ref b7), .val (.int z10_44), .val (.int (z7_4 + Int32.ofNat z10_44.toInt.toNat))] [(.int (p4.toInt8.toInt32)), (.long z5_2), (.int z10_44), (.int z7_4), (.int (9 : Int32)), (.ref b7)]) : JFrame) with pc := 320, stack := v.toList ++ [] }) (ck := 1) (sn := 16) Xb76 hb76 sb76 rfl rfl
  obtain ⟨hv76, N76q, e76⟩ := hQ76
  have N76 := Fr.app N73 N76q
  refine OwnG.st (F' := (mkF m 320 #[.val (.long q1), .second, .val (.int p2), .val (.int p3), .val (.int p4), .val (.long z5_2), .second, .val (.int z7_4), .val (.int (p4.toInt8.toInt32)), .val (.ref b7), .val (.int z10_44), .val (.int (z7_4 + Int32.ofNat z10_44.toInt.toNat))] [(.int (F3 (9 : Int32) z7_4 z10_44 z5_2 (p4.toInt8.toInt32) gW))])) (fun t k => st76 t (by rw [hv76]; exact k)) ?_
  clear Xb76 hb76 sb76 st76 hv76
  have hc320_77 : ¬ ((F3 (9 : Int32) z7_4 z10_44 z5_2 (p4.toInt8.toInt32) gW) = (0 : Int32)) := by rw [hgW, hz10_44]; exact own_okk gB _ _ p4 9 9 rfl (by decide) hat hv0 (by rw [hgB]; rfl)
  have sg78 : ∀ tgt, Steps p.tables e below (T76.setTop (mkF m 335 #[.val (.long q1), .second, .val (.int p2), .val (.int p3), .val (.int p4), .val (.long z5_2), .second, .val (.int z7_4), .val (.int (p4.toInt8.toInt32)), .val (.ref b7), .val (.int z10_44), .val (.int (z7_4 + Int32.ofNat z10_44.toInt.toNat))] [(.int (p4.toInt8.toInt32)), (.long z5_2), (.int z10_44), (.int z7_4), (.int (10 : Int32)), (.ref b7)])) tgt → Steps p.tables e below (T76.setTop (mkF m 320 #[.val (.long q1), .second, .val (.int p2), .val (.int p3), .val (.int p4), .val (.long z5_2), .second, .val (.int z7_4), .val (.int (p4.toInt8.toInt32)), .val (.ref b7), .val (.int z10_44), .val (.int (z7_4 + Int32.ofNat z10_44.toInt.toNat))] [(.int (F3 (9 : Int32) z7_4 z10_44 z5_2 (p4.toInt8.toInt32) gW))])) tgt := by
    intro tgt kt
    refine XS.ifNo X76.here hx rfl (hb hby at_320) rfl ((if0 _ _).trans (feq hc320_77).1) ?_
    show Steps p.tables e below (T76.setTop (mkF m 323 #[.val (.long q1), .second, .val (.int p2), .val (.int p3), .val (.int p4), .val (.long z5_2), .second, .val (.int z7_4), .val (.int (p4.toInt8.toInt32)), .val (.ref b7), .val (.int z10_44), .val (.int (z7_4 + Int32.ofNat z10_44.toInt.toNat))] [])) _
    refine XS.aload X76.here hx rfl (hb hby at_323) rfl rfl ?_
    show Steps p.tables e below (T76.setTop (mkF m 325 #[.val (.long q1), .second, .val (.int p2), .val (.int p3), .val (.int p4), .val (.long z5_2), .second, .val (.int z7_4), .val (.int (p4.toInt8.toInt32)), .val (.ref b7), .val (.int z10_44), .val (.int (z7_4 + Int32.ofNat z10_44.toInt.toNat))] [(.ref b7)])) _
    refine XS.bipush X76.here hx rfl (hb hby at_325) ?_
    show Steps p.tables e below (T76.setTop (mkF m 327 #[.val (.long q1), .second, .val (.int p2), .val (.int p3), .val (.int p4), .val (.long z5_2), .second, .val (.int z7_4), .val (.int (p4.toInt8.toInt32)), .val (.ref b7), .val (.int z10_44), .val (.int (z7_4 + Int32.ofNat z10_44.toInt.toNat))] [(.int (10 : Int32)), (.ref b7)])) _
    refine XS.iload X76.here hx rfl (hb hby at_327) rfl ?_
    show Steps p.tables e below (T76.setTop (mkF m 329 #[.val (.long q1), .second, .val (.int p2), .val (.int p3), .val (.int p4), .val (.long z5_2), .second, .val (.int z7_4), .val (.int (p4.toInt8.toInt32)), .val (.ref b7), .val (.int z10_44), .val (.int (z7_4 + Int32.ofNat z10_44.toInt.toNat))] [(.int z7_4), (.int (10 : Int32)), (.ref b7)])) _
    refine XS.iload X76.here hx rfl (hb hby at_329) rfl ?_
    show Steps p.tables e below (T76.setTop (mkF m 331 #[.val (.long q1), .second, .val (.int p2), .val (.int p3), .val (.int p4), .val (.long z5_2), .second, .val (.int z7_4), .val (.int (p4.toInt8.toInt32)), .val (.ref b7), .val (.int z10_44), .val (.int (z7_4 + Int32.ofNat z10_44.toInt.toNat))] [(.int z10_44), (.int z7_4), (.int (10 : Int32)), (.ref b7)])) _
    refine XS.lload X76.here hx rfl (hb hby at_331) rfl ?_
    show Steps p.tables e below (T76.setTop (mkF m 333 #[.val (.long q1), .second, .val (.int p2), .val (.int p3), .val (.int p4), .val (.long z5_2), .second, .val (.int z7_4), .val (.int (p4.toInt8.toInt32)), .val (.ref b7), .val (.int z10_44), .val (.int (z7_4 + Int32.ofNat z10_44.toInt.toNat))] [(.long z5_2), (.int z10_44), (.int z7_4), (.int (10 : Int32)), (.ref b7)])) _
    refine XS.iload X76.here hx rfl (hb hby at_333) rfl ?_
    show Steps p.tables e below (T76.setTop (mkF m 335 #[.val (.long q1), .second, .val (.int p2), .val (.int p3), .val (.int p4), .val (.long z5_2), .second, .val (.int z7_4), .val (.int (p4.toInt8.toInt32)), .val (.ref b7), .val (.int z10_44), .val (.int (z7_4 + Int32.ofNat z10_44.toInt.toNat))] [(.int (p4.toInt8.toInt32)), (.long z5_2), (.int z10_44), (.int z7_4), (.int (10 : Int32)), (.ref b7)])) _
    exact kt
  refine OwnG.st sg78 ?_
  obtain ⟨vb79, _, B79, -, Xb79, hb79, sb79⟩ := Jvm.LawKit.callS X76 hx (y := (⟨"com/example/guessd/guessd/VarintsWritePinLaw", "ok", "([BIIIJB)Z"⟩ : MethodName)) hown (mvT hZ (hw _ (List.mem_of_getElem? (i := 12) rfl))) (mvT hZ (hw _ (List.mem_of_getElem? (i := 13) rfl))) (mvT hZ (hw _ (List.mem_of_getElem? (i := 4) rfl))) (mvT hZ (hw _ (List.mem_of_getElem? (i := 14) rfl))) (by decide) (backOf (W := 0) (rm3 l Z a0 hw [] b7 (10 : Int32) z7_4 z10_44 z5_2 (p4.toInt8.toInt32) 16 gW T46.heap n0 Z46 VgW (by decide) (by decide)) hZ (hw _ (List.mem_of_getElem? (i := 14) rfl)) (hw _ (List.mem_of_getElem? (i := 4) rfl)) (by decide) (by decide)) (g := (mkF m 335 #[.val (.long q1), .second, .val (.int p2), .val (.int p3), .val (.int p4), .val (.long z5_2), .second, .val (.int z7_4), .val (.int (p4.toInt8.toInt32)), .val (.ref b7), .val (.int z10_44), .val (.int (z7_4 + Int32.ofNat z10_44.toInt.toNat))] [(.int (p4.toInt8.toInt32)), (.long z5_2), (.int z10_44), (.int z7_4), (.int (10 : Int32)), (.ref b7)])) rfl (by rw [hml]; rfl) (argsL := [(.ref b7), (.int (10 : Int32)), (.int z7_4), (.int z10_44), (.long z5_2), (.int (p4.toInt8.toInt32))]) (rest := []) (lenOf pd_0_2 rfl) rfl (by show 2 * 0 + _ ≤ _; exact Nat.le_of_eq rfl) (hb hby at_335) (fun _ _ => ⟨rfl, e76, (by decide : 1 + 0 ≤ _), (by decide : 16 + 0 ≤ _)⟩)
  obtain ⟨T79, Lc79, vc79, X79, hQ79, st79⟩ := own_bk (F' := fun v => { ((mkF m 335 #[.val (.long q1), .second, .val (.int p2), .val (.int p3), .val (.int p4), .val (.long z5_2), .second, .val (.int z7_4), .val (.int (p4.toInt8.toInt32)), .val (.ref b7), .val (.int z10_44), .val (.int (z7_4 + Int32.ofNat z10_44.toInt.toNat))] [(.int (p4.toInt8.toInt32)), (.long z5_2), (.int z10_44), (.int z7_4), (.int (10 : Int32)), (.ref b7)]) : JFrame) with pc := 338, stack := v.toList ++ [] }) (ck := 1) (sn := 16) Xb79 hb79 sb79 rfl rfl
  obtain ⟨hv79, N79q, e79⟩ := hQ79
  have N79 := Fr.app N76 N79q
  refine OwnG.st (F' := (mkF m 338 #[.val (.long q1), .second, .val (.int p2), .val (.int p3), .val (.int p4), .val (.long z5_2), .second, .val (.int z7_4), .val (.int (p4.toInt8.toInt32)), .val (.ref b7), .val (.int z10_44), .val (.int (z7_4 + Int32.ofNat z10_44.toInt.toNat))] [(.int (F3 (10 : Int32) z7_4 z10_44 z5_2 (p4.toInt8.toInt32) gW))])) (fun t k => st79 t (by rw [hv79]; exact k)) ?_
  clear Xb79 hb79 sb79 st79 hv79
  have hc338_80 : ¬ ((F3 (10 : Int32) z7_4 z10_44 z5_2 (p4.toInt8.toInt32) gW) = (0 : Int32)) := by rw [hgW, hz10_44]; exact own_okk gB _ _ p4 10 10 rfl (by decide) hat hv0 (by rw [hgB]; rfl)
  have sg81 : ∀ tgt, Steps p.tables e below (T79.setTop (mkF m 353 #[.val (.long q1), .second, .val (.int p2), .val (.int p3), .val (.int p4), .val (.long z5_2), .second, .val (.int z7_4), .val (.int (p4.toInt8.toInt32)), .val (.ref b7), .val (.int z10_44), .val (.int (z7_4 + Int32.ofNat z10_44.toInt.toNat))] [(.int (p4.toInt8.toInt32)), (.long z5_2), (.int z10_44), (.int z7_4), (.int (11 : Int32)), (.ref b7)])) tgt → Steps p.tables e below (T79.setTop (mkF m 338 #[.val (.long q1), .second, .val (.int p2), .val (.int p3), .val (.int p4), .val (.long z5_2), .second, .val (.int z7_4), .val (.int (p4.toInt8.toInt32)), .val (.ref b7), .val (.int z10_44), .val (.int (z7_4 + Int32.ofNat z10_44.toInt.toNat))] [(.int (F3 (10 : Int32) z7_4 z10_44 z5_2 (p4.toInt8.toInt32) gW))])) tgt := by
    intro tgt kt
    refine XS.ifNo X79.here hx rfl (hb hby at_338) rfl ((if0 _ _).trans (feq hc338_80).1) ?_
    show Steps p.tables e below (T79.setTop (mkF m 341 #[.val (.long q1), .second, .val (.int p2), .val (.int p3), .val (.int p4), .val (.long z5_2), .second, .val (.int z7_4), .val (.int (p4.toInt8.toInt32)), .val (.ref b7), .val (.int z10_44), .val (.int (z7_4 + Int32.ofNat z10_44.toInt.toNat))] [])) _
    refine XS.aload X79.here hx rfl (hb hby at_341) rfl rfl ?_
    show Steps p.tables e below (T79.setTop (mkF m 343 #[.val (.long q1), .second, .val (.int p2), .val (.int p3), .val (.int p4), .val (.long z5_2), .second, .val (.int z7_4), .val (.int (p4.toInt8.toInt32)), .val (.ref b7), .val (.int z10_44), .val (.int (z7_4 + Int32.ofNat z10_44.toInt.toNat))] [(.ref b7)])) _
    refine XS.bipush X79.here hx rfl (hb hby at_343) ?_
    show Steps p.tables e below (T79.setTop (mkF m 345 #[.val (.long q1), .second, .val (.int p2), .val (.int p3), .val (.int p4), .val (.long z5_2), .second, .val (.int z7_4), .val (.int (p4.toInt8.toInt32)), .val (.ref b7), .val (.int z10_44), .val (.int (z7_4 + Int32.ofNat z10_44.toInt.toNat))] [(.int (11 : Int32)), (.ref b7)])) _
    refine XS.iload X79.here hx rfl (hb hby at_345) rfl ?_
    show Steps p.tables e below (T79.setTop (mkF m 347 #[.val (.long q1), .second, .val (.int p2), .val (.int p3), .val (.int p4), .val (.long z5_2), .second, .val (.int z7_4), .val (.int (p4.toInt8.toInt32)), .val (.ref b7), .val (.int z10_44), .val (.int (z7_4 + Int32.ofNat z10_44.toInt.toNat))] [(.int z7_4), (.int (11 : Int32)), (.ref b7)])) _
    refine XS.iload X79.here hx rfl (hb hby at_347) rfl ?_
    show Steps p.tables e below (T79.setTop (mkF m 349 #[.val (.long q1), .second, .val (.int p2), .val (.int p3), .val (.int p4), .val (.long z5_2), .second, .val (.int z7_4), .val (.int (p4.toInt8.toInt32)), .val (.ref b7), .val (.int z10_44), .val (.int (z7_4 + Int32.ofNat z10_44.toInt.toNat))] [(.int z10_44), (.int z7_4), (.int (11 : Int32)), (.ref b7)])) _
    refine XS.lload X79.here hx rfl (hb hby at_349) rfl ?_
    show Steps p.tables e below (T79.setTop (mkF m 351 #[.val (.long q1), .second, .val (.int p2), .val (.int p3), .val (.int p4), .val (.long z5_2), .second, .val (.int z7_4), .val (.int (p4.toInt8.toInt32)), .val (.ref b7), .val (.int z10_44), .val (.int (z7_4 + Int32.ofNat z10_44.toInt.toNat))] [(.long z5_2), (.int z10_44), (.int z7_4), (.int (11 : Int32)), (.ref b7)])) _
    refine XS.iload X79.here hx rfl (hb hby at_351) rfl ?_
    show Steps p.tables e below (T79.setTop (mkF m 353 #[.val (.long q1), .second, .val (.int p2), .val (.int p3), .val (.int p4), .val (.long z5_2), .second, .val (.int z7_4), .val (.int (p4.toInt8.toInt32)), .val (.ref b7), .val (.int z10_44), .val (.int (z7_4 + Int32.ofNat z10_44.toInt.toNat))] [(.int (p4.toInt8.toInt32)), (.long z5_2), (.int z10_44), (.int z7_4), (.int (11 : Int32)), (.ref b7)])) _
    exact kt
  refine OwnG.st sg81 ?_
  obtain ⟨vb82, _, B82, -, Xb82, hb82, sb82⟩ := Jvm.LawKit.callS X79 hx (y := (⟨"com/example/guessd/guessd/VarintsWritePinLaw", "ok", "([BIIIJB)Z"⟩ : MethodName)) hown (mvT hZ (hw _ (List.mem_of_getElem? (i := 12) rfl))) (mvT hZ (hw _ (List.mem_of_getElem? (i := 13) rfl))) (mvT hZ (hw _ (List.mem_of_getElem? (i := 4) rfl))) (mvT hZ (hw _ (List.mem_of_getElem? (i := 14) rfl))) (by decide) (backOf (W := 0) (rm3 l Z a0 hw [] b7 (11 : Int32) z7_4 z10_44 z5_2 (p4.toInt8.toInt32) 16 gW T46.heap n0 Z46 VgW (by decide) (by decide)) hZ (hw _ (List.mem_of_getElem? (i := 14) rfl)) (hw _ (List.mem_of_getElem? (i := 4) rfl)) (by decide) (by decide)) (g := (mkF m 353 #[.val (.long q1), .second, .val (.int p2), .val (.int p3), .val (.int p4), .val (.long z5_2), .second, .val (.int z7_4), .val (.int (p4.toInt8.toInt32)), .val (.ref b7), .val (.int z10_44), .val (.int (z7_4 + Int32.ofNat z10_44.toInt.toNat))] [(.int (p4.toInt8.toInt32)), (.long z5_2), (.int z10_44), (.int z7_4), (.int (11 : Int32)), (.ref b7)])) rfl (by rw [hml]; rfl) (argsL := [(.ref b7), (.int (11 : Int32)), (.int z7_4), (.int z10_44), (.long z5_2), (.int (p4.toInt8.toInt32))]) (rest := []) (lenOf pd_0_2 rfl) rfl (by show 2 * 0 + _ ≤ _; exact Nat.le_of_eq rfl) (hb hby at_353) (fun _ _ => ⟨rfl, e79, (by decide : 1 + 0 ≤ _), (by decide : 16 + 0 ≤ _)⟩)
  obtain ⟨T82, Lc82, vc82, X82, hQ82, st82⟩ := own_bk (F' := fun v => { ((mkF m 353 #[.val (.long q1), .second, .val (.int p2), .val (.int p3), .val (.int p4), .val (.long z5_2), .second, .val (.int z7_4), .val (.int (p4.toInt8.toInt32)), .val (.ref b7), .val (.int z10_44), .val (.int (z7_4 + Int32.ofNat z10_44.toInt.toNat))] [(.int (p4.toInt8.toInt32)), (.long z5_2), (.int z10_44), (.int z7_4), (.int (11 : Int32)), (.ref b7)]) : JFrame) with pc := 356, stack := v.toList ++ [] }) (ck := 1) (sn := 16) Xb82 hb82 sb82 rfl rfl
  obtain ⟨hv82, N82q, e82⟩ := hQ82
  have N82 := Fr.app N79 N82q
  refine OwnG.st (F' := (mkF m 356 #[.val (.long q1), .second, .val (.int p2), .val (.int p3), .val (.int p4), .val (.long z5_2), .second, .val (.int z7_4), .val (.int (p4.toInt8.toInt32)), .val (.ref b7), .val (.int z10_44), .val (.int (z7_4 + Int32.ofNat z10_44.toInt.toNat))] [(.int (F3 (11 : Int32) z7_4 z10_44 z5_2 (p4.toInt8.toInt32) gW))])) (fun t k => st82 t (by rw [hv82]; exact k)) ?_
  clear Xb82 hb82 sb82 st82 hv82
  have hc356_83 : ¬ ((F3 (11 : Int32) z7_4 z10_44 z5_2 (p4.toInt8.toInt32) gW) = (0 : Int32)) := by rw [hgW, hz10_44]; exact own_okk gB _ _ p4 11 11 rfl (by decide) hat hv0 (by rw [hgB]; rfl)
  have sg84 : ∀ tgt, Steps p.tables e below (T82.setTop (mkF m 371 #[.val (.long q1), .second, .val (.int p2), .val (.int p3), .val (.int p4), .val (.long z5_2), .second, .val (.int z7_4), .val (.int (p4.toInt8.toInt32)), .val (.ref b7), .val (.int z10_44), .val (.int (z7_4 + Int32.ofNat z10_44.toInt.toNat))] [(.int (p4.toInt8.toInt32)), (.long z5_2), (.int z10_44), (.int z7_4), (.int (12 : Int32)), (.ref b7)])) tgt → Steps p.tables e below (T82.setTop (mkF m 356 #[.val (.long q1), .second, .val (.int p2), .val (.int p3), .val (.int p4), .val (.long z5_2), .second, .val (.int z7_4), .val (.int (p4.toInt8.toInt32)), .val (.ref b7), .val (.int z10_44), .val (.int (z7_4 + Int32.ofNat z10_44.toInt.toNat))] [(.int (F3 (11 : Int32) z7_4 z10_44 z5_2 (p4.toInt8.toInt32) gW))])) tgt := by
    intro tgt kt
    refine XS.ifNo X82.here hx rfl (hb hby at_356) rfl ((if0 _ _).trans (feq hc356_83).1) ?_
    show Steps p.tables e below (T82.setTop (mkF m 359 #[.val (.long q1), .second, .val (.int p2), .val (.int p3), .val (.int p4), .val (.long z5_2), .second, .val (.int z7_4), .val (.int (p4.toInt8.toInt32)), .val (.ref b7), .val (.int z10_44), .val (.int (z7_4 + Int32.ofNat z10_44.toInt.toNat))] [])) _
    refine XS.aload X82.here hx rfl (hb hby at_359) rfl rfl ?_
    show Steps p.tables e below (T82.setTop (mkF m 361 #[.val (.long q1), .second, .val (.int p2), .val (.int p3), .val (.int p4), .val (.long z5_2), .second, .val (.int z7_4), .val (.int (p4.toInt8.toInt32)), .val (.ref b7), .val (.int z10_44), .val (.int (z7_4 + Int32.ofNat z10_44.toInt.toNat))] [(.ref b7)])) _
    refine XS.bipush X82.here hx rfl (hb hby at_361) ?_
    show Steps p.tables e below (T82.setTop (mkF m 363 #[.val (.long q1), .second, .val (.int p2), .val (.int p3), .val (.int p4), .val (.long z5_2), .second, .val (.int z7_4), .val (.int (p4.toInt8.toInt32)), .val (.ref b7), .val (.int z10_44), .val (.int (z7_4 + Int32.ofNat z10_44.toInt.toNat))] [(.int (12 : Int32)), (.ref b7)])) _
    refine XS.iload X82.here hx rfl (hb hby at_363) rfl ?_
    show Steps p.tables e below (T82.setTop (mkF m 365 #[.val (.long q1), .second, .val (.int p2), .val (.int p3), .val (.int p4), .val (.long z5_2), .second, .val (.int z7_4), .val (.int (p4.toInt8.toInt32)), .val (.ref b7), .val (.int z10_44), .val (.int (z7_4 + Int32.ofNat z10_44.toInt.toNat))] [(.int z7_4), (.int (12 : Int32)), (.ref b7)])) _
    refine XS.iload X82.here hx rfl (hb hby at_365) rfl ?_
    show Steps p.tables e below (T82.setTop (mkF m 367 #[.val (.long q1), .second, .val (.int p2), .val (.int p3), .val (.int p4), .val (.long z5_2), .second, .val (.int z7_4), .val (.int (p4.toInt8.toInt32)), .val (.ref b7), .val (.int z10_44), .val (.int (z7_4 + Int32.ofNat z10_44.toInt.toNat))] [(.int z10_44), (.int z7_4), (.int (12 : Int32)), (.ref b7)])) _
    refine XS.lload X82.here hx rfl (hb hby at_367) rfl ?_
    show Steps p.tables e below (T82.setTop (mkF m 369 #[.val (.long q1), .second, .val (.int p2), .val (.int p3), .val (.int p4), .val (.long z5_2), .second, .val (.int z7_4), .val (.int (p4.toInt8.toInt32)), .val (.ref b7), .val (.int z10_44), .val (.int (z7_4 + Int32.ofNat z10_44.toInt.toNat))] [(.long z5_2), (.int z10_44), (.int z7_4), (.int (12 : Int32)), (.ref b7)])) _
    refine XS.iload X82.here hx rfl (hb hby at_369) rfl ?_
    show Steps p.tables e below (T82.setTop (mkF m 371 #[.val (.long q1), .second, .val (.int p2), .val (.int p3), .val (.int p4), .val (.long z5_2), .second, .val (.int z7_4), .val (.int (p4.toInt8.toInt32)), .val (.ref b7), .val (.int z10_44), .val (.int (z7_4 + Int32.ofNat z10_44.toInt.toNat))] [(.int (p4.toInt8.toInt32)), (.long z5_2), (.int z10_44), (.int z7_4), (.int (12 : Int32)), (.ref b7)])) _
    exact kt
  refine OwnG.st sg84 ?_
  obtain ⟨vb85, _, B85, -, Xb85, hb85, sb85⟩ := Jvm.LawKit.callS X82 hx (y := (⟨"com/example/guessd/guessd/VarintsWritePinLaw", "ok", "([BIIIJB)Z"⟩ : MethodName)) hown (mvT hZ (hw _ (List.mem_of_getElem? (i := 12) rfl))) (mvT hZ (hw _ (List.mem_of_getElem? (i := 13) rfl))) (mvT hZ (hw _ (List.mem_of_getElem? (i := 4) rfl))) (mvT hZ (hw _ (List.mem_of_getElem? (i := 14) rfl))) (by decide) (backOf (W := 0) (rm3 l Z a0 hw [] b7 (12 : Int32) z7_4 z10_44 z5_2 (p4.toInt8.toInt32) 16 gW T46.heap n0 Z46 VgW (by decide) (by decide)) hZ (hw _ (List.mem_of_getElem? (i := 14) rfl)) (hw _ (List.mem_of_getElem? (i := 4) rfl)) (by decide) (by decide)) (g := (mkF m 371 #[.val (.long q1), .second, .val (.int p2), .val (.int p3), .val (.int p4), .val (.long z5_2), .second, .val (.int z7_4), .val (.int (p4.toInt8.toInt32)), .val (.ref b7), .val (.int z10_44), .val (.int (z7_4 + Int32.ofNat z10_44.toInt.toNat))] [(.int (p4.toInt8.toInt32)), (.long z5_2), (.int z10_44), (.int z7_4), (.int (12 : Int32)), (.ref b7)])) rfl (by rw [hml]; rfl) (argsL := [(.ref b7), (.int (12 : Int32)), (.int z7_4), (.int z10_44), (.long z5_2), (.int (p4.toInt8.toInt32))]) (rest := []) (lenOf pd_0_2 rfl) rfl (by show 2 * 0 + _ ≤ _; exact Nat.le_of_eq rfl) (hb hby at_371) (fun _ _ => ⟨rfl, e82, (by decide : 1 + 0 ≤ _), (by decide : 16 + 0 ≤ _)⟩)
  obtain ⟨T85, Lc85, vc85, X85, hQ85, st85⟩ := own_bk (F' := fun v => { ((mkF m 371 #[.val (.long q1), .second, .val (.int p2), .val (.int p3), .val (.int p4), .val (.long z5_2), .second, .val (.int z7_4), .val (.int (p4.toInt8.toInt32)), .val (.ref b7), .val (.int z10_44), .val (.int (z7_4 + Int32.ofNat z10_44.toInt.toNat))] [(.int (p4.toInt8.toInt32)), (.long z5_2), (.int z10_44), (.int z7_4), (.int (12 : Int32)), (.ref b7)]) : JFrame) with pc := 374, stack := v.toList ++ [] }) (ck := 1) (sn := 16) Xb85 hb85 sb85 rfl rfl
  obtain ⟨hv85, N85q, e85⟩ := hQ85
  have N85 := Fr.app N82 N85q
  refine OwnG.st (F' := (mkF m 374 #[.val (.long q1), .second, .val (.int p2), .val (.int p3), .val (.int p4), .val (.long z5_2), .second, .val (.int z7_4), .val (.int (p4.toInt8.toInt32)), .val (.ref b7), .val (.int z10_44), .val (.int (z7_4 + Int32.ofNat z10_44.toInt.toNat))] [(.int (F3 (12 : Int32) z7_4 z10_44 z5_2 (p4.toInt8.toInt32) gW))])) (fun t k => st85 t (by rw [hv85]; exact k)) ?_
  clear Xb85 hb85 sb85 st85 hv85
  have hc374_86 : ¬ ((F3 (12 : Int32) z7_4 z10_44 z5_2 (p4.toInt8.toInt32) gW) = (0 : Int32)) := by rw [hgW, hz10_44]; exact own_okk gB _ _ p4 12 12 rfl (by decide) hat hv0 (by rw [hgB]; rfl)
  have sg87 : ∀ tgt, Steps p.tables e below (T85.setTop (mkF m 389 #[.val (.long q1), .second, .val (.int p2), .val (.int p3), .val (.int p4), .val (.long z5_2), .second, .val (.int z7_4), .val (.int (p4.toInt8.toInt32)), .val (.ref b7), .val (.int z10_44), .val (.int (z7_4 + Int32.ofNat z10_44.toInt.toNat))] [(.int (p4.toInt8.toInt32)), (.long z5_2), (.int z10_44), (.int z7_4), (.int (13 : Int32)), (.ref b7)])) tgt → Steps p.tables e below (T85.setTop (mkF m 374 #[.val (.long q1), .second, .val (.int p2), .val (.int p3), .val (.int p4), .val (.long z5_2), .second, .val (.int z7_4), .val (.int (p4.toInt8.toInt32)), .val (.ref b7), .val (.int z10_44), .val (.int (z7_4 + Int32.ofNat z10_44.toInt.toNat))] [(.int (F3 (12 : Int32) z7_4 z10_44 z5_2 (p4.toInt8.toInt32) gW))])) tgt := by
    intro tgt kt
    refine XS.ifNo X85.here hx rfl (hb hby at_374) rfl ((if0 _ _).trans (feq hc374_86).1) ?_
    show Steps p.tables e below (T85.setTop (mkF m 377 #[.val (.long q1), .second, .val (.int p2), .val (.int p3), .val (.int p4), .val (.long z5_2), .second, .val (.int z7_4), .val (.int (p4.toInt8.toInt32)), .val (.ref b7), .val (.int z10_44), .val (.int (z7_4 + Int32.ofNat z10_44.toInt.toNat))] [])) _
    refine XS.aload X85.here hx rfl (hb hby at_377) rfl rfl ?_
    show Steps p.tables e below (T85.setTop (mkF m 379 #[.val (.long q1), .second, .val (.int p2), .val (.int p3), .val (.int p4), .val (.long z5_2), .second, .val (.int z7_4), .val (.int (p4.toInt8.toInt32)), .val (.ref b7), .val (.int z10_44), .val (.int (z7_4 + Int32.ofNat z10_44.toInt.toNat))] [(.ref b7)])) _
    refine XS.bipush X85.here hx rfl (hb hby at_379) ?_
    show Steps p.tables e below (T85.setTop (mkF m 381 #[.val (.long q1), .second, .val (.int p2), .val (.int p3), .val (.int p4), .val (.long z5_2), .second, .val (.int z7_4), .val (.int (p4.toInt8.toInt32)), .val (.ref b7), .val (.int z10_44), .val (.int (z7_4 + Int32.ofNat z10_44.toInt.toNat))] [(.int (13 : Int32)), (.ref b7)])) _
    refine XS.iload X85.here hx rfl (hb hby at_381) rfl ?_
    show Steps p.tables e below (T85.setTop (mkF m 383 #[.val (.long q1), .second, .val (.int p2), .val (.int p3), .val (.int p4), .val (.long z5_2), .second, .val (.int z7_4), .val (.int (p4.toInt8.toInt32)), .val (.ref b7), .val (.int z10_44), .val (.int (z7_4 + Int32.ofNat z10_44.toInt.toNat))] [(.int z7_4), (.int (13 : Int32)), (.ref b7)])) _
    refine XS.iload X85.here hx rfl (hb hby at_383) rfl ?_
    show Steps p.tables e below (T85.setTop (mkF m 385 #[.val (.long q1), .second, .val (.int p2), .val (.int p3), .val (.int p4), .val (.long z5_2), .second, .val (.int z7_4), .val (.int (p4.toInt8.toInt32)), .val (.ref b7), .val (.int z10_44), .val (.int (z7_4 + Int32.ofNat z10_44.toInt.toNat))] [(.int z10_44), (.int z7_4), (.int (13 : Int32)), (.ref b7)])) _
    refine XS.lload X85.here hx rfl (hb hby at_385) rfl ?_
    show Steps p.tables e below (T85.setTop (mkF m 387 #[.val (.long q1), .second, .val (.int p2), .val (.int p3), .val (.int p4), .val (.long z5_2), .second, .val (.int z7_4), .val (.int (p4.toInt8.toInt32)), .val (.ref b7), .val (.int z10_44), .val (.int (z7_4 + Int32.ofNat z10_44.toInt.toNat))] [(.long z5_2), (.int z10_44), (.int z7_4), (.int (13 : Int32)), (.ref b7)])) _
    refine XS.iload X85.here hx rfl (hb hby at_387) rfl ?_
    show Steps p.tables e below (T85.setTop (mkF m 389 #[.val (.long q1), .second, .val (.int p2), .val (.int p3), .val (.int p4), .val (.long z5_2), .second, .val (.int z7_4), .val (.int (p4.toInt8.toInt32)), .val (.ref b7), .val (.int z10_44), .val (.int (z7_4 + Int32.ofNat z10_44.toInt.toNat))] [(.int (p4.toInt8.toInt32)), (.long z5_2), (.int z10_44), (.int z7_4), (.int (13 : Int32)), (.ref b7)])) _
    exact kt
  refine OwnG.st sg87 ?_
  obtain ⟨vb88, _, B88, -, Xb88, hb88, sb88⟩ := Jvm.LawKit.callS X85 hx (y := (⟨"com/example/guessd/guessd/VarintsWritePinLaw", "ok", "([BIIIJB)Z"⟩ : MethodName)) hown (mvT hZ (hw _ (List.mem_of_getElem? (i := 12) rfl))) (mvT hZ (hw _ (List.mem_of_getElem? (i := 13) rfl))) (mvT hZ (hw _ (List.mem_of_getElem? (i := 4) rfl))) (mvT hZ (hw _ (List.mem_of_getElem? (i := 14) rfl))) (by decide) (backOf (W := 0) (rm3 l Z a0 hw [] b7 (13 : Int32) z7_4 z10_44 z5_2 (p4.toInt8.toInt32) 16 gW T46.heap n0 Z46 VgW (by decide) (by decide)) hZ (hw _ (List.mem_of_getElem? (i := 14) rfl)) (hw _ (List.mem_of_getElem? (i := 4) rfl)) (by decide) (by decide)) (g := (mkF m 389 #[.val (.long q1), .second, .val (.int p2), .val (.int p3), .val (.int p4), .val (.long z5_2), .second, .val (.int z7_4), .val (.int (p4.toInt8.toInt32)), .val (.ref b7), .val (.int z10_44), .val (.int (z7_4 + Int32.ofNat z10_44.toInt.toNat))] [(.int (p4.toInt8.toInt32)), (.long z5_2), (.int z10_44), (.int z7_4), (.int (13 : Int32)), (.ref b7)])) rfl (by rw [hml]; rfl) (argsL := [(.ref b7), (.int (13 : Int32)), (.int z7_4), (.int z10_44), (.long z5_2), (.int (p4.toInt8.toInt32))]) (rest := []) (lenOf pd_0_2 rfl) rfl (by show 2 * 0 + _ ≤ _; exact Nat.le_of_eq rfl) (hb hby at_389) (fun _ _ => ⟨rfl, e85, (by decide : 1 + 0 ≤ _), (by decide : 16 + 0 ≤ _)⟩)
  obtain ⟨T88, Lc88, vc88, X88, hQ88, st88⟩ := own_bk (F' := fun v => { ((mkF m 389 #[.val (.long q1), .second, .val (.int p2), .val (.int p3), .val (.int p4), .val (.long z5_2), .second, .val (.int z7_4), .val (.int (p4.toInt8.toInt32)), .val (.ref b7), .val (.int z10_44), .val (.int (z7_4 + Int32.ofNat z10_44.toInt.toNat))] [(.int (p4.toInt8.toInt32)), (.long z5_2), (.int z10_44), (.int z7_4), (.int (13 : Int32)), (.ref b7)]) : JFrame) with pc := 392, stack := v.toList ++ [] }) (ck := 1) (sn := 16) Xb88 hb88 sb88 rfl rfl
  obtain ⟨hv88, N88q, e88⟩ := hQ88
  have N88 := Fr.app N85 N88q
  refine OwnG.st (F' := (mkF m 392 #[.val (.long q1), .second, .val (.int p2), .val (.int p3), .val (.int p4), .val (.long z5_2), .second, .val (.int z7_4), .val (.int (p4.toInt8.toInt32)), .val (.ref b7), .val (.int z10_44), .val (.int (z7_4 + Int32.ofNat z10_44.toInt.toNat))] [(.int (F3 (13 : Int32) z7_4 z10_44 z5_2 (p4.toInt8.toInt32) gW))])) (fun t k => st88 t (by rw [hv88]; exact k)) ?_
  clear Xb88 hb88 sb88 st88 hv88
  have hc392_89 : ¬ ((F3 (13 : Int32) z7_4 z10_44 z5_2 (p4.toInt8.toInt32) gW) = (0 : Int32)) := by rw [hgW, hz10_44]; exact own_okk gB _ _ p4 13 13 rfl (by decide) hat hv0 (by rw [hgB]; rfl)
  have sg90 : ∀ tgt, Steps p.tables e below (T88.setTop (mkF m 407 #[.val (.long q1), .second, .val (.int p2), .val (.int p3), .val (.int p4), .val (.long z5_2), .second, .val (.int z7_4), .val (.int (p4.toInt8.toInt32)), .val (.ref b7), .val (.int z10_44), .val (.int (z7_4 + Int32.ofNat z10_44.toInt.toNat))] [(.int (p4.toInt8.toInt32)), (.long z5_2), (.int z10_44), (.int z7_4), (.int (14 : Int32)), (.ref b7)])) tgt → Steps p.tables e below (T88.setTop (mkF m 392 #[.val (.long q1), .second, .val (.int p2), .val (.int p3), .val (.int p4), .val (.long z5_2), .second, .val (.int z7_4), .val (.int (p4.toInt8.toInt32)), .val (.ref b7), .val (.int z10_44), .val (.int (z7_4 + Int32.ofNat z10_44.toInt.toNat))] [(.int (F3 (13 : Int32) z7_4 z10_44 z5_2 (p4.toInt8.toInt32) gW))])) tgt := by
    intro tgt kt
    refine XS.ifNo X88.here hx rfl (hb hby at_392) rfl ((if0 _ _).trans (feq hc392_89).1) ?_
    show Steps p.tables e below (T88.setTop (mkF m 395 #[.val (.long q1), .second, .val (.int p2), .val (.int p3), .val (.int p4), .val (.long z5_2), .second, .val (.int z7_4), .val (.int (p4.toInt8.toInt32)), .val (.ref b7), .val (.int z10_44), .val (.int (z7_4 + Int32.ofNat z10_44.toInt.toNat))] [])) _
    refine XS.aload X88.here hx rfl (hb hby at_395) rfl rfl ?_
    show Steps p.tables e below (T88.setTop (mkF m 397 #[.val (.long q1), .second, .val (.int p2), .val (.int p3), .val (.int p4), .val (.long z5_2), .second, .val (.int z7_4), .val (.int (p4.toInt8.toInt32)), .val (.ref b7), .val (.int z10_44), .val (.int (z7_4 + Int32.ofNat z10_44.toInt.toNat))] [(.ref b7)])) _
    refine XS.bipush X88.here hx rfl (hb hby at_397) ?_
    show Steps p.tables e below (T88.setTop (mkF m 399 #[.val (.long q1), .second, .val (.int p2), .val (.int p3), .val (.int p4), .val (.long z5_2), .second, .val (.int z7_4), .val (.int (p4.toInt8.toInt32)), .val (.ref b7), .val (.int z10_44), .val (.int (z7_4 + Int32.ofNat z10_44.toInt.toNat))] [(.int (14 : Int32)), (.ref b7)])) _
    refine XS.iload X88.here hx rfl (hb hby at_399) rfl ?_
    show Steps p.tables e below (T88.setTop (mkF m 401 #[.val (.long q1), .second, .val (.int p2), .val (.int p3), .val (.int p4), .val (.long z5_2), .second, .val (.int z7_4), .val (.int (p4.toInt8.toInt32)), .val (.ref b7), .val (.int z10_44), .val (.int (z7_4 + Int32.ofNat z10_44.toInt.toNat))] [(.int z7_4), (.int (14 : Int32)), (.ref b7)])) _
    refine XS.iload X88.here hx rfl (hb hby at_401) rfl ?_
    show Steps p.tables e below (T88.setTop (mkF m 403 #[.val (.long q1), .second, .val (.int p2), .val (.int p3), .val (.int p4), .val (.long z5_2), .second, .val (.int z7_4), .val (.int (p4.toInt8.toInt32)), .val (.ref b7), .val (.int z10_44), .val (.int (z7_4 + Int32.ofNat z10_44.toInt.toNat))] [(.int z10_44), (.int z7_4), (.int (14 : Int32)), (.ref b7)])) _
    refine XS.lload X88.here hx rfl (hb hby at_403) rfl ?_
    show Steps p.tables e below (T88.setTop (mkF m 405 #[.val (.long q1), .second, .val (.int p2), .val (.int p3), .val (.int p4), .val (.long z5_2), .second, .val (.int z7_4), .val (.int (p4.toInt8.toInt32)), .val (.ref b7), .val (.int z10_44), .val (.int (z7_4 + Int32.ofNat z10_44.toInt.toNat))] [(.long z5_2), (.int z10_44), (.int z7_4), (.int (14 : Int32)), (.ref b7)])) _
    refine XS.iload X88.here hx rfl (hb hby at_405) rfl ?_
    show Steps p.tables e below (T88.setTop (mkF m 407 #[.val (.long q1), .second, .val (.int p2), .val (.int p3), .val (.int p4), .val (.long z5_2), .second, .val (.int z7_4), .val (.int (p4.toInt8.toInt32)), .val (.ref b7), .val (.int z10_44), .val (.int (z7_4 + Int32.ofNat z10_44.toInt.toNat))] [(.int (p4.toInt8.toInt32)), (.long z5_2), (.int z10_44), (.int z7_4), (.int (14 : Int32)), (.ref b7)])) _
    exact kt
  refine OwnG.st sg90 ?_
  obtain ⟨vb91, _, B91, -, Xb91, hb91, sb91⟩ := Jvm.LawKit.callS X88 hx (y := (⟨"com/example/guessd/guessd/VarintsWritePinLaw", "ok", "([BIIIJB)Z"⟩ : MethodName)) hown (mvT hZ (hw _ (List.mem_of_getElem? (i := 12) rfl))) (mvT hZ (hw _ (List.mem_of_getElem? (i := 13) rfl))) (mvT hZ (hw _ (List.mem_of_getElem? (i := 4) rfl))) (mvT hZ (hw _ (List.mem_of_getElem? (i := 14) rfl))) (by decide) (backOf (W := 0) (rm3 l Z a0 hw [] b7 (14 : Int32) z7_4 z10_44 z5_2 (p4.toInt8.toInt32) 16 gW T46.heap n0 Z46 VgW (by decide) (by decide)) hZ (hw _ (List.mem_of_getElem? (i := 14) rfl)) (hw _ (List.mem_of_getElem? (i := 4) rfl)) (by decide) (by decide)) (g := (mkF m 407 #[.val (.long q1), .second, .val (.int p2), .val (.int p3), .val (.int p4), .val (.long z5_2), .second, .val (.int z7_4), .val (.int (p4.toInt8.toInt32)), .val (.ref b7), .val (.int z10_44), .val (.int (z7_4 + Int32.ofNat z10_44.toInt.toNat))] [(.int (p4.toInt8.toInt32)), (.long z5_2), (.int z10_44), (.int z7_4), (.int (14 : Int32)), (.ref b7)])) rfl (by rw [hml]; rfl) (argsL := [(.ref b7), (.int (14 : Int32)), (.int z7_4), (.int z10_44), (.long z5_2), (.int (p4.toInt8.toInt32))]) (rest := []) (lenOf pd_0_2 rfl) rfl (by show 2 * 0 + _ ≤ _; exact Nat.le_of_eq rfl) (hb hby at_407) (fun _ _ => ⟨rfl, e88, (by decide : 1 + 0 ≤ _), (by decide : 16 + 0 ≤ _)⟩)
  obtain ⟨T91, Lc91, vc91, X91, hQ91, st91⟩ := own_bk (F' := fun v => { ((mkF m 407 #[.val (.long q1), .second, .val (.int p2), .val (.int p3), .val (.int p4), .val (.long z5_2), .second, .val (.int z7_4), .val (.int (p4.toInt8.toInt32)), .val (.ref b7), .val (.int z10_44), .val (.int (z7_4 + Int32.ofNat z10_44.toInt.toNat))] [(.int (p4.toInt8.toInt32)), (.long z5_2), (.int z10_44), (.int z7_4), (.int (14 : Int32)), (.ref b7)]) : JFrame) with pc := 410, stack := v.toList ++ [] }) (ck := 1) (sn := 16) Xb91 hb91 sb91 rfl rfl
  obtain ⟨hv91, N91q, e91⟩ := hQ91
  have N91 := Fr.app N88 N91q
  refine OwnG.st (F' := (mkF m 410 #[.val (.long q1), .second, .val (.int p2), .val (.int p3), .val (.int p4), .val (.long z5_2), .second, .val (.int z7_4), .val (.int (p4.toInt8.toInt32)), .val (.ref b7), .val (.int z10_44), .val (.int (z7_4 + Int32.ofNat z10_44.toInt.toNat))] [(.int (F3 (14 : Int32) z7_4 z10_44 z5_2 (p4.toInt8.toInt32) gW))])) (fun t k => st91 t (by rw [hv91]; exact k)) ?_
  clear Xb91 hb91 sb91 st91 hv91
  have hc410_92 : ¬ ((F3 (14 : Int32) z7_4 z10_44 z5_2 (p4.toInt8.toInt32) gW) = (0 : Int32)) := by rw [hgW, hz10_44]; exact own_okk gB _ _ p4 14 14 rfl (by decide) hat hv0 (by rw [hgB]; rfl)
  have sg93 : ∀ tgt, Steps p.tables e below (T91.setTop (mkF m 425 #[.val (.long q1), .second, .val (.int p2), .val (.int p3), .val (.int p4), .val (.long z5_2), .second, .val (.int z7_4), .val (.int (p4.toInt8.toInt32)), .val (.ref b7), .val (.int z10_44), .val (.int (z7_4 + Int32.ofNat z10_44.toInt.toNat))] [(.int (p4.toInt8.toInt32)), (.long z5_2), (.int z10_44), (.int z7_4), (.int (15 : Int32)), (.ref b7)])) tgt → Steps p.tables e below (T91.setTop (mkF m 410 #[.val (.long q1), .second, .val (.int p2), .val (.int p3), .val (.int p4), .val (.long z5_2), .second, .val (.int z7_4), .val (.int (p4.toInt8.toInt32)), .val (.ref b7), .val (.int z10_44), .val (.int (z7_4 + Int32.ofNat z10_44.toInt.toNat))] [(.int (F3 (14 : Int32) z7_4 z10_44 z5_2 (p4.toInt8.toInt32) gW))])) tgt := by
    intro tgt kt
    refine XS.ifNo X91.here hx rfl (hb hby at_410) rfl ((if0 _ _).trans (feq hc410_92).1) ?_
    show Steps p.tables e below (T91.setTop (mkF m 413 #[.val (.long q1), .second, .val (.int p2), .val (.int p3), .val (.int p4), .val (.long z5_2), .second, .val (.int z7_4), .val (.int (p4.toInt8.toInt32)), .val (.ref b7), .val (.int z10_44), .val (.int (z7_4 + Int32.ofNat z10_44.toInt.toNat))] [])) _
    refine XS.aload X91.here hx rfl (hb hby at_413) rfl rfl ?_
    show Steps p.tables e below (T91.setTop (mkF m 415 #[.val (.long q1), .second, .val (.int p2), .val (.int p3), .val (.int p4), .val (.long z5_2), .second, .val (.int z7_4), .val (.int (p4.toInt8.toInt32)), .val (.ref b7), .val (.int z10_44), .val (.int (z7_4 + Int32.ofNat z10_44.toInt.toNat))] [(.ref b7)])) _
    refine XS.bipush X91.here hx rfl (hb hby at_415) ?_
    show Steps p.tables e below (T91.setTop (mkF m 417 #[.val (.long q1), .second, .val (.int p2), .val (.int p3), .val (.int p4), .val (.long z5_2), .second, .val (.int z7_4), .val (.int (p4.toInt8.toInt32)), .val (.ref b7), .val (.int z10_44), .val (.int (z7_4 + Int32.ofNat z10_44.toInt.toNat))] [(.int (15 : Int32)), (.ref b7)])) _
    refine XS.iload X91.here hx rfl (hb hby at_417) rfl ?_
    show Steps p.tables e below (T91.setTop (mkF m 419 #[.val (.long q1), .second, .val (.int p2), .val (.int p3), .val (.int p4), .val (.long z5_2), .second, .val (.int z7_4), .val (.int (p4.toInt8.toInt32)), .val (.ref b7), .val (.int z10_44), .val (.int (z7_4 + Int32.ofNat z10_44.toInt.toNat))] [(.int z7_4), (.int (15 : Int32)), (.ref b7)])) _
    refine XS.iload X91.here hx rfl (hb hby at_419) rfl ?_
    show Steps p.tables e below (T91.setTop (mkF m 421 #[.val (.long q1), .second, .val (.int p2), .val (.int p3), .val (.int p4), .val (.long z5_2), .second, .val (.int z7_4), .val (.int (p4.toInt8.toInt32)), .val (.ref b7), .val (.int z10_44), .val (.int (z7_4 + Int32.ofNat z10_44.toInt.toNat))] [(.int z10_44), (.int z7_4), (.int (15 : Int32)), (.ref b7)])) _
    refine XS.lload X91.here hx rfl (hb hby at_421) rfl ?_
    show Steps p.tables e below (T91.setTop (mkF m 423 #[.val (.long q1), .second, .val (.int p2), .val (.int p3), .val (.int p4), .val (.long z5_2), .second, .val (.int z7_4), .val (.int (p4.toInt8.toInt32)), .val (.ref b7), .val (.int z10_44), .val (.int (z7_4 + Int32.ofNat z10_44.toInt.toNat))] [(.long z5_2), (.int z10_44), (.int z7_4), (.int (15 : Int32)), (.ref b7)])) _
    refine XS.iload X91.here hx rfl (hb hby at_423) rfl ?_
    show Steps p.tables e below (T91.setTop (mkF m 425 #[.val (.long q1), .second, .val (.int p2), .val (.int p3), .val (.int p4), .val (.long z5_2), .second, .val (.int z7_4), .val (.int (p4.toInt8.toInt32)), .val (.ref b7), .val (.int z10_44), .val (.int (z7_4 + Int32.ofNat z10_44.toInt.toNat))] [(.int (p4.toInt8.toInt32)), (.long z5_2), (.int z10_44), (.int z7_4), (.int (15 : Int32)), (.ref b7)])) _
    exact kt
  refine OwnG.st sg93 ?_
  obtain ⟨vb94, _, B94, -, Xb94, hb94, sb94⟩ := Jvm.LawKit.callS X91 hx (y := (⟨"com/example/guessd/guessd/VarintsWritePinLaw", "ok", "([BIIIJB)Z"⟩ : MethodName)) hown (mvT hZ (hw _ (List.mem_of_getElem? (i := 12) rfl))) (mvT hZ (hw _ (List.mem_of_getElem? (i := 13) rfl))) (mvT hZ (hw _ (List.mem_of_getElem? (i := 4) rfl))) (mvT hZ (hw _ (List.mem_of_getElem? (i := 14) rfl))) (by decide) (backOf (W := 0) (rm3 l Z a0 hw [] b7 (15 : Int32) z7_4 z10_44 z5_2 (p4.toInt8.toInt32) 16 gW T46.heap n0 Z46 VgW (by decide) (by decide)) hZ (hw _ (List.mem_of_getElem? (i := 14) rfl)) (hw _ (List.mem_of_getElem? (i := 4) rfl)) (by decide) (by decide)) (g := (mkF m 425 #[.val (.long q1), .second, .val (.int p2), .val (.int p3), .val (.int p4), .val (.long z5_2), .second, .val (.int z7_4), .val (.int (p4.toInt8.toInt32)), .val (.ref b7), .val (.int z10_44), .val (.int (z7_4 + Int32.ofNat z10_44.toInt.toNat))] [(.int (p4.toInt8.toInt32)), (.long z5_2), (.int z10_44), (.int z7_4), (.int (15 : Int32)), (.ref b7)])) rfl (by rw [hml]; rfl) (argsL := [(.ref b7), (.int (15 : Int32)), (.int z7_4), (.int z10_44), (.long z5_2), (.int (p4.toInt8.toInt32))]) (rest := []) (lenOf pd_0_2 rfl) rfl (by show 2 * 0 + _ ≤ _; exact Nat.le_of_eq rfl) (hb hby at_425) (fun _ _ => ⟨rfl, e91, (by decide : 1 + 0 ≤ _), (by decide : 16 + 0 ≤ _)⟩)
  obtain ⟨T94, Lc94, vc94, X94, hQ94, st94⟩ := own_bk (F' := fun v => { ((mkF m 425 #[.val (.long q1), .second, .val (.int p2), .val (.int p3), .val (.int p4), .val (.long z5_2), .second, .val (.int z7_4), .val (.int (p4.toInt8.toInt32)), .val (.ref b7), .val (.int z10_44), .val (.int (z7_4 + Int32.ofNat z10_44.toInt.toNat))] [(.int (p4.toInt8.toInt32)), (.long z5_2), (.int z10_44), (.int z7_4), (.int (15 : Int32)), (.ref b7)]) : JFrame) with pc := 428, stack := v.toList ++ [] }) (ck := 1) (sn := 16) Xb94 hb94 sb94 rfl rfl
  obtain ⟨hv94, N94q, e94⟩ := hQ94
  have N94 := Fr.app N91 N94q
  refine OwnG.st (F' := (mkF m 428 #[.val (.long q1), .second, .val (.int p2), .val (.int p3), .val (.int p4), .val (.long z5_2), .second, .val (.int z7_4), .val (.int (p4.toInt8.toInt32)), .val (.ref b7), .val (.int z10_44), .val (.int (z7_4 + Int32.ofNat z10_44.toInt.toNat))] [(.int (F3 (15 : Int32) z7_4 z10_44 z5_2 (p4.toInt8.toInt32) gW))])) (fun t k => st94 t (by rw [hv94]; exact k)) ?_
  clear Xb94 hb94 sb94 st94 hv94
  have hc428_95 : ¬ ((F3 (15 : Int32) z7_4 z10_44 z5_2 (p4.toInt8.toInt32) gW) = (0 : Int32)) := by rw [hgW, hz10_44]; exact own_okk gB _ _ p4 15 15 rfl (by decide) hat hv0 (by rw [hgB]; rfl)
  have sg96 : ∀ tgt, Steps p.tables e below (T94.setTop (mkF m 436 #[.val (.long q1), .second, .val (.int p2), .val (.int p3), .val (.int p4), .val (.long z5_2), .second, .val (.int z7_4), .val (.int (p4.toInt8.toInt32)), .val (.ref b7), .val (.int z10_44), .val (.int (z7_4 + Int32.ofNat z10_44.toInt.toNat))] [(.int (1 : Int32))])) tgt → Steps p.tables e below (T94.setTop (mkF m 428 #[.val (.long q1), .second, .val (.int p2), .val (.int p3), .val (.int p4), .val (.long z5_2), .second, .val (.int z7_4), .val (.int (p4.toInt8.toInt32)), .val (.ref b7), .val (.int z10_44), .val (.int (z7_4 + Int32.ofNat z10_44.toInt.toNat))] [(.int (F3 (15 : Int32) z7_4 z10_44 z5_2 (p4.toInt8.toInt32) gW))])) tgt := by
    intro tgt kt
    refine XS.ifNo X94.here hx rfl (hb hby at_428) rfl ((if0 _ _).trans (feq hc428_95).1) ?_
    show Steps p.tables e below (T94.setTop (mkF m 431 #[.val (.long q1), .second, .val (.int p2), .val (.int p3), .val (.int p4), .val (.long z5_2), .second, .val (.int z7_4), .val (.int (p4.toInt8.toInt32)), .val (.ref b7), .val (.int z10_44), .val (.int (z7_4 + Int32.ofNat z10_44.toInt.toNat))] [])) _
    refine XS.iconst X94.here hx rfl (hb hby at_431) ?_
    show Steps p.tables e below (T94.setTop (mkF m 432 #[.val (.long q1), .second, .val (.int p2), .val (.int p3), .val (.int p4), .val (.long z5_2), .second, .val (.int z7_4), .val (.int (p4.toInt8.toInt32)), .val (.ref b7), .val (.int z10_44), .val (.int (z7_4 + Int32.ofNat z10_44.toInt.toNat))] [(.int (1 : Int32))])) _
    refine XS.goto X94.here hx rfl (pc0 := 432) (pc' := 436) rfl (hb hby at_432) (by decide) (by decide) ?_
    show Steps p.tables e below (T94.setTop (mkF m 436 #[.val (.long q1), .second, .val (.int p2), .val (.int p3), .val (.int p4), .val (.long z5_2), .second, .val (.int z7_4), .val (.int (p4.toInt8.toInt32)), .val (.ref b7), .val (.int z10_44), .val (.int (z7_4 + Int32.ofNat z10_44.toInt.toNat))] [(.int (1 : Int32))])) _
    exact kt
  refine OwnG.st sg96 ?_
  have hv : (1 : Int32) = 1 := rfl
  exact OwnG.retN X94 hx (t := .boolean) (by simp) Bd.returns (BodyLoose.notSynchronized Bd) (hb hby at_436) ⟨congrArg (fun w => some (Value.int (nar .boolean w))) hv, N94⟩ (by decide) (by decide)
set_option maxRecDepth 65536 in
set_option maxHeartbeats 40000000 in
theorem comes_1 {Post : Tables → Env → Array Value → State → Outcome → State → Prop} (hpost : ∀ tb e args s v u, (limb_1_1.after args s (.returned v) u = true ∧ limb_1_2.after args s (.returned v) u = true ∧ True) → FrameEnd s (.returned v) u (Jvm.fieldLocs frame_1_writes args s ++ Jvm.arrayLocs frame_1_arrays args s ++ Jvm.staticLocs frame_1_statics s) 16 128 → Post tb e args s (.returned v) u) :
    ArmFor flags0 classFile x code maxLocals ret World_1 tables_1 room_1 Calls_1 rest_1 Pre_1 Post := by
  intro l hfl _ _ p e ha hc hk s m args below hf hA hF happ hP
  obtain ⟨hcalls, hrest, hpre⟩ := hP
  obtain ⟨-, -, -, hnamed, -, -, -, hat⟩ := (Spec.applies_iff hf).mp happ
  obtain ⟨hg, hn⟩ := and_e (Cond.before_iff.mp (show (Jvm.Cond.and given_1 narrow_1).before args s = true from hpre))
  obtain ⟨g1, g2⟩ := and_e hg
  obtain ⟨g3, g4⟩ := and_e g2
  obtain ⟨g5, g6⟩ := and_e g4
  obtain ⟨g7, g8⟩ := and_e g6
  obtain ⟨w0, w1, w2, w3, rfl⟩ : ∃ w0 w1 w2 w3 : Value, args = #[w0, w1, w2, w3] := by
    have hs : args.size = 4 := by simpa [Cond.value, given_1] using g1
    obtain ⟨L⟩ := args
    match L, hs with
    | [w0, w1, w2, w3], _ => exact ⟨w0, w1, w2, w3, rfl⟩
  have hw := fun d (hd : d ∈ tables_1) => atoms_spec (ws := Jvm.Cond.code x code maxLocals ret :: tables_1) hat d (List.mem_cons_of_mem _ hd)
  obtain ⟨i0, ei0⟩ := isL_v g3
  obtain rfl : w0 = (.long i0) := Option.some.inj ei0
  obtain ⟨i1, ei1⟩ := is_v g5
  obtain rfl : w1 = (.int i1) := Option.some.inj ei1
  obtain ⟨i2, ei2⟩ := is_v g7
  obtain rfl : w2 = (.int i2) := Option.some.inj ei2
  obtain ⟨i3, ei3⟩ := is_v g8
  obtain rfl : w3 = (.int i3) := Option.some.inj ei3
  obtain ⟨n, o, h1, h2, h3, _, L, rfl, ⟨rfl, N⟩, hq⟩ := rm0 l s _ hw tables_1 i0 i1 i2 i3  s.heap s.heap.size (Nat.le_refl _)  p e ha hc hk s m _ below hf ((Spec.applies_iff_loose hf).mp happ).1 ⟨rfl, State.Warmed39.refl s, rfl⟩ trivial
  refine ⟨n, _, h1, h2, h3, hpost _ _ _ _ _ _ ⟨Cond.after_iff.mpr rfl, Cond.after_iff.mpr (eq_i res_at (Term.int_eval (1)) rfl), trivial⟩ ⟨hq.1, hq.2.1, (hq.2.2.sift fun y hy => Or.inr (N y hy)).mono (by decide) (by decide)⟩⟩
theorem main_1_1 : Claimed_1_1 := comes_1 fun _ _ _ _ _ _ h hF => ⟨h.1, hF⟩
theorem main_1_2 : Claimed_1_2 := comes_1 fun _ _ _ _ _ _ h hF => ⟨h.2.1, hF⟩
end Jvm.Pilot.@@N@@
namespace Jvm.Pilot.@@N@@
open Jvm Jvm.ClassFile Sem Op Lib Jvm.Free Jvm.Stand Jvm.Pilot.@@N@@.Jvm.D
/-! MADE BY PROGRAM (witnessworld.py) out of the Statement's table words and the real class files: 9 classes; the members and pool entries that the words name. The judged class is class 1, her method 3. -/
namespace start1
open Jvm.ClassFile
def u (s : String) : CpInfo := .utf8 (stringToUtf16 s)
/-- a pool by its gaps: so many unusable entries, then the entry; so many at the end -/
def gap : Nat → List CpInfo → List CpInfo
  | 0, r => r
  | n + 1, r => .unusable :: gap n r
def poolList (es : List (Nat × CpInfo)) (last : Nat) : List CpInfo := es.foldr (fun e r => gap e.1 (e.2 :: r)) (gap last [])
def pool (es : List (Nat × CpInfo)) (last : Nat) : Array CpInfo := ⟨poolList es last⟩
def fileOf (pool : Array CpInfo) (this : Nat) (attrs : Array Attribute := #[]) (ms : Array MethodInfo := #[]) (fl : Nat := 33) (sup : Nat := 0) (ifs : Array Nat := #[]) (fds : Array FieldInfo := #[]) : ClassFile where
  minorVersion := 0
  majorVersion := 65
  constantPool := pool
  accessFlags := fl
  thisClass := this
  superClass := sup
  interfaces := ifs
  fields := fds
  methods := ms
  attributes := attrs
def plain (name : String) (sup : Option ClassId) : Class where
  name := name
  kind := .ordinary
  loader := none
  accessFlags := 33
  super := sup
  interfaces := #[]
  cf := none
  fields := #[]
  methods := #[]
  instanceTypes := #[]
  staticTypes := #[]
  resolved := #[]
  callSites := []
  init := .initialized
  statics := none
  mirror := none

def pool0 : Array CpInfo := pool [(5, u "<init>"), (0, u "()V"), (1, .class_ 10), (1, u "java/lang/Object")] 113

def k0m0 : Method := { name := "<init>", desc := "()V", sig := { parameters := [], returnType := none }, accessFlags := 1, code := none }
/-- java/lang/Object -/
def k0 : Class := { plain "java/lang/Object" none with
  accessFlags := 33
  interfaces := #[]
  cf := some (fileOf pool0 8 #[] #[{ accessFlags := 1, nameIndex := 5, descriptorIndex := 6, attributes := #[] }] 33 0 #[] #[])
  fields := #[]
  methods := #[k0m0]
  instanceTypes := #[]
  staticTypes := #[]
  resolved := Array.replicate 124 none
  statics := none }

def pool1 : Array CpInfo := pool [(2, .class_ 4), (1, u "java/lang/Object"), (0, u "<init>"), (0, u "()V"), (0, .long 128), (1, .long 16384), (1, .long 2097152), (1, .long 268435456), (1, .long 34359738368), (1, .long 4398046511104), (1, .long 562949953421312), (1, .long 72057594037927936), (1, .long 127), (3, .long 9223372036854775807), (1, .methodref 30 31), (0, .class_ 32), (0, .nameAndType 33 34), (0, u "com/example/guessd/guessd/VarintsWritePinLaw"), (0, u "count"), (0, u "(J)I"), (0, .methodref 36 37), (0, .class_ 38), (0, .nameAndType 39 40), (0, u "com/example/guessd/guessd/Varints"), (0, u "write"), (0, u "([BIJ)I"), (0, .methodref 30 42), (0, .nameAndType 43 44), (0, u "ok"), (0, u "([BIIIJB)Z"), (5, u "law"), (0, u "(JIII)Z")] 2

def k1m0 : Method := { name := "<init>", desc := "()V", sig := { parameters := [], returnType := none }, accessFlags := 2, code := none }
def k1c1 : Code := { maxStack := 4, maxLocals := 2, code := method_2_code, exceptionTable := #[], attributes := #[] }
def k1m1 : Method := { name := "count", desc := "(J)I", sig := { parameters := [.long], returnType := some .int }, accessFlags := 10, code := some k1c1 }
def k1c2 : Code := { maxStack := 4, maxLocals := 10, code := method_3_code, exceptionTable := #[], attributes := #[] }
def k1m2 : Method := { name := "ok", desc := "([BIIIJB)Z", sig := { parameters := [(.array .byte), .int, .int, .int, .long, .byte], returnType := some .boolean }, accessFlags := 10, code := some k1c2 }
def k1c3 : Code := { maxStack := 7, maxLocals := 12, code := code, exceptionTable := #[], attributes := #[] }
def k1m3 : Method := { name := "law", desc := "(JIII)Z", sig := { parameters := [.long, .int, .int, .int], returnType := some .boolean }, accessFlags := 9, code := some k1c3 }
/-- com/example/guessd/guessd/VarintsWritePinLaw -/
def k1 : Class := { plain "com/example/guessd/guessd/VarintsWritePinLaw" (some 0) with
  accessFlags := 49
  interfaces := #[]
  cf := some (fileOf pool1 30 #[] #[{ accessFlags := 2, nameIndex := 5, descriptorIndex := 6, attributes := #[] }, { accessFlags := 10, nameIndex := 33, descriptorIndex := 34, attributes := #[] }, { accessFlags := 10, nameIndex := 43, descriptorIndex := 44, attributes := #[] }, { accessFlags := 9, nameIndex := 50, descriptorIndex := 51, attributes := #[] }] 49 2 #[] #[])
  fields := #[]
  methods := #[k1m0, k1m1, k1m2, k1m3]
  instanceTypes := #[]
  staticTypes := #[]
  resolved := Array.replicate 54 none
  statics := none }

def pool2 : Array CpInfo := pool [(2, .class_ 4), (1, u "java/lang/Object"), (0, u "<init>"), (0, u "()V"), (0, .long 128), (9, .class_ 18), (0, u "com/example/guessd/guessd/Varints"), (0, u "MAX_BYTES"), (0, u "I"), (4, u "write"), (0, u "([BIJ)I")] 6

def k2m0 : Method := { name := "<init>", desc := "()V", sig := { parameters := [], returnType := none }, accessFlags := 2, code := none }
def k2c1 : Code := { maxStack := 6, maxLocals := 7, code := prog_27_method_2_code, exceptionTable := #[], attributes := #[] }
def k2m1 : Method := { name := "write", desc := "([BIJ)I", sig := { parameters := [(.array .byte), .int, .long], returnType := some .int }, accessFlags := 8, code := some k2c1 }
/-- com/example/guessd/guessd/Varints -/
def k2 : Class := { plain "com/example/guessd/guessd/Varints" (some 0) with
  accessFlags := 48
  interfaces := #[]
  cf := some (fileOf pool2 17 #[] #[{ accessFlags := 2, nameIndex := 5, descriptorIndex := 6, attributes := #[] }, { accessFlags := 8, nameIndex := 25, descriptorIndex := 26, attributes := #[] }] 48 2 #[] #[{ accessFlags := 24, nameIndex := 19, descriptorIndex := 20, attributes := #[] }])
  fields := #[{ name := "MAX_BYTES", type := .int, accessFlags := 24, slot := 0, constantValue := 0 }]
  methods := #[k2m0, k2m1]
  instanceTypes := #[]
  staticTypes := #[.int]
  resolved := Array.replicate 33 none
  statics := none }

def pool3 : Array CpInfo := pool [(1, u "java/lang/Cloneable"), (0, .class_ 1), (0, u "java/lang/Object"), (0, .class_ 3)] 3

/-- java/lang/Cloneable -/
def k3 : Class := { plain "java/lang/Cloneable" (some 0) with
  accessFlags := 1537
  interfaces := #[]
  cf := some (fileOf pool3 2 #[] #[] 1537 4 #[] #[])
  fields := #[]
  methods := #[]
  instanceTypes := #[]
  staticTypes := #[]
  resolved := Array.replicate 8 none
  statics := none }

def pool4 : Array CpInfo := pool [(1, u "java/io/Serializable"), (0, .class_ 1), (0, u "java/lang/Object"), (0, .class_ 3)] 3

/-- java/io/Serializable -/
def k4 : Class := { plain "java/io/Serializable" (some 0) with
  accessFlags := 1537
  interfaces := #[]
  cf := some (fileOf pool4 2 #[] #[] 1537 4 #[] #[])
  fields := #[]
  methods := #[]
  instanceTypes := #[]
  staticTypes := #[]
  resolved := Array.replicate 8 none
  statics := none }

/-- the primitive byte -/
def k5 : Class := { plain "byte" none with kind := .primitive 'B', accessFlags := 0x411 }
/-- [B -/
def k6 : Class := { plain "[B" (some 0) with kind := .array 5 .byte, interfaces := #[3, 4], accessFlags := 1041 }

/-- the primitive int -/
def k7 : Class := { plain "int" none with kind := .primitive 'I', accessFlags := 0x411 }
/-- [I -/
def k8 : Class := { plain "[I" (some 0) with kind := .array 7 .int, interfaces := #[3, 4], accessFlags := 1041 }

def heap : Heap := #[]
def classes : Array Class := #[k0, k1, k2, k3, k4, k5, k6, k7, k8]
def interned : List (Array UInt16 × Addr) := []
def slotsUsed : Nat := 0
def theMethod : MethodId := ⟨1, 3⟩
def args0 : Array Value := #[.long 5, .int 5, .int 5, .int 5]
def aboutOver (below : List Frame) : State where
  vm := { classes := classes, interned := interned.toArray }
  heap := heap
  slotsUsed := slotsUsed
  threads := #[{ frames := .invoking theMethod args0 :: below }]
def below0 : List Frame := [.native { method := ⟨0, 0⟩, args := #[] }]
def about1 : State := aboutOver below0
def p0 : Program := .bare "" "" ""
def e0 : Env := launch0.env 0 0 0
theorem w_frames : about1.frames = Frame.invoking theMethod args0 :: below0 := rfl
set_option maxRecDepth 65536 in
theorem w_args : argsFit about1.vm theMethod args0 = true := by decide +kernel
set_option maxRecDepth 65536 in
theorem w_heap : heapFits about1 = true := by decide +kernel
set_option maxRecDepth 65536 in
theorem w_runnable : about1.curStatus? = some .runnable := by decide +kernel
set_option maxRecDepth 65536 in
theorem w_alone : about1.alone = true := by decide +kernel
set_option maxRecDepth 65536 in
theorem w_named : about1.methodNamed? x = some theMethod := by decide +kernel
set_option maxRecDepth 65536 in
theorem w_hears : about1.hears theMethod below0 = true := by decide +kernel
set_option maxRecDepth 65536 in
theorem w_ripe : about1.ripe theMethod args0 below0 = true := by decide +kernel
theorem w_running : about1.status = .running := rfl
set_option maxRecDepth 65536 in
theorem w_room : about1.hasRoom e0.platform room_1 = true :=
  launch0.hasRoom_least _ room_1 (by decide +kernel) (by decide +kernel) (by decide +kernel) (by decide +kernel) (by decide +kernel) (by decide +kernel)
theorem allAtoms_all (ts : List Jvm.Cond) (a : Array Jvm.Value) (st : Jvm.State) : (allAtoms ts).before a st = ts.all (fun c => c.before a st) := by
  induction ts with
  | nil => rfl
  | cons c t ih =>
    show (Jvm.Cond.and c (allAtoms t)).before a st = _
    rw [Jvm.Cond.before_and, ih, List.all_cons]
def words1 : List Jvm.Cond := Jvm.Cond.code x code maxLocals ret :: tables_1
/-- a 'code' word, met by the world's own term for the bytes: nothing is compared byte by byte -/
theorem code_word {y : MethodName} {bytes : ByteArray} {mx : Nat} {rt : Option FieldType} {a : Array Value} {s : State} {m : MethodId} {meth : Method} {c : Code} (h1 : s.methodNamed? y = some m) (h2 : s.vm.method? m = some meth) (h3 : meth.code = some c) (h4 : c.code = bytes)
    (h5 : (c.maxLocals == mx && c.exceptionTable.isEmpty && decide (c.maxStack ≤ mostOperands) && decide (meth.sig.returnType = rt) && !meth.locks && decide (parseMethodDescriptor y.desc = some meth.sig)) = true) : (Jvm.Cond.code y bytes mx rt).before a s = true := by
  simp only [Bool.and_eq_true, beq_iff_eq, Bool.not_eq_true', decide_eq_true_eq] at h5
  obtain ⟨⟨⟨⟨⟨g1, g2⟩, g3⟩, g4⟩, g5⟩, g6⟩ := h5
  simp [Cond.before, Cond.holds, Cond.value, h1, h2, h3, h4, g1, g2, g3, g4, g5, g6]
def isCode : Jvm.Cond → Bool
  | .code _ _ _ _ => true
  | _ => false
theorem all_split {L : List Jvm.Cond} {P : Jvm.Cond → Bool} (h1 : L.all (fun c => isCode c || P c) = true) (h2 : ∀ c ∈ L.filter isCode, P c = true) : L.all P = true := by
  refine List.all_eq_true.mpr fun c hc => ?_
  have h := List.all_eq_true.mp h1 c hc
  rcases Bool.eq_false_or_eq_true (isCode c) with hi | hi
  · exact h2 c (List.mem_filter.mpr ⟨hc, hi⟩)
  · simpa [hi] using h
set_option maxRecDepth 65536 in
theorem w_c0 : (Jvm.Cond.code x code maxLocals ret).before args0 about1 = true := code_word (m := ⟨1, 3⟩) (meth := k1m3) (c := k1c3) (by decide +kernel) rfl rfl rfl (by decide +kernel)
set_option maxRecDepth 65536 in
theorem w_c1 : (Jvm.Cond.code ({ cls := "com/example/guessd/guessd/VarintsWritePinLaw", name := "count", desc := "(J)I" } : Jvm.MethodName) method_2_code (2 : Nat) (Option.some Jvm.ClassFile.FieldType.int)).before args0 about1 = true := code_word (m := ⟨1, 1⟩) (meth := k1m1) (c := k1c1) (by decide +kernel) rfl rfl rfl (by decide +kernel)
set_option maxRecDepth 65536 in
theorem w_c2 : (Jvm.Cond.code ({ cls := "com/example/guessd/guessd/Varints", name := "write", desc := "([BIJ)I" } : Jvm.MethodName) prog_27_method_2_code (7 : Nat) (Option.some Jvm.ClassFile.FieldType.int)).before args0 about1 = true := code_word (m := ⟨2, 1⟩) (meth := k2m1) (c := k2c1) (by decide +kernel) rfl rfl rfl (by decide +kernel)
set_option maxRecDepth 65536 in
theorem w_c3 : (Jvm.Cond.code ({ cls := "com/example/guessd/guessd/VarintsWritePinLaw", name := "ok", desc := "([BIIIJB)Z" } : Jvm.MethodName) method_3_code (10 : Nat) (Option.some Jvm.ClassFile.FieldType.boolean)).before args0 about1 = true := code_word (m := ⟨1, 2⟩) (meth := k1m2) (c := k1c2) (by decide +kernel) rfl rfl rfl (by decide +kernel)
def codes1 : List Jvm.Cond := [Jvm.Cond.code x code maxLocals ret, Jvm.Cond.code ({ cls := "com/example/guessd/guessd/VarintsWritePinLaw", name := "count", desc := "(J)I" } : Jvm.MethodName) method_2_code (2 : Nat) (Option.some Jvm.ClassFile.FieldType.int), Jvm.Cond.code ({ cls := "com/example/guessd/guessd/Varints", name := "write", desc := "([BIJ)I" } : Jvm.MethodName) prog_27_method_2_code (7 : Nat) (Option.some Jvm.ClassFile.FieldType.int), Jvm.Cond.code ({ cls := "com/example/guessd/guessd/VarintsWritePinLaw", name := "ok", desc := "([BIIIJB)Z" } : Jvm.MethodName) method_3_code (10 : Nat) (Option.some Jvm.ClassFile.FieldType.boolean)]
set_option maxRecDepth 65536 in
theorem codes_eq : words1.filter isCode = codes1 := rfl
theorem w_codes : ∀ c ∈ words1.filter isCode, c.before args0 about1 = true := by
  rw [codes_eq]
  intro c hc
  simp only [codes1, List.mem_cons, List.not_mem_nil, or_false] at hc
  rcases hc with rfl | rfl | rfl | rfl
  · exact w_c0
  · exact w_c1
  · exact w_c2
  · exact w_c3
set_option maxRecDepth 65536 in
theorem w_t1 : words1.all (fun c => isCode c || c.before args0 about1) = true := by decide +kernel
theorem w_tables : (allAtoms (Jvm.Cond.code x code maxLocals ret :: tables_1)).before args0 about1 = true := by
  rw [allAtoms_all]
  show words1.all (fun c => c.before args0 about1) = true
  refine all_split ?_ w_codes
  rw [w_t1]
set_option maxRecDepth 65536 in
theorem w_case : (Jvm.Cond.and given_1 narrow_1).before args0 about1 = true := by decide +kernel
theorem w_applies : (headSpec (Jvm.Cond.code x code maxLocals ret :: tables_1) room_1).applies x e0.platform about1 = true :=
  (Spec.applies_iff w_frames).mpr ⟨w_running, w_runnable, w_alone, w_named, w_hears, w_ripe, w_room, w_tables⟩
theorem atStart : AtStart classFile x code maxLocals ret World_1 tables_1 room_1 Calls_1 rest_1 Pre_1 launch0 p0 e0 about1 theMethod args0 below0 :=
  ⟨lists_1, trivial, launch0.admits_env _ _ _, launch0.least_env, fairChoices_fair.cas, fairChoices_fair.clock, w_frames, w_args, w_heap, w_applies, trivial, trivial, w_case⟩
end start1
theorem witness_1 : WitnessClaimed_1 := ⟨start1.p0, start1.e0, start1.about1, start1.theMethod, start1.args0, start1.below0, start1.atStart⟩
end Jvm.Pilot.@@N@@
