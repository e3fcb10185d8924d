import JvmDerived
import JvmDerived.Pilot.@@N@@Statement
import JvmDerived.Pilot.@@N@@Code
set_option linter.unusedVariables false
set_option linter.unusedSimpArgs false
set_option maxHeartbeats 4000000
set_option maxRecDepth 8192
namespace Jvm.OwnKit
open Sem ClassFile Op Lib Jvm.Stand Jvm.Free Jvm.LawKit Jvm.RoadKit
section Own
variable {p : Program} {l : Launch} {e : Env} {R : Room} {s : State} {m : MethodId} {args : Array Value} {below : List Frame} {meth : Method} {c : Code} {T T' : State} {locs : List Loc} {cells slots : Nat}
/-- from the state T with the frame F on top the run comes to the method's end, and what Q says holds there -/
def OwnG (p : Program) (e : Env) (below : List Frame) (s : State) (Q : Option Value → Heap → List Loc → Prop) (k n : Nat) (T : State) (F : JFrame) : Prop :=
  ∃ s₂ o, Steps p.tables e below (T.setTop F) s₂ ∧ s₂.status = .running ∧ Ended s₂ below o ∧ ∃ v L, o = .returned v ∧ Q v s₂.heap L ∧ FrameEnd s o s₂ L k n
theorem OwnG.st {Q : Option Value → Heap → List Loc → Prop} {k n : Nat} {F F' : JFrame} (h : ∀ t, Steps p.tables e below (T'.setTop F') t → Steps p.tables e below (T.setTop F) t) (g : OwnG p e below s Q k n T' F') : OwnG p e below s Q k n T F := by
  obtain ⟨s2, o, h1, r⟩ := g
  exact ⟨s2, o, h _ h1, r⟩
theorem OwnG.leave (X : Stand p l e R s m args below meth c T locs cells slots) {Q : Option Value → Heap → List Loc → Prop} {k n : Nat} {F : JFrame} {v : Option Value} (hv : meth.sig.returnType = none → v = none) (hlk : meth.locks = false)
    (hs : ∀ fs, (∀ (f : JFrame) (acts : List Action), f.method = m → f.locked = none → f.entered = [] → (doReturn e (T.setTop f) acts v).1 = T.setFrames fs) → Steps p.tables e below (T.setTop F) (T.setFrames fs)) (hq : Q v T.heap locs) (hk : cells ≤ k) (hn : slots ≤ n) : OwnG p e below s Q k n T F := by
  obtain ⟨fs, hr, hrun, hended, hW, hsame⟩ := X.leave hv hlk
  exact ⟨_, _, hs fs hr, hrun, hended, _, _, rfl, hq, ⟨_, rfl⟩, hW, hsame.mono hk hn⟩
theorem OwnG.retI (X : Stand p l e R s m args below meth c T locs cells slots) (hx : p.tables.exec = Jvm.exec) {Q : Option Value → Heap → List Loc → Prop} {k n pc : Nat} {Ls : Array Slot} {z : Int32} {rest : List Value} (hret : meth.sig.returnType = some .int) (hlk : meth.locks = false) (hd : decode c.code pc = .ok (.ireturn, 1)) (hq : Q (some (.int z)) T.heap locs) (hk : cells ≤ k) (hn : slots ≤ n) : OwnG p e below s Q k n T (mkF m pc Ls (.int z :: rest)) :=
  OwnG.leave X (fun h => by rw [hret] at h; cases h) hlk (fun fs hr => retOut X hx hret rfl (Or.inl ⟨rfl, Or.inl rfl, z, rfl⟩) hd hr) hq hk hn
theorem OwnG.retJ (X : Stand p l e R s m args below meth c T locs cells slots) (hx : p.tables.exec = Jvm.exec) {Q : Option Value → Heap → List Loc → Prop} {k n pc : Nat} {Ls : Array Slot} {z : Int64} {rest : List Value} (hret : meth.sig.returnType = some .long) (hlk : meth.locks = false) (hd : decode c.code pc = .ok (.lreturn, 1)) (hq : Q (some (.long z)) T.heap locs) (hk : cells ≤ k) (hn : slots ≤ n) : OwnG p e below s Q k n T (mkF m pc Ls (.long z :: rest)) :=
  OwnG.leave X (fun h => by rw [hret] at h; cases h) hlk (fun fs hr => retOut X hx hret rfl (Or.inr (Or.inl ⟨rfl, rfl, z, rfl⟩)) hd hr) hq hk hn
theorem OwnG.retR (X : Stand p l e R s m args below meth c T locs cells slots) (hx : p.tables.exec = Jvm.exec) {Q : Option Value → Heap → List Loc → Prop} {k n pc : Nat} {Ls : Array Slot} {a : Addr} {rest : List Value} {t : FieldType} (hret : meth.sig.returnType = some t) (ht : t.isReference = true) (hnn : narrow t (.ref a) = .ref a) (hlk : meth.locks = false) (hd : decode c.code pc = .ok (.areturn, 1)) (hq : Q (some (.ref a)) T.heap locs) (hk : cells ≤ k) (hn : slots ≤ n) : OwnG p e below s Q k n T (mkF m pc Ls (.ref a :: rest)) :=
  OwnG.leave X (fun h => by rw [hret] at h; cases h) hlk (fun fs hr => retOut X hx hret hnn (Or.inr (Or.inr (Or.inr (Or.inr ⟨rfl, ht, rfl⟩)))) hd hr) hq hk hn
theorem OwnG.retN (X : Stand p l e R s m args below meth c T locs cells slots) (hx : p.tables.exec = Jvm.exec) {Q : Option Value → Heap → List Loc → Prop} {k n pc : Nat} {Ls : Array Slot} {z : Int32} {rest : List Value} {t : FieldType} (ht : t = .boolean ∨ t = .byte ∨ t = .char ∨ t = .short) (hret : meth.sig.returnType = some t) (hlk : meth.locks = false) (hd : decode c.code pc = .ok (.ireturn, 1)) (hq : Q (some (.int (nar t z))) T.heap locs) (hk : cells ≤ k) (hn : slots ≤ n) : OwnG p e below s Q k n T (mkF m pc Ls (.int z :: rest)) :=
  OwnG.leave X (fun h => by rw [hret] at h; cases h) hlk (fun fs hr => Jvm.RoadKit.retN X hx hret ht hd hr) hq hk hn
theorem OwnG.retV (X : Stand p l e R s m args below meth c T locs cells slots) (hx : p.tables.exec = Jvm.exec) {Q : Option Value → Heap → List Loc → Prop} {k n pc : Nat} {Ls : Array Slot} (hret : meth.sig.returnType = none) (hlk : meth.locks = false) (hd : decode c.code pc = .ok (.return_, 1)) (hq : Q none T.heap locs) (hk : cells ≤ k) (hn : slots ≤ n) : OwnG p e below s Q k n T (mkF m pc Ls []) :=
  OwnG.leave X (fun _ => rfl) hlk (fun fs hr => X.returnOut hx hret hd hr) hq hk hn
theorem own_bk {Q : Option Value → Heap → List Loc → Prop} {v : Option Value} {B : Free.Pt} {k n ck sn : Nat} {F : JFrame} {F' : Option Value → JFrame} (X : Stand p l e R s m args below meth c B.U B.locs B.cells B.slots)
    (hp : ∃ L, Q v B.U.heap L ∧ B.locs = locs ++ L ∧ B.cells = cells + k ∧ B.slots = slots + n) (st : ∀ t, Steps p.tables e below (B.U.setTop (F' v)) t → Steps p.tables e below (T.setTop F) t) (hc : cells + k = ck) (hs : slots + n = sn) :
    ∃ T' L v, Stand p l e R s m args below meth c T' (locs ++ L) ck sn ∧ Q v T'.heap L ∧ ∀ t, Steps p.tables e below (T'.setTop (F' v)) t → Steps p.tables e below (T.setTop F) t := by
  obtain ⟨U, L0, k0, n0⟩ := B
  obtain ⟨L, hq, e1, e2, e3⟩ := hp
  subst hc hs e1 e2 e3
  exact ⟨U, L, v, X, hq, st⟩
end Own
end Jvm.OwnKit
namespace Jvm.OwnKit
open Sem ClassFile Op Lib Jvm.Stand Jvm.Free Jvm.LawKit Jvm.RoadKit
section Arrays
variable {p : Program} {l : Launch} {e : Env} {R : Room} {s : State} {m : MethodId} {args : Array Value} {below : List Frame} {meth : Method} {c : Code} {T : State} {locs : List Loc} {cells slots : Nat} {Z : State} {a0 : Array Value} {h h' : Heap} {a b : Addr} {ty : FieldType} {n : Nat} {f f' : Nat → Value}
/-- at a lies an array of kind ty and length n whose components are f 0, f 1, .. -/
def OwnA (Z : State) (h : Heap) (a : Addr) (ty : FieldType) (n : Nat) (f : Nat → Value) : Prop := ∃ c : Cell, Arr Z h a c ty ∧ c.slots.size = n ∧ ∀ i, i < n → c.slots[i]? = some (f i)
def updv {α : Type} (g : Nat → α) (j : Nat) (v : α) : Nat → α := fun i => if i = j then v else g i
abbrev iv' (g : Nat → Int32) : Nat → Value := fun i => .int (g i)
abbrev jv' (g : Nat → Int64) : Nat → Value := fun i => .long (g i)
theorem OwnA.lt (A : OwnA Z h a ty n f) : a < h.size := by obtain ⟨c, A, -⟩ := A; exact A.lt
theorem OwnA.ext (A : OwnA Z h a ty n f) (E : Ext h h') : OwnA Z h' a ty n f := by obtain ⟨c, A, r⟩ := A; exact ⟨c, A.ext E, r⟩
theorem OwnA.other {sl : Nat} {v : Value} (A : OwnA Z h b ty n f) (W : Wr h h' a sl v) (q : b ≠ a) : OwnA Z h' b ty n f := by obtain ⟨c, A, r⟩ := A; exact ⟨c, A.other W q, r⟩
theorem OwnA.keep {ws : List Addr} (A : OwnA Z h a ty n f) (K : Keep h h' ws) (q : a ∉ ws) : OwnA Z h' a ty n f := by obtain ⟨c, A, r⟩ := A; exact ⟨c, ⟨K.2.1 a c A.1 q, A.2⟩, r⟩
theorem OwnA.congr (A : OwnA Z h a ty n f) (q : ∀ i, i < n → f i = f' i) : OwnA Z h a ty n f' := by obtain ⟨c, A, s1, s2⟩ := A; exact ⟨c, A, s1, fun i hi => (s2 i hi).trans (congrArg some (q i hi))⟩
theorem own_in {c : Cell} {j : Int32} (S : c.slots.size = n) (h0 : 0 ≤ j.toInt) (h1 : j.toInt < n) : ¬ (j < 0 ∨ c.slots.size ≤ j.toNatClampNeg) := by
  have e0 : (0 : Int32).toInt = 0 := rfl
  have e1 : j.toNatClampNeg = j.toInt.toNat := rfl
  rw [S, Int32.lt_iff_toInt_lt, e0, e1]; omega
theorem own_slots (c : Cell) (i : Nat) (v : Value) : (c.setSlot i v).slots = c.slots.setIfInBounds i v := rfl
theorem own_set {cl : Cell} {sl : Nat} {v : Value} (A : Arr Z h a cl ty) (S : cl.slots.size = n) (G : ∀ i, i < n → cl.slots[i]? = some (f i)) (W : Wr h h' a sl v) (hs : sl < n) : OwnA Z h' a ty n (updv f sl v) := by
  refine ⟨_, A.same W, by rw [sz_set]; exact S, fun i hi => ?_⟩
  rw [own_slots]
  by_cases u : sl = i
  · subst u; rw [Array.getElem?_setIfInBounds_self_of_lt (by omega)]; exact congrArg some (show v = (if sl = sl then v else f sl) by rw [if_pos rfl])
  · rw [Array.getElem?_setIfInBounds_ne u, G i hi]; exact congrArg some (show f i = (if i = sl then v else f i) by rw [if_neg (fun q => u q.symm)])
theorem own_ldB {g : Nat → Int32} (A : OwnA Z h a .byte n (iv' g)) (X : Stand p l e R s m args below meth c T locs cells slots) (hx : p.tables.exec = Jvm.exec) (hZ : Z.Warmed39 s.vm) (eT : T.heap = h) {j : Int32} (h0 : 0 ≤ j.toInt) (h1 : j.toInt < n) {gf : JFrame} (hg : gf.method = m) {rest : List Value} (hs : gf.stack = .int j :: .ref a :: rest) (hd : decode c.code gf.pc = .ok (.baload, 1)) :
    ∀ target, Steps p.tables e below (T.setTop { gf with pc := gf.pc + 1, stack := .int (g j.toInt.toNat) :: rest }) target → Steps p.tables e below (T.setTop gf) target := by
  obtain ⟨cl, A, S, G⟩ := A
  exact fun t k => X.baloadBytes hx (by rw [eT]; exact A.1) (State.isArrayOf_alike hZ.alike A.2.1) A.2.2 (own_in S h0 h1) (G j.toInt.toNat (by omega)) hg hs hd t k
theorem own_ldI {g : Nat → Int32} (A : OwnA Z h a .int n (iv' g)) (X : Stand p l e R s m args below meth c T locs cells slots) (hx : p.tables.exec = Jvm.exec) (hZ : Z.Warmed39 s.vm) (eT : T.heap = h) {j : Int32} (h0 : 0 ≤ j.toInt) (h1 : j.toInt < n) {gf : JFrame} (hg : gf.method = m) {rest : List Value} (hs : gf.stack = .int j :: .ref a :: rest) (hd : decode c.code gf.pc = .ok (.iaload, 1)) :
    ∀ target, Steps p.tables e below (T.setTop { gf with pc := gf.pc + 1, stack := .int (g j.toInt.toNat) :: rest }) target → Steps p.tables e below (T.setTop gf) target := by
  obtain ⟨cl, A, S, G⟩ := A
  exact fun t k => X.iaload hx (by rw [eT]; exact A.1) (State.isArrayOf_alike hZ.alike A.2.1) A.2.2 (own_in S h0 h1) (G j.toInt.toNat (by omega)) hg hs hd t k
theorem own_ldJ {g : Nat → Int64} (A : OwnA Z h a .long n (jv' g)) (X : Stand p l e R s m args below meth c T locs cells slots) (hx : p.tables.exec = Jvm.exec) (hZ : Z.Warmed39 s.vm) (eT : T.heap = h) {j : Int32} (h0 : 0 ≤ j.toInt) (h1 : j.toInt < n) {gf : JFrame} (hg : gf.method = m) {rest : List Value} (hs : gf.stack = .int j :: .ref a :: rest) (hd : decode c.code gf.pc = .ok (.laload, 1)) :
    ∀ target, Steps p.tables e below (T.setTop { gf with pc := gf.pc + 1, stack := .long (g j.toInt.toNat) :: rest }) target → Steps p.tables e below (T.setTop gf) target := by
  obtain ⟨cl, A, S, G⟩ := A
  exact fun t k => X.laload hx (by rw [eT]; exact A.1) (State.isArrayOf_alike hZ.alike A.2.1) A.2.2 (own_in S h0 h1) (G j.toInt.toNat (by omega)) hg hs hd t k
theorem own_len (A : OwnA Z h a ty n f) (X : Stand p l e R s m args below meth c T locs cells slots) (hx : p.tables.exec = Jvm.exec) (hZ : Z.Warmed39 s.vm) (eT : T.heap = h) {gf : JFrame} (hg : gf.method = m) {rest : List Value} (hs : gf.stack = .ref a :: rest) (hd : decode c.code gf.pc = .ok (.arraylength, 1)) :
    ∀ target, Steps p.tables e below (T.setTop { gf with pc := gf.pc + 1, stack := .int n.toInt32 :: rest }) target → Steps p.tables e below (T.setTop gf) target := by
  obtain ⟨cl, A, S, G⟩ := A
  subst S
  exact fun t k => X.arraylength hx (by rw [eT]; exact A.1) (State.isArrayOf_alike hZ.alike A.2.1) hg hs hd t k
theorem own_stB {g : Nat → Int32} (A : OwnA Z h a .byte n (iv' g)) (X : Stand p l e R s m args below meth c T locs cells slots) (hx : p.tables.exec = Jvm.exec) (hZ : Z.Warmed39 s.vm) (eT : T.heap = h) {j x : Int32} (h0 : 0 ≤ j.toInt) (h1 : j.toInt < n) {gf : JFrame} (hg : gf.method = m) {rest : List Value} (hs : gf.stack = .int x :: .int j :: .ref a :: rest) (hd : decode c.code gf.pc = .ok (.bastore, 1)) :
    ∃ T' h', Stand p l e R s m args below meth c T' (locs ++ [⟨a, j.toNatClampNeg⟩]) cells slots ∧ T'.heap = h' ∧ Wr h h' a j.toNatClampNeg (.int (nar .byte x)) ∧ OwnA Z h' a .byte n (iv' (updv g j.toInt.toNat x.toInt8.toInt32)) ∧ ∀ target, Steps p.tables e below (T'.setTop { gf with pc := gf.pc + 1, stack := rest }) target → Steps p.tables e below (T.setTop gf) target := by
  obtain ⟨cl, A, S, G⟩ := A
  obtain ⟨T', h', X', e', W, st⟩ := stB X hx hZ eT A (own_in S h0 h1) hg hs hd
  refine ⟨T', h', X', e', W, OwnA.congr (own_set A S G W (by show j.toInt.toNat < n; omega)) fun i hi => ?_, st⟩
  show (if i = j.toInt.toNat then Value.int (x.toInt8.toInt32) else .int (g i)) = .int (if i = j.toInt.toNat then x.toInt8.toInt32 else g i)
  by_cases u : i = j.toInt.toNat
  · rw [if_pos u, if_pos u]
  · rw [if_neg u, if_neg u]
theorem own_stI {g : Nat → Int32} (A : OwnA Z h a .int n (iv' g)) (X : Stand p l e R s m args below meth c T locs cells slots) (hx : p.tables.exec = Jvm.exec) (hZ : Z.Warmed39 s.vm) (eT : T.heap = h) {j x : Int32} (h0 : 0 ≤ j.toInt) (h1 : j.toInt < n) {gf : JFrame} (hg : gf.method = m) {rest : List Value} (hs : gf.stack = .int x :: .int j :: .ref a :: rest) (hd : decode c.code gf.pc = .ok (.iastore, 1)) :
    ∃ T' h', Stand p l e R s m args below meth c T' (locs ++ [⟨a, j.toNatClampNeg⟩]) cells slots ∧ T'.heap = h' ∧ Wr h h' a j.toNatClampNeg (.int x) ∧ OwnA Z h' a .int n (iv' (updv g j.toInt.toNat x)) ∧ ∀ target, Steps p.tables e below (T'.setTop { gf with pc := gf.pc + 1, stack := rest }) target → Steps p.tables e below (T.setTop gf) target := by
  obtain ⟨cl, A, S, G⟩ := A
  obtain ⟨T', h', X', e', W, st⟩ := stI X hx hZ eT A (own_in S h0 h1) hg hs hd
  refine ⟨T', h', X', e', W, OwnA.congr (own_set A S G W (by show j.toInt.toNat < n; omega)) fun i hi => ?_, st⟩
  show (if i = j.toInt.toNat then Value.int x else .int (g i)) = .int (if i = j.toInt.toNat then x else g i)
  by_cases u : i = j.toInt.toNat
  · rw [if_pos u, if_pos u]
  · rw [if_neg u, if_neg u]
theorem own_stJ {g : Nat → Int64} (A : OwnA Z h a .long n (jv' g)) (X : Stand p l e R s m args below meth c T locs cells slots) (hx : p.tables.exec = Jvm.exec) (hZ : Z.Warmed39 s.vm) (eT : T.heap = h) {j : Int32} {x : Int64} (h0 : 0 ≤ j.toInt) (h1 : j.toInt < n) {gf : JFrame} (hg : gf.method = m) {rest : List Value} (hs : gf.stack = .long x :: .int j :: .ref a :: rest) (hd : decode c.code gf.pc = .ok (.lastore, 1)) :
    ∃ T' h', Stand p l e R s m args below meth c T' (locs ++ [⟨a, j.toNatClampNeg⟩]) cells slots ∧ T'.heap = h' ∧ Wr h h' a j.toNatClampNeg (.long x) ∧ OwnA Z h' a .long n (jv' (updv g j.toInt.toNat x)) ∧ ∀ target, Steps p.tables e below (T'.setTop { gf with pc := gf.pc + 1, stack := rest }) target → Steps p.tables e below (T.setTop gf) target := by
  obtain ⟨cl, A, S, G⟩ := A
  obtain ⟨T', h', X', e', W, st⟩ := stJ X hx hZ eT A (own_in S h0 h1) hg hs hd
  refine ⟨T', h', X', e', W, OwnA.congr (own_set A S G W (by show j.toInt.toNat < n; omega)) fun i hi => ?_, st⟩
  show (if i = j.toInt.toNat then Value.long x else .long (g i)) = .long (if i = j.toInt.toNat then x else g i)
  by_cases u : i = j.toInt.toNat
  · rw [if_pos u, if_pos u]
  · rw [if_neg u, if_neg u]
theorem own_newA {k : ClassId} {z : Int32} (A : Arr Z h a (newA k ty z) ty) (hn : z.toInt = n) : OwnA Z h a ty n (fun _ => defaultValue ty) := by
  have e1 : z.toNatClampNeg = n := by show z.toInt.toNat = n; omega
  refine ⟨_, A, by rw [sz_new]; exact e1, fun i hi => ?_⟩
  show (Array.replicate z.toNatClampNeg (defaultValue ty))[i]? = _
  rw [e1, Array.getElem?_replicate, if_pos hi]
end Arrays
end Jvm.OwnKit
namespace Jvm.OwnKit
open Jvm.RoadKit
theorem own_split {w : Nat} (x m : BitVec w) : (x &&& ~~~m) + (x &&& m) = x := by
  rw [BitVec.add_eq_or_of_and_eq_zero]
  · ext i hi
    simp only [BitVec.getElem_or, BitVec.getElem_and, BitVec.getElem_not]
    cases x[i] <;> cases m[i] <;> rfl
  · ext i hi
    simp only [BitVec.getElem_and, BitVec.getElem_not, BitVec.getElem_zero]
    cases x[i] <;> cases m[i] <;> rfl
theorem own_hi (x m m' : Int32) (h : m' = ~~~m) : (x &&& m') + (x &&& m) = x := by
  subst h
  exact Int32.toBitVec_inj.mp (own_split x.toBitVec m.toBitVec)
theorem own_irem (x y : Int32) : x - (x / y) * y = x % y := by
  apply Int32.toInt_inj.mp
  have h1 := rng32 (x % y)
  have e := Int.mul_tdiv_add_tmod x.toInt y.toInt
  rw [Int32.toInt_mod] at h1 ⊢
  rw [Int32.toInt_sub, Int32.toInt_mul, Int32.toInt_div, Int.bmod_mul_bmod, Int.sub_bmod_bmod]
  rw [show x.toInt - x.toInt.tdiv y.toInt * y.toInt = x.toInt.tmod y.toInt by rw [Int.mul_comm]; omega]
  exact Int.bmod_eq_of_le_mul_two (by omega) (by omega)
end Jvm.OwnKit
namespace Jvm.OwnKit
open Jvm.RoadKit
theorem own_lushr (x : Int64) (q : Int32) (k : Nat) (hk : q.toBitVec.toNat % 64 = k) : ((x.toUInt64 >>> (q &&& 0x3f).toInt64.toUInt64).toInt64).toBitVec = x.toBitVec >>> k := by
  have h5 := (sm64 q k hk).2
  show x.toBitVec >>> ((q &&& 0x3f).toInt64.toBitVec % 64) = _
  rw [BitVec.ushiftRight_eq', BitVec.toNat_umod, (sm64 q k hk).1, BitVec.toNat_ofNat]
  congr 1
  show k % 2 ^ 64 % 64 = k
  omega
theorem own_lshl (x : Int64) (q : Int32) (k : Nat) (hk : q.toBitVec.toNat % 64 = k) : (x <<< (q &&& 0x3f).toInt64).toBitVec = x.toBitVec <<< k := by
  have h5 := (sm64 q k hk).2
  show x.toBitVec <<< ((q &&& 0x3f).toInt64.toBitVec.smod 64) = _
  rw [BitVec.shiftLeft_eq', (sm64 q k hk).1, smod64 k h5]
end Jvm.OwnKit
namespace Jvm.Pilot.@@N@@
open Jvm Jvm.ClassFile Sem Op Lib Jvm.Free Jvm.Stand Jvm.LawKit Jvm.RoadKit Bundle Jvm.Pilot.@@N@@.Jvm.D Jvm.OwnKit
/-- the t-th bit of the octets g 0, g 1, ..: the first is the highest of the first octet -/
def own_B (g : Nat → Int32) (t : Nat) : Bool := (g (t / 8)).toBitVec.getLsbD (7 - t % 8)
def own_bv (g : Nat → Int32) (t : Nat) : Nat → BitVec 64
  | 0 => 0#64
  | k + 1 => (own_bv g t k <<< 1) ||| (if own_B g (t + k) then 1#64 else 0#64)
def own_bits (g : Nat → Int32) (t k : Nat) : Int64 := Int64.ofBitVec (own_bv g t k)
theorem own_iushr (x q : Int32) (k : Nat) (hk : q.toBitVec.toNat % 32 = k) : ((x.toUInt32 >>> (q &&& 31).toUInt32).toInt32).toBitVec = x.toBitVec >>> k := by
  have h1 : (q &&& 31).toBitVec.toNat = k := by
    show (q.toBitVec &&& (31 : Int32).toBitVec).toNat = _
    rw [BitVec.toNat_and, show (31 : Int32).toBitVec.toNat = 2 ^ 5 - 1 from by decide, Nat.and_two_pow_sub_one_eq_mod]; exact hk
  show x.toBitVec >>> ((q &&& 31).toBitVec % 32) = _
  rw [BitVec.ushiftRight_eq', BitVec.toNat_umod, h1]
  congr 1
  show k % 32 = k
  omega
theorem own_oft (t : Nat) (h : t < 100000) : (Int64.ofNat t).toInt = t := Int64.toInt_ofNat_of_lt (by omega)
theorem own_idx (t : Nat) (h : t < 100000) : ((((Int64.ofNat t).toUInt64 >>> ((3 : Int32) &&& 0x3f).toInt64.toUInt64).toInt64).toInt32).toInt = ((t / 8 : Nat) : Int) := by
  have a := c_lushr (Int64.ofNat t) 3 3 (by decide) (by decide)
  rw [own_oft t h] at a
  have b := c_l2i (((Int64.ofNat t).toUInt64 >>> ((3 : Int32) &&& 0x3f).toInt64.toUInt64).toInt64)
  have r := rng32 ((((Int64.ofNat t).toUInt64 >>> ((3 : Int32) &&& 0x3f).toInt64.toUInt64).toInt64).toInt32)
  omega
theorem own_shf (t : Nat) (h : t < 100000) : (((7 : Int64) - ((Int64.ofNat t) &&& (7 : Int64))).toInt32).toInt = ((7 - t % 8 : Nat) : Int) := by
  have a := c_maskL (Int64.ofNat t) 7 3 (by decide) (by decide)
  rw [own_oft t h] at a
  have b := c_lsub 7 ((Int64.ofNat t) &&& (7 : Int64))
  have e : (7 : Int64).toInt = 7 := rfl
  have r := rng64 ((7 : Int64) - ((Int64.ofNat t) &&& (7 : Int64)))
  have d := c_l2i ((7 : Int64) - ((Int64.ofNat t) &&& (7 : Int64)))
  have r2 := rng32 (((7 : Int64) - ((Int64.ofNat t) &&& (7 : Int64))).toInt32)
  omega
theorem own_nat32 (x : Int32) (k : Nat) (h : x.toInt = k) : x.toBitVec.toNat = k := by
  have q : x.toBitVec.toInt = k := h
  rw [BitVec.toInt_eq_toNat_cond] at q
  have := x.toBitVec.isLt
  split at q <;> omega
theorem own_bt (g : Nat → Int32) (t : Nat) (h : t < 100000) (x : Int32) (hx : x = g (t / 8)) : (((((x &&& (255 : Int32)).toUInt32 >>> ((((7 : Int64) - ((Int64.ofNat t) &&& (7 : Int64))).toInt32) &&& 31).toUInt32).toInt32) &&& (1 : Int32)).toInt64).toBitVec = (if own_B g t then 1#64 else 0#64) := by
  have hs := own_nat32 _ _ (own_shf t h)
  rw [Int32.toBitVec_toInt64, Int32.toBitVec_and, own_iushr _ _ (7 - t % 8) (by rw [hs]; omega)]
  have e : ((x &&& (255 : Int32)).toBitVec >>> (7 - t % 8)) &&& (1 : Int32).toBitVec = if own_B g t then 1#32 else 0#32 := by
    apply BitVec.eq_of_getLsbD_eq
    intro i hi
    rw [BitVec.getLsbD_and, BitVec.getLsbD_ushiftRight, Int32.toBitVec_and, BitVec.getLsbD_and]
    have h1 : ((1 : Int32).toBitVec).getLsbD i = decide (i = 0) := by
      have q : ∀ j : Fin 32, ((1 : Int32).toBitVec).getLsbD j.1 = decide (j.1 = 0) := by decide
      exact q ⟨i, hi⟩
    rw [h1]
    by_cases c : i = 0
    · subst c
      have h2 : ((255 : Int32).toBitVec).getLsbD (7 - t % 8 + 0) = true := by
        have q : ∀ j : Fin 8, ((255 : Int32).toBitVec).getLsbD (j.1 + 0) = true := by decide
        exact q ⟨7 - t % 8, by omega⟩
      rw [h2]
      unfold own_B
      rw [hx]
      cases (g (t / 8)).toBitVec.getLsbD (7 - t % 8) <;> simp
    · have h3 : (if own_B g t = true then 1#32 else 0#32).getLsbD i = false := by
        cases own_B g t
        · simp
        · have q : ∀ j : Fin 32, j.1 ≠ 0 → (1#32).getLsbD j.1 = false := by decide
          exact q ⟨i, hi⟩ c
      rw [h3]; simp [c]
  rw [e]
  cases own_B g t <;> decide
theorem own_turn (g : Nat → Int32) (t k : Nat) (h : t + k < 100000) (x : Int32) (hx : x = g ((t + k) / 8)) : ((own_bits g t k) <<< ((1 : Int32) &&& 0x3f).toInt64) ||| (((((x &&& (255 : Int32)).toUInt32 >>> ((((7 : Int64) - ((Int64.ofNat (t + k)) &&& (7 : Int64))).toInt32) &&& 31).toUInt32).toInt32) &&& (1 : Int32)).toInt64) = own_bits g t (k + 1) := by
  apply Int64.toBitVec_inj.mp
  rw [Int64.toBitVec_or, own_lshl _ 1 1 (by decide), own_bt g (t + k) h x hx]
  rfl
theorem own_gb (g : Nat → Int32) (t : Nat) : ∀ (k i : Nat), k ≤ 64 → (own_bv g t k).getLsbD i = (decide (i < k) && own_B g (t + (k - 1 - i))) := by
  intro k
  induction k with
  | zero => intro i _; simp [own_bv]
  | succ k ih =>
    intro i hk
    show ((own_bv g t k <<< 1) ||| (if own_B g (t + k) then 1#64 else 0#64)).getLsbD i = _
    rw [BitVec.getLsbD_or, BitVec.getLsbD_shiftLeft]
    by_cases c : i = 0
    · subst c
      have e : (if own_B g (t + k) = true then 1#64 else 0#64).getLsbD 0 = own_B g (t + k) := by cases own_B g (t + k) <;> rfl
      rw [e]; simp
    · have e : (if own_B g (t + k) = true then 1#64 else 0#64).getLsbD i = false := by
        cases own_B g (t + k)
        · simp
        · by_cases d : i < 64
          · have q : ∀ j : Fin 64, j.1 ≠ 0 → (1#64).getLsbD j.1 = false := by decide
            exact q ⟨i, d⟩ c
          · exact BitVec.getLsbD_of_ge _ _ (by omega)
      rw [e, ih (i - 1) (by omega)]
      by_cases d : i < k + 1
      · simp [show i < 64 by omega, show ¬ i < 1 by omega, show i - 1 < k by omega, d, show k - 1 - (i - 1) = k + 1 - 1 - i by omega]
      · simp [show ¬ i - 1 < k by omega, d]
theorem d2_0 : decode prog_10_method_1_code 0 = .ok (.aload_n 0, 1) := by decide +kernel
theorem d2_1 : decode prog_10_method_1_code 1 = .ok (.invokespecial 1, 3) := by decide +kernel
theorem d2_4 : decode prog_10_method_1_code 4 = .ok (.aload_n 0, 1) := by decide +kernel
theorem d2_5 : decode prog_10_method_1_code 5 = .ok (.aload_n 1, 1) := by decide +kernel
theorem d2_6 : decode prog_10_method_1_code 6 = .ok (.putfield 7, 3) := by decide +kernel
theorem d2_9 : decode prog_10_method_1_code 9 = .ok (.return_, 1) := by decide +kernel
theorem pn_2 : plainName "com/example/ubicacion/ubicacion/lmf/AlignedPer$Reader" = true := by first | (simp [plainName, overriddenIn]; done) | decide +kernel
theorem ef_2 (m : MethodId) (a1 : Addr) (a2 : Addr) : entryFrame m #[(.ref a1), (.ref a2)] 2 = mkF m 0 #[.val (.ref a1), .val (.ref a2)] [] := by first | (simp [entryFrame, mkF, argsToLocals, Value.category]; done) | rfl
def Q2 (Z : State) (a1 a2 : Addr) (h0 : Heap) (n0 : Nat) (v : Option Value) (h : Heap) (L : List Loc) : Prop := v = none ∧ Fr n0 L ∧ Keep h0 h [a1] ∧ Exa Z h a1 "com/example/ubicacion/ubicacion/lmf/AlignedPer$Reader" ∧ Fld Z h a1 "com/example/ubicacion/ubicacion/lmf/AlignedPer$Reader" "encoding" "[B" (.ref a2) ∧ Fld Z h a1 "com/example/ubicacion/ubicacion/lmf/AlignedPer$Reader" "position" "J" (.long (0 : Int64))
set_option maxRecDepth 65536 in
set_option maxHeartbeats 40000000 in
theorem rm2 (l : Launch) (Z : State) (a0 : Array Value) (hw : ∀ d ∈ tables_1, d.before a0 Z = true) (ws : List Jvm.Cond) (a1 : Addr) (a2 : Addr)  (h0 : Heap) (n0 : Nat) (Z0 : n0 ≤ h0.size) (gb_a1 : n0 ≤ a1) (E_a1 : Exa Z h0 a1 "com/example/ubicacion/ubicacion/lmf/AlignedPer$Reader") (Fe : Fld Z h0 a1 "com/example/ubicacion/ubicacion/lmf/AlignedPer$Reader" "encoding" "[B" .null) (Fp : Fld Z h0 a1 "com/example/ubicacion/ubicacion/lmf/AlignedPer$Reader" "position" "J" (.long (0 : Int64))) :
    MetFree l (⟨"com/example/ubicacion/ubicacion/lmf/AlignedPer$Reader", "<init>", "([B)V"⟩ : MethodName) (head1 (Jvm.Cond.code (⟨"com/example/ubicacion/ubicacion/lmf/AlignedPer$Reader", "<init>", "([B)V"⟩ : MethodName) prog_10_method_1_code 2 none :: ws) ({ frames := 1, cells := 0, slots := 0, locals := 12 } : Room)) (fun a U => a = #[(.ref a1), (.ref a2)] ∧ Z.Warmed39 U.vm ∧ U.heap = h0) (fun _ _ _ _ _ => True) (fun _ U o U' => ∃ v L, o = .returned v ∧ Q2 Z a1 a2 h0 n0 v U'.heap L ∧ FrameEnd U o U' L ({ frames := 1, cells := 0, slots := 0, locals := 12 } : Room).cells ({ frames := 1, cells := 0, slots := 0, locals := 12 } : Room).slots) := by
  refine MetFree.of_bodySF (plainFor_of_name pn_2) hisR ?_
  intro p e s m args below meth c s₁ Bd hml0 hP hK
  obtain ⟨rfl, hZ, hh⟩ := hP
  have hx := Bd.exec
  have hby := Bd.bytes
  have hml : c.maxLocals = 2 := hml0
  have hown : s.vm.findClass "com/example/ubicacion/ubicacion/lmf/AlignedPer$Reader" = some m.cls := findClass_of_methodNamed Bd.named
  have hnm := (name_of_methodNamed Bd.named Bd.method).1
  have X0 : Stand p l e ({ frames := 1, cells := 0, slots := 0, locals := 12 } : Room) s m #[(.ref a1), (.ref a2)] below meth c s₁ [] 0 0 := Stand.of_body Bd
  have e0 : s₁.heap = h0 := by rw [← hh, Bd.state]; rfl
  have N0 := Fr.nil n0
  suffices hG : OwnG p e below s (Q2 Z a1 a2 h0 n0) ({ frames := 1, cells := 0, slots := 0, locals := 12 } : Room).cells ({ frames := 1, cells := 0, slots := 0, locals := 12 } : Room).slots s₁ (mkF m 0 #[.val (.ref a1), .val (.ref a2)] []) by
    obtain ⟨s2, o2, g1, g2⟩ := hG
    exact ⟨s2, o2, castTop (ef_2 m a1 a2) g1, g2⟩
  have sg1 : ∀ tgt, Steps p.tables e below (s₁.setTop (mkF m 1 #[.val (.ref a1), .val (.ref a2)] [(.ref a1)])) tgt → Steps p.tables e below (s₁.setTop (mkF m 0 #[.val (.ref a1), .val (.ref a2)] [])) tgt := by
    intro tgt kt
    refine XS.aloadN X0.here hx rfl (hb hby d2_0) rfl rfl ?_
    show Steps p.tables e below (s₁.setTop (mkF m 1 #[.val (.ref a1), .val (.ref a2)] [(.ref a1)])) _
    exact kt
  refine OwnG.st sg1 ?_
  obtain ⟨T2, X2, e2, st2⟩ := initO X0 hx hZ hown (hw _ (List.mem_of_getElem? (i := 11) rfl)) (hw _ (List.mem_of_getElem? (i := 12) rfl)) (hw _ (List.mem_of_getElem? (i := 13) rfl)) e0 (g := (mkF m 1 #[.val (.ref a1), .val (.ref a2)] [(.ref a1)])) rfl (by rw [hml]; rfl) rfl (hb hby d2_1) (by decide) (W := 0) (by show 2 * 0 + _ ≤ _; exact Nat.le_of_eq rfl) (by decide)
  refine OwnG.st st2 ?_
  show OwnG p e below s _ _ _ T2 (mkF m 4 #[.val (.ref a1), .val (.ref a2)] [])
  have sg3 : ∀ tgt, Steps p.tables e below (T2.setTop (mkF m 6 #[.val (.ref a1), .val (.ref a2)] [(.ref a2), (.ref a1)])) tgt → Steps p.tables e below (T2.setTop (mkF m 4 #[.val (.ref a1), .val (.ref a2)] [])) tgt := by
    intro tgt kt
    refine XS.aloadN X2.here hx rfl (hb hby d2_4) rfl rfl ?_
    show Steps p.tables e below (T2.setTop (mkF m 5 #[.val (.ref a1), .val (.ref a2)] [(.ref a1)])) _
    refine XS.aloadN X2.here hx rfl (hb hby d2_5) rfl rfl ?_
    show Steps p.tables e below (T2.setTop (mkF m 6 #[.val (.ref a1), .val (.ref a2)] [(.ref a2), (.ref a1)])) _
    exact kt
  refine OwnG.st sg3 ?_
  obtain ⟨T4, h4, X4, e4, W4, st4⟩ := putF X2 hx hZ hown (host := "") (Or.inl (hw _ (List.mem_of_getElem? (i := 14) rfl))) Via.refl e2 Fe E_a1 (Or.inr ⟨(hw _ (List.mem_of_getElem? (i := 15) rfl)), rfl, hnm⟩) (hw _ (List.mem_of_getElem? (i := 6) rfl)) (ty := (.array .byte)) (by decide) rfl rfl (g := (mkF m 6 #[.val (.ref a1), .val (.ref a2)] [(.ref a2), (.ref a1)])) rfl rfl (hb hby d2_6)
  have fE_a1_5 := (Exa.wr W4 E_a1)
  have fF_a1_position_6 := (Fld.other W4 Fp (Or.inr (slot_ne (Or.inl (hw _ (List.mem_of_getElem? (i := 22) rfl))) (Or.inr (hw _ (List.mem_of_getElem? (i := 15) rfl))) (by decide) (t := .long) (t' := (.array .byte)) (by decide) (by decide))))
  have Fw4 : Fld Z h4 a1 "com/example/ubicacion/ubicacion/lmf/AlignedPer$Reader" "encoding" "[B" (.ref a2) := Fld.same W4 Fe
  have N4 := Fr.snoc X4 N0 gb_a1
  have Z4 : n0 ≤ h4.size := by rw [W4.size]; exact Z0
  have K4 : Keep h0 h4 [a1] := (Keep.refl h0 [a1]).wr W4 (Or.inl (by simp))
  refine OwnG.st st4 ?_
  show OwnG p e below s _ _ _ T4 (mkF m 9 #[.val (.ref a1), .val (.ref a2)] [])
  exact OwnG.retV X4 hx Bd.returns (BodyLoose.notSynchronized Bd) (hb hby d2_9) (by rw [e4]; exact ⟨rfl, N4, K4, fE_a1_5, Fw4, fF_a1_position_6⟩) (by decide) (by decide)
theorem own_i1 (i : Int32) (h0 : 0 ≤ i.toInt) (h1 : i.toInt < 100000) : (i + 1).toInt = i.toInt + 1 ∧ (i + 1).toInt.toNat = i.toInt.toNat + 1 := by
  have h := c_iadd i 1
  have r := rng32 (i + 1)
  have e : (1 : Int32).toInt = 1 := rfl
  omega
theorem own_o1 (t i : Nat) : Int64.ofNat (t + (i + 1)) = Int64.ofNat (t + i) + 1 := by
  rw [← Nat.add_assoc, Int64.ofNat_add]; rfl
theorem own_ix3 (t : Nat) (h : t < 100000) : ((((Int64.ofNat t).toUInt64 >>> ((3 : Int32) &&& 0x3f).toInt64.toUInt64).toInt64).toInt32).toInt.toNat = t / 8 := by
  have a := own_idx t h
  omega
theorem own_fit (t n : Nat) (k : Int32) (h0 : 0 ≤ k.toInt) (h1 : t + k.toInt.toNat ≤ 8 * n) (h2 : n ≤ 1000) : ¬ (((8 : Int64) * (n.toInt32.toInt64)) < ((Int64.ofNat t) + (k.toInt64))) := by
  have a1 : n.toInt32.toInt = n := Int32.toInt_ofNat_of_lt (by omega)
  have a2 := c_i2l n.toInt32
  have a3 := c_lmul 8 n.toInt32.toInt64
  have e : (8 : Int64).toInt = 8 := rfl
  rw [e] at a3
  have r3 := rng64 ((8 : Int64) * (n.toInt32.toInt64))
  have a4 := own_oft t (by omega)
  have a5 := c_i2l k
  have a6 := c_ladd (Int64.ofNat t) k.toInt64
  have r6 := rng64 ((Int64.ofNat t) + (k.toInt64))
  rw [Int64.lt_iff_toInt_lt]
  omega
theorem d4_0 : decode prog_10_method_3_code 0 = .ok (.aload_n 0, 1) := by decide +kernel
theorem d4_1 : decode prog_10_method_3_code 1 = .ok (.getfield 17, 3) := by decide +kernel
theorem d4_4 : decode prog_10_method_3_code 4 = .ok (.iload_n 1, 1) := by decide +kernel
theorem d4_5 : decode prog_10_method_3_code 5 = .ok (.i2l, 1) := by decide +kernel
theorem d4_6 : decode prog_10_method_3_code 6 = .ok (.ladd, 1) := by decide +kernel
theorem d4_7 : decode prog_10_method_3_code 7 = .ok (.ldc2_w 21, 3) := by decide +kernel
theorem d4_10 : decode prog_10_method_3_code 10 = .ok (.aload_n 0, 1) := by decide +kernel
theorem d4_11 : decode prog_10_method_3_code 11 = .ok (.getfield 7, 3) := by decide +kernel
theorem d4_14 : decode prog_10_method_3_code 14 = .ok (.arraylength, 1) := by decide +kernel
theorem d4_15 : decode prog_10_method_3_code 15 = .ok (.i2l, 1) := by decide +kernel
theorem d4_16 : decode prog_10_method_3_code 16 = .ok (.lmul, 1) := by decide +kernel
theorem d4_17 : decode prog_10_method_3_code 17 = .ok (.lcmp, 1) := by decide +kernel
theorem d4_18 : decode prog_10_method_3_code 18 = .ok (.ifCond .le 38, 3) := by decide +kernel
theorem d4_56 : decode prog_10_method_3_code 56 = .ok (.lconst 0, 1) := by decide +kernel
theorem d4_57 : decode prog_10_method_3_code 57 = .ok (.lstore_n 2, 1) := by decide +kernel
theorem d4_58 : decode prog_10_method_3_code 58 = .ok (.iconst 0, 1) := by decide +kernel
theorem d4_59 : decode prog_10_method_3_code 59 = .ok (.istore 4, 2) := by decide +kernel
theorem d4_61 : decode prog_10_method_3_code 61 = .ok (.iload 4, 2) := by decide +kernel
theorem d4_63 : decode prog_10_method_3_code 63 = .ok (.iload_n 1, 1) := by decide +kernel
theorem d4_64 : decode prog_10_method_3_code 64 = .ok (.if_icmp .ge 61, 3) := by decide +kernel
theorem d4_67 : decode prog_10_method_3_code 67 = .ok (.aload_n 0, 1) := by decide +kernel
theorem d4_68 : decode prog_10_method_3_code 68 = .ok (.getfield 7, 3) := by decide +kernel
theorem d4_71 : decode prog_10_method_3_code 71 = .ok (.aload_n 0, 1) := by decide +kernel
theorem d4_72 : decode prog_10_method_3_code 72 = .ok (.getfield 17, 3) := by decide +kernel
theorem d4_75 : decode prog_10_method_3_code 75 = .ok (.iconst 3, 1) := by decide +kernel
theorem d4_76 : decode prog_10_method_3_code 76 = .ok (.lushr, 1) := by decide +kernel
theorem d4_77 : decode prog_10_method_3_code 77 = .ok (.l2i, 1) := by decide +kernel
theorem d4_78 : decode prog_10_method_3_code 78 = .ok (.baload, 1) := by decide +kernel
theorem d4_79 : decode prog_10_method_3_code 79 = .ok (.sipush 255, 3) := by decide +kernel
theorem d4_82 : decode prog_10_method_3_code 82 = .ok (.iand, 1) := by decide +kernel
theorem d4_83 : decode prog_10_method_3_code 83 = .ok (.istore 5, 2) := by decide +kernel
theorem d4_85 : decode prog_10_method_3_code 85 = .ok (.lload_n 2, 1) := by decide +kernel
theorem d4_86 : decode prog_10_method_3_code 86 = .ok (.iconst 1, 1) := by decide +kernel
theorem d4_87 : decode prog_10_method_3_code 87 = .ok (.lshl, 1) := by decide +kernel
theorem d4_88 : decode prog_10_method_3_code 88 = .ok (.iload 5, 2) := by decide +kernel
theorem d4_90 : decode prog_10_method_3_code 90 = .ok (.ldc2_w 32, 3) := by decide +kernel
theorem d4_93 : decode prog_10_method_3_code 93 = .ok (.aload_n 0, 1) := by decide +kernel
theorem d4_94 : decode prog_10_method_3_code 94 = .ok (.getfield 17, 3) := by decide +kernel
theorem d4_97 : decode prog_10_method_3_code 97 = .ok (.ldc2_w 32, 3) := by decide +kernel
theorem d4_100 : decode prog_10_method_3_code 100 = .ok (.land, 1) := by decide +kernel
theorem d4_101 : decode prog_10_method_3_code 101 = .ok (.lsub, 1) := by decide +kernel
theorem d4_102 : decode prog_10_method_3_code 102 = .ok (.l2i, 1) := by decide +kernel
theorem d4_103 : decode prog_10_method_3_code 103 = .ok (.iushr, 1) := by decide +kernel
theorem d4_104 : decode prog_10_method_3_code 104 = .ok (.iconst 1, 1) := by decide +kernel
theorem d4_105 : decode prog_10_method_3_code 105 = .ok (.iand, 1) := by decide +kernel
theorem d4_106 : decode prog_10_method_3_code 106 = .ok (.i2l, 1) := by decide +kernel
theorem d4_107 : decode prog_10_method_3_code 107 = .ok (.lor, 1) := by decide +kernel
theorem d4_108 : decode prog_10_method_3_code 108 = .ok (.lstore_n 2, 1) := by decide +kernel
theorem d4_109 : decode prog_10_method_3_code 109 = .ok (.aload_n 0, 1) := by decide +kernel
theorem d4_110 : decode prog_10_method_3_code 110 = .ok (.dup, 1) := by decide +kernel
theorem d4_111 : decode prog_10_method_3_code 111 = .ok (.getfield 17, 3) := by decide +kernel
theorem d4_114 : decode prog_10_method_3_code 114 = .ok (.lconst 1, 1) := by decide +kernel
theorem d4_115 : decode prog_10_method_3_code 115 = .ok (.ladd, 1) := by decide +kernel
theorem d4_116 : decode prog_10_method_3_code 116 = .ok (.putfield 17, 3) := by decide +kernel
theorem d4_119 : decode prog_10_method_3_code 119 = .ok (.iinc 4 1, 3) := by decide +kernel
theorem d4_122 : decode prog_10_method_3_code 122 = .ok (.goto (-61), 3) := by decide +kernel
theorem d4_125 : decode prog_10_method_3_code 125 = .ok (.lload_n 2, 1) := by decide +kernel
theorem d4_126 : decode prog_10_method_3_code 126 = .ok (.lreturn, 1) := by decide +kernel
theorem pn_4 : plainName "com/example/ubicacion/ubicacion/lmf/AlignedPer$Reader" = true := by first | (simp [plainName, overriddenIn]; done) | decide +kernel
theorem ef_4 (m : MethodId) (a1 : Addr) (p2 : Int32) : entryFrame m #[(.ref a1), (.int p2)] 6 = mkF m 0 #[.val (.ref a1), .val (.int p2), .unset, .unset, .unset, .unset] [] := by first | (simp [entryFrame, mkF, argsToLocals, Value.category]; done) | rfl
def Q4 (Z : State) (a1 : Addr) (p2 : Int32) (b : Addr) (t n : Nat) (g : Nat → Int32) (h0 : Heap) (n0 : Nat) (v : Option Value) (h : Heap) (L : List Loc) : Prop := v = some (.long (own_bits g t p2.toInt.toNat)) ∧ Fr n0 L ∧ Keep h0 h [a1] ∧ Exa Z h a1 "com/example/ubicacion/ubicacion/lmf/AlignedPer$Reader" ∧ Fld Z h a1 "com/example/ubicacion/ubicacion/lmf/AlignedPer$Reader" "encoding" "[B" (.ref b) ∧ Fld Z h a1 "com/example/ubicacion/ubicacion/lmf/AlignedPer$Reader" "position" "J" (.long (Int64.ofNat (t + p2.toInt.toNat)))
set_option maxRecDepth 65536 in
set_option maxHeartbeats 40000000 in
theorem rm4 (l : Launch) (Z : State) (a0 : Array Value) (hw : ∀ d ∈ tables_1, d.before a0 Z = true) (ws : List Jvm.Cond) (a1 : Addr) (p2 : Int32) (b : Addr) (t n : Nat) (g : Nat → Int32) (h0 : Heap) (n0 : Nat) (Z0 : n0 ≤ h0.size) (gb_a1 : n0 ≤ a1) (E_a1 : Exa Z h0 a1 "com/example/ubicacion/ubicacion/lmf/AlignedPer$Reader") (Fe : Fld Z h0 a1 "com/example/ubicacion/ubicacion/lmf/AlignedPer$Reader" "encoding" "[B" (.ref b)) (Fp : Fld Z h0 a1 "com/example/ubicacion/ubicacion/lmf/AlignedPer$Reader" "position" "J" (.long (Int64.ofNat t))) (A_b : OwnA Z h0 b .byte n (iv' g)) (ne_b : b ≠ a1) (hs0 : 0 ≤ p2.toInt) (hs1 : t + p2.toInt.toNat ≤ 8 * n) (hs2 : n ≤ 1000) :
    MetFree l (⟨"com/example/ubicacion/ubicacion/lmf/AlignedPer$Reader", "bits", "(I)J"⟩ : MethodName) (head1 (Jvm.Cond.code (⟨"com/example/ubicacion/ubicacion/lmf/AlignedPer$Reader", "bits", "(I)J"⟩ : MethodName) prog_10_method_3_code 6 (some .long) :: ws) ({ frames := 0, cells := 0, slots := 0, locals := 0 } : Room)) (fun a U => a = #[(.ref a1), (.int p2)] ∧ Z.Warmed39 U.vm ∧ U.heap = h0) (fun _ _ _ _ _ => True) (fun _ U o U' => ∃ v L, o = .returned v ∧ Q4 Z a1 p2 b t n g h0 n0 v U'.heap L ∧ FrameEnd U o U' L ({ frames := 0, cells := 0, slots := 0, locals := 0 } : Room).cells ({ frames := 0, cells := 0, slots := 0, locals := 0 } : Room).slots) := by
  refine MetFree.of_bodySF (plainFor_of_name pn_4) hisR ?_
  intro p e s m args below meth c s₁ Bd hml0 hP hK
  obtain ⟨rfl, hZ, hh⟩ := hP
  have hx := Bd.exec
  have hby := Bd.bytes
  have hml : c.maxLocals = 6 := hml0
  have hown : s.vm.findClass "com/example/ubicacion/ubicacion/lmf/AlignedPer$Reader" = some m.cls := findClass_of_methodNamed Bd.named
  have hnm := (name_of_methodNamed Bd.named Bd.method).1
  have X0 : Stand p l e ({ frames := 0, cells := 0, slots := 0, locals := 0 } : Room) s m #[(.ref a1), (.int p2)] below meth c s₁ [] 0 0 := Stand.of_body Bd
  have e0 : s₁.heap = h0 := by rw [← hh, Bd.state]; rfl
  have N0 := Fr.nil n0
  suffices hG : OwnG p e below s (Q4 Z a1 p2 b t n g h0 n0) ({ frames := 0, cells := 0, slots := 0, locals := 0 } : Room).cells ({ frames := 0, cells := 0, slots := 0, locals := 0 } : Room).slots s₁ (mkF m 0 #[.val (.ref a1), .val (.int p2), .unset, .unset, .unset, .unset] []) by
    obtain ⟨s2, o2, g1, g2⟩ := hG
    exact ⟨s2, o2, castTop (ef_4 m a1 p2) g1, g2⟩
  have sg1 : ∀ tgt, Steps p.tables e below (s₁.setTop (mkF m 1 #[.val (.ref a1), .val (.int p2), .unset, .unset, .unset, .unset] [(.ref a1)])) tgt → Steps p.tables e below (s₁.setTop (mkF m 0 #[.val (.ref a1), .val (.int p2), .unset, .unset, .unset, .unset] [])) tgt := by
    intro tgt kt
    refine XS.aloadN X0.here hx rfl (hb hby d4_0) rfl rfl ?_
    show Steps p.tables e below (s₁.setTop (mkF m 1 #[.val (.ref a1), .val (.int p2), .unset, .unset, .unset, .unset] [(.ref a1)])) _
    exact kt
  refine OwnG.st sg1 ?_
  obtain ⟨T2, X2, e2, st2⟩ := getF X0 hx hZ hown (host := "") (Or.inl (hw _ (List.mem_of_getElem? (i := 21) rfl))) Via.refl e0 Fp (g := (mkF m 1 #[.val (.ref a1), .val (.int p2), .unset, .unset, .unset, .unset] [(.ref a1)])) rfl rfl (hb hby d4_1)
  refine OwnG.st st2 ?_
  show OwnG p e below s _ _ _ T2 (mkF m 4 #[.val (.ref a1), .val (.int p2), .unset, .unset, .unset, .unset] [(.long (Int64.ofNat t))])
  have sg3 : ∀ tgt, Steps p.tables e below (T2.setTop (mkF m 11 #[.val (.ref a1), .val (.int p2), .unset, .unset, .unset, .unset] [(.ref a1), (.long (8 : Int64)), (.long ((Int64.ofNat t) + (p2.toInt64)))])) tgt → Steps p.tables e below (T2.setTop (mkF m 4 #[.val (.ref a1), .val (.int p2), .unset, .unset, .unset, .unset] [(.long (Int64.ofNat t))])) tgt := by
    intro tgt kt
    refine XS.iloadN X2.here hx rfl (hb hby d4_4) rfl ?_
    show Steps p.tables e below (T2.setTop (mkF m 5 #[.val (.ref a1), .val (.int p2), .unset, .unset, .unset, .unset] [(.int p2), (.long (Int64.ofNat t))])) _
    refine XS.i2l X2.here hx rfl (hb hby d4_5) rfl ?_
    show Steps p.tables e below (T2.setTop (mkF m 6 #[.val (.ref a1), .val (.int p2), .unset, .unset, .unset, .unset] [(.long (p2.toInt64)), (.long (Int64.ofNat t))])) _
    refine XS.ladd X2.here hx rfl (hb hby d4_6) rfl ?_
    show Steps p.tables e below (T2.setTop (mkF m 7 #[.val (.ref a1), .val (.int p2), .unset, .unset, .unset, .unset] [(.long ((Int64.ofNat t) + (p2.toInt64)))])) _
    refine X2.ldc2Long hx hown (mvT hZ (hw _ (List.mem_of_getElem? (i := 23) rfl))) (g := (mkF m 7 #[.val (.ref a1), .val (.int p2), .unset, .unset, .unset, .unset] [(.long ((Int64.ofNat t) + (p2.toInt64)))])) rfl (hb hby d4_7) _ ?_
    show Steps p.tables e below (T2.setTop (mkF m 10 #[.val (.ref a1), .val (.int p2), .unset, .unset, .unset, .unset] [(.long (8 : Int64)), (.long ((Int64.ofNat t) + (p2.toInt64)))])) _
    refine XS.aloadN X2.here hx rfl (hb hby d4_10) rfl rfl ?_
    show Steps p.tables e below (T2.setTop (mkF m 11 #[.val (.ref a1), .val (.int p2), .unset, .unset, .unset, .unset] [(.ref a1), (.long (8 : Int64)), (.long ((Int64.ofNat t) + (p2.toInt64)))])) _
    exact kt
  refine OwnG.st sg3 ?_
  obtain ⟨T4, X4, e4, st4⟩ := getF X2 hx hZ hown (host := "") (Or.inl (hw _ (List.mem_of_getElem? (i := 14) rfl))) Via.refl e2 Fe (g := (mkF m 11 #[.val (.ref a1), .val (.int p2), .unset, .unset, .unset, .unset] [(.ref a1), (.long (8 : Int64)), (.long ((Int64.ofNat t) + (p2.toInt64)))])) rfl rfl (hb hby d4_11)
  refine OwnG.st st4 ?_
  show OwnG p e below s _ _ _ T4 (mkF m 14 #[.val (.ref a1), .val (.int p2), .unset, .unset, .unset, .unset] [(.ref b), (.long (8 : Int64)), (.long ((Int64.ofNat t) + (p2.toInt64)))])
  have hc18_5 : ¬ (((8 : Int64) * ((n.toInt32).toInt64)) < ((Int64.ofNat t) + (p2.toInt64))) := own_fit t n p2 hs0 hs1 hs2
  have sg6 : ∀ tgt, Steps p.tables e below (T4.setTop (mkF m 61 #[.val (.ref a1), .val (.int p2), .val (.long (0 : Int64)), .second, .val (.int (0 : Int32)), .unset] [])) tgt → Steps p.tables e below (T4.setTop (mkF m 14 #[.val (.ref a1), .val (.int p2), .unset, .unset, .unset, .unset] [(.ref b), (.long (8 : Int64)), (.long ((Int64.ofNat t) + (p2.toInt64)))])) tgt := by
    intro tgt kt
    refine own_len A_b X4 hx hZ e4 (gf := (mkF m 14 #[.val (.ref a1), .val (.int p2), .unset, .unset, .unset, .unset] [(.ref b), (.long (8 : Int64)), (.long ((Int64.ofNat t) + (p2.toInt64)))])) rfl rfl (hb hby d4_14) _ ?_
    show Steps p.tables e below (T4.setTop (mkF m 15 #[.val (.ref a1), .val (.int p2), .unset, .unset, .unset, .unset] [(.int (n.toInt32)), (.long (8 : Int64)), (.long ((Int64.ofNat t) + (p2.toInt64)))])) _
    refine XS.i2l X4.here hx rfl (hb hby d4_15) rfl ?_
    show Steps p.tables e below (T4.setTop (mkF m 16 #[.val (.ref a1), .val (.int p2), .unset, .unset, .unset, .unset] [(.long ((n.toInt32).toInt64)), (.long (8 : Int64)), (.long ((Int64.ofNat t) + (p2.toInt64)))])) _
    refine XS.lmul X4.here hx rfl (hb hby d4_16) rfl ?_
    show Steps p.tables e below (T4.setTop (mkF m 17 #[.val (.ref a1), .val (.int p2), .unset, .unset, .unset, .unset] [(.long ((8 : Int64) * ((n.toInt32).toInt64))), (.long ((Int64.ofNat t) + (p2.toInt64)))])) _
    refine XS.lcmp X4.here hx rfl (hb hby d4_17) rfl ?_
    show Steps p.tables e below (T4.setTop (mkF m 18 #[.val (.ref a1), .val (.int p2), .unset, .unset, .unset, .unset] [(.int (lcmpW ((Int64.ofNat t) + (p2.toInt64)) ((8 : Int64) * ((n.toInt32).toInt64))))])) _
    refine XS.ifYes X4.here hx rfl (pc0 := 18) (pc' := 56) rfl (hb hby d4_18) rfl ((if0 _ _).trans (flt (mt (lw_gt ((Int64.ofNat t) + (p2.toInt64)) ((8 : Int64) * ((n.toInt32).toInt64))).mp hc18_5)).2.2.2) (by decide) (by decide) ?_
    show Steps p.tables e below (T4.setTop (mkF m 56 #[.val (.ref a1), .val (.int p2), .unset, .unset, .unset, .unset] [])) _
    refine XS.lconst X4.here hx rfl (hb hby d4_56) ?_
    show Steps p.tables e below (T4.setTop (mkF m 57 #[.val (.ref a1), .val (.int p2), .unset, .unset, .unset, .unset] [(.long (0 : Int64))])) _
    refine XS.lstoreN X4.here hx rfl (hb hby d4_57) rfl (l' := #[.val (.ref a1), .val (.int p2), .val (.long (0 : Int64)), .second, .unset, .unset]) rfl ?_
    show Steps p.tables e below (T4.setTop (mkF m 58 #[.val (.ref a1), .val (.int p2), .val (.long (0 : Int64)), .second, .unset, .unset] [])) _
    refine XS.iconst X4.here hx rfl (hb hby d4_58) ?_
    show Steps p.tables e below (T4.setTop (mkF m 59 #[.val (.ref a1), .val (.int p2), .val (.long (0 : Int64)), .second, .unset, .unset] [(.int (0 : Int32))])) _
    refine XS.istore X4.here hx rfl (hb hby d4_59) rfl (l' := #[.val (.ref a1), .val (.int p2), .val (.long (0 : Int64)), .second, .val (.int (0 : Int32)), .unset]) rfl ?_
    show Steps p.tables e below (T4.setTop (mkF m 61 #[.val (.ref a1), .val (.int p2), .val (.long (0 : Int64)), .second, .val (.int (0 : Int32)), .unset] [])) _
    exact kt
  refine OwnG.st sg6 ?_
  have lp7 : ∀ (k : Nat) (T : State) (lc : List Loc) (hh : Heap) (v2 : Int64) (i4 : Int32) (s5 : Slot) (X : Stand p l e ({ frames := 0, cells := 0, slots := 0, locals := 0 } : Room) s m #[(.ref a1), (.int p2)] below meth c T lc 0 0) (eT : T.heap = hh) (N : Fr n0 lc) (Hx : Exa Z hh a1 "com/example/ubicacion/ubicacion/lmf/AlignedPer$Reader") (Hf : Fld Z hh a1 "com/example/ubicacion/ubicacion/lmf/AlignedPer$Reader" "encoding" "[B" (.ref b)) (Hp : Fld Z hh a1 "com/example/ubicacion/ubicacion/lmf/AlignedPer$Reader" "position" "J" (.long (Int64.ofNat (t + i4.toInt.toNat)))) (Ha : OwnA Z hh b .byte n (iv' g)) (Hk : Keep h0 hh [a1]) (Hz : n0 ≤ hh.size) (hI : v2 = own_bits g t i4.toInt.toNat) (hi0 : 0 ≤ i4.toInt) (hi1 : i4.toInt ≤ p2.toInt) (hs5 : One s5), (p2.toInt - i4.toInt).toNat = k → OwnG p e below s (Q4 Z a1 p2 b t n g h0 n0) ({ frames := 0, cells := 0, slots := 0, locals := 0 } : Room).cells ({ frames := 0, cells := 0, slots := 0, locals := 0 } : Room).slots T (mkF m 61 #[.val (.ref a1), .val (.int p2), .val (.long v2), .second, .val (.int i4), s5] []) := by
    intro k
    induction k using Nat.strongRecOn with
    | _ k ih =>
      intro T lc hh v2 i4 s5 X eT N Hx Hf Hp Ha Hk Hz hI hi0 hi1 hs5 hk
      have sg8 : ∀ tgt, Steps p.tables e below (T.setTop (mkF m 64 #[.val (.ref a1), .val (.int p2), .val (.long v2), .second, .val (.int i4), s5] [(.int p2), (.int i4)])) tgt → Steps p.tables e below (T.setTop (mkF m 61 #[.val (.ref a1), .val (.int p2), .val (.long v2), .second, .val (.int i4), s5] [])) tgt := by
        intro tgt kt
        refine XS.iload X.here hx rfl (hb hby d4_61) rfl ?_
        show Steps p.tables e below (T.setTop (mkF m 63 #[.val (.ref a1), .val (.int p2), .val (.long v2), .second, .val (.int i4), s5] [(.int i4)])) _
        refine XS.iloadN X.here hx rfl (hb hby d4_63) rfl ?_
        show Steps p.tables e below (T.setTop (mkF m 64 #[.val (.ref a1), .val (.int p2), .val (.long v2), .second, .val (.int i4), s5] [(.int p2), (.int i4)])) _
        exact kt
      refine OwnG.st sg8 ?_
      by_cases hc64_9 : i4 < p2
      · have sg10 : ∀ tgt, Steps p.tables e below (T.setTop (mkF m 68 #[.val (.ref a1), .val (.int p2), .val (.long v2), .second, .val (.int i4), s5] [(.ref a1)])) tgt → Steps p.tables e below (T.setTop (mkF m 64 #[.val (.ref a1), .val (.int p2), .val (.long v2), .second, .val (.int i4), s5] [(.int p2), (.int i4)])) tgt := by
          intro tgt kt
          refine XS.icmpNo X.here hx rfl (hb hby d4_64) rfl (tlt hc64_9).2.1 ?_
          show Steps p.tables e below (T.setTop (mkF m 67 #[.val (.ref a1), .val (.int p2), .val (.long v2), .second, .val (.int i4), s5] [])) _
          refine XS.aloadN X.here hx rfl (hb hby d4_67) rfl rfl ?_
          show Steps p.tables e below (T.setTop (mkF m 68 #[.val (.ref a1), .val (.int p2), .val (.long v2), .second, .val (.int i4), s5] [(.ref a1)])) _
          exact kt
        refine OwnG.st sg10 ?_
        obtain ⟨T11, X11, e11, st11⟩ := getF X hx hZ hown (host := "") (Or.inl (hw _ (List.mem_of_getElem? (i := 14) rfl))) Via.refl eT Hf (g := (mkF m 68 #[.val (.ref a1), .val (.int p2), .val (.long v2), .second, .val (.int i4), s5] [(.ref a1)])) rfl rfl (hb hby d4_68)
        refine OwnG.st st11 ?_
        show OwnG p e below s _ _ _ T11 (mkF m 71 #[.val (.ref a1), .val (.int p2), .val (.long v2), .second, .val (.int i4), s5] [(.ref b)])
        have sg12 : ∀ tgt, Steps p.tables e below (T11.setTop (mkF m 72 #[.val (.ref a1), .val (.int p2), .val (.long v2), .second, .val (.int i4), s5] [(.ref a1), (.ref b)])) tgt → Steps p.tables e below (T11.setTop (mkF m 71 #[.val (.ref a1), .val (.int p2), .val (.long v2), .second, .val (.int i4), s5] [(.ref b)])) tgt := by
          intro tgt kt
          refine XS.aloadN X11.here hx rfl (hb hby d4_71) rfl rfl ?_
          show Steps p.tables e below (T11.setTop (mkF m 72 #[.val (.ref a1), .val (.int p2), .val (.long v2), .second, .val (.int i4), s5] [(.ref a1), (.ref b)])) _
          exact kt
        refine OwnG.st sg12 ?_
        obtain ⟨T13, X13, e13, st13⟩ := getF X11 hx hZ hown (host := "") (Or.inl (hw _ (List.mem_of_getElem? (i := 21) rfl))) Via.refl e11 Hp (g := (mkF m 72 #[.val (.ref a1), .val (.int p2), .val (.long v2), .second, .val (.int i4), s5] [(.ref a1), (.ref b)])) rfl rfl (hb hby d4_72)
        refine OwnG.st st13 ?_
        show OwnG p e below s _ _ _ T13 (mkF m 75 #[.val (.ref a1), .val (.int p2), .val (.long v2), .second, .val (.int i4), s5] [(.long (Int64.ofNat (t + i4.toInt.toNat))), (.ref b)])
        have sg14 : ∀ tgt, Steps p.tables e below (T13.setTop (mkF m 94 #[.val (.ref a1), .val (.int p2), .val (.long v2), .second, .val (.int i4), .val (.int ((g ((((Int64.ofNat (t + i4.toInt.toNat)).toUInt64 >>> ((3 : Int32) &&& 0x3f).toInt64.toUInt64).toInt64).toInt32).toInt.toNat) &&& (255 : Int32)))] [(.ref a1), (.long (7 : Int64)), (.int ((g ((((Int64.ofNat (t + i4.toInt.toNat)).toUInt64 >>> ((3 : Int32) &&& 0x3f).toInt64.toUInt64).toInt64).toInt32).toInt.toNat) &&& (255 : Int32))), (.long (v2 <<< ((1 : Int32) &&& 0x3f).toInt64))])) tgt → Steps p.tables e below (T13.setTop (mkF m 75 #[.val (.ref a1), .val (.int p2), .val (.long v2), .second, .val (.int i4), s5] [(.long (Int64.ofNat (t + i4.toInt.toNat))), (.ref b)])) tgt := by
          intro tgt kt
          refine XS.iconst X13.here hx rfl (hb hby d4_75) ?_
          show Steps p.tables e below (T13.setTop (mkF m 76 #[.val (.ref a1), .val (.int p2), .val (.long v2), .second, .val (.int i4), s5] [(.int (3 : Int32)), (.long (Int64.ofNat (t + i4.toInt.toNat))), (.ref b)])) _
          refine XS.lushr X13.here hx rfl (hb hby d4_76) rfl ?_
          show Steps p.tables e below (T13.setTop (mkF m 77 #[.val (.ref a1), .val (.int p2), .val (.long v2), .second, .val (.int i4), s5] [(.long (((Int64.ofNat (t + i4.toInt.toNat)).toUInt64 >>> ((3 : Int32) &&& 0x3f).toInt64.toUInt64).toInt64)), (.ref b)])) _
          refine XS.l2i X13.here hx rfl (hb hby d4_77) rfl ?_
          show Steps p.tables e below (T13.setTop (mkF m 78 #[.val (.ref a1), .val (.int p2), .val (.long v2), .second, .val (.int i4), s5] [(.int ((((Int64.ofNat (t + i4.toInt.toNat)).toUInt64 >>> ((3 : Int32) &&& 0x3f).toInt64.toUInt64).toInt64).toInt32)), (.ref b)])) _
          refine own_ldB Ha X13 hx hZ e13 (by rw [own_idx _ (by omega)]; omega) (by have q := Int32.lt_iff_toInt_lt.mp hc64_9; rw [own_idx _ (by omega)]; omega) (gf := (mkF m 78 #[.val (.ref a1), .val (.int p2), .val (.long v2), .second, .val (.int i4), s5] [(.int ((((Int64.ofNat (t + i4.toInt.toNat)).toUInt64 >>> ((3 : Int32) &&& 0x3f).toInt64.toUInt64).toInt64).toInt32)), (.ref b)])) rfl rfl (hb hby d4_78) _ ?_
          show Steps p.tables e below (T13.setTop (mkF m 79 #[.val (.ref a1), .val (.int p2), .val (.long v2), .second, .val (.int i4), s5] [(.int (g ((((Int64.ofNat (t + i4.toInt.toNat)).toUInt64 >>> ((3 : Int32) &&& 0x3f).toInt64.toUInt64).toInt64).toInt32).toInt.toNat))])) _
          refine XS.sipush X13.here hx rfl (hb hby d4_79) ?_
          show Steps p.tables e below (T13.setTop (mkF m 82 #[.val (.ref a1), .val (.int p2), .val (.long v2), .second, .val (.int i4), s5] [(.int (255 : Int32)), (.int (g ((((Int64.ofNat (t + i4.toInt.toNat)).toUInt64 >>> ((3 : Int32) &&& 0x3f).toInt64.toUInt64).toInt64).toInt32).toInt.toNat))])) _
          refine XS.iand X13.here hx rfl (hb hby d4_82) rfl ?_
          show Steps p.tables e below (T13.setTop (mkF m 83 #[.val (.ref a1), .val (.int p2), .val (.long v2), .second, .val (.int i4), s5] [(.int ((g ((((Int64.ofNat (t + i4.toInt.toNat)).toUInt64 >>> ((3 : Int32) &&& 0x3f).toInt64.toUInt64).toInt64).toInt32).toInt.toNat) &&& (255 : Int32)))])) _
          refine XS.istoreS X13.here hx rfl (hb hby d4_83) rfl rfl hs5 ?_
          show Steps p.tables e below (T13.setTop (mkF m 85 #[.val (.ref a1), .val (.int p2), .val (.long v2), .second, .val (.int i4), .val (.int ((g ((((Int64.ofNat (t + i4.toInt.toNat)).toUInt64 >>> ((3 : Int32) &&& 0x3f).toInt64.toUInt64).toInt64).toInt32).toInt.toNat) &&& (255 : Int32)))] [])) _
          refine XS.lloadN X13.here hx rfl (hb hby d4_85) rfl ?_
          show Steps p.tables e below (T13.setTop (mkF m 86 #[.val (.ref a1), .val (.int p2), .val (.long v2), .second, .val (.int i4), .val (.int ((g ((((Int64.ofNat (t + i4.toInt.toNat)).toUInt64 >>> ((3 : Int32) &&& 0x3f).toInt64.toUInt64).toInt64).toInt32).toInt.toNat) &&& (255 : Int32)))] [(.long v2)])) _
          refine XS.iconst X13.here hx rfl (hb hby d4_86) ?_
          show Steps p.tables e below (T13.setTop (mkF m 87 #[.val (.ref a1), .val (.int p2), .val (.long v2), .second, .val (.int i4), .val (.int ((g ((((Int64.ofNat (t + i4.toInt.toNat)).toUInt64 >>> ((3 : Int32) &&& 0x3f).toInt64.toUInt64).toInt64).toInt32).toInt.toNat) &&& (255 : Int32)))] [(.int (1 : Int32)), (.long v2)])) _
          refine XS.lshl X13.here hx rfl (hb hby d4_87) rfl ?_
          show Steps p.tables e below (T13.setTop (mkF m 88 #[.val (.ref a1), .val (.int p2), .val (.long v2), .second, .val (.int i4), .val (.int ((g ((((Int64.ofNat (t + i4.toInt.toNat)).toUInt64 >>> ((3 : Int32) &&& 0x3f).toInt64.toUInt64).toInt64).toInt32).toInt.toNat) &&& (255 : Int32)))] [(.long (v2 <<< ((1 : Int32) &&& 0x3f).toInt64))])) _
          refine XS.iload X13.here hx rfl (hb hby d4_88) rfl ?_
          show Steps p.tables e below (T13.setTop (mkF m 90 #[.val (.ref a1), .val (.int p2), .val (.long v2), .second, .val (.int i4), .val (.int ((g ((((Int64.ofNat (t + i4.toInt.toNat)).toUInt64 >>> ((3 : Int32) &&& 0x3f).toInt64.toUInt64).toInt64).toInt32).toInt.toNat) &&& (255 : Int32)))] [(.int ((g ((((Int64.ofNat (t + i4.toInt.toNat)).toUInt64 >>> ((3 : Int32) &&& 0x3f).toInt64.toUInt64).toInt64).toInt32).toInt.toNat) &&& (255 : Int32))), (.long (v2 <<< ((1 : Int32) &&& 0x3f).toInt64))])) _
          refine X13.ldc2Long hx hown (mvT hZ (hw _ (List.mem_of_getElem? (i := 24) rfl))) (g := (mkF m 90 #[.val (.ref a1), .val (.int p2), .val (.long v2), .second, .val (.int i4), .val (.int ((g ((((Int64.ofNat (t + i4.toInt.toNat)).toUInt64 >>> ((3 : Int32) &&& 0x3f).toInt64.toUInt64).toInt64).toInt32).toInt.toNat) &&& (255 : Int32)))] [(.int ((g ((((Int64.ofNat (t + i4.toInt.toNat)).toUInt64 >>> ((3 : Int32) &&& 0x3f).toInt64.toUInt64).toInt64).toInt32).toInt.toNat) &&& (255 : Int32))), (.long (v2 <<< ((1 : Int32) &&& 0x3f).toInt64))])) rfl (hb hby d4_90) _ ?_
          show Steps p.tables e below (T13.setTop (mkF m 93 #[.val (.ref a1), .val (.int p2), .val (.long v2), .second, .val (.int i4), .val (.int ((g ((((Int64.ofNat (t + i4.toInt.toNat)).toUInt64 >>> ((3 : Int32) &&& 0x3f).toInt64.toUInt64).toInt64).toInt32).toInt.toNat) &&& (255 : Int32)))] [(.long (7 : Int64)), (.int ((g ((((Int64.ofNat (t + i4.toInt.toNat)).toUInt64 >>> ((3 : Int32) &&& 0x3f).toInt64.toUInt64).toInt64).toInt32).toInt.toNat) &&& (255 : Int32))), (.long (v2 <<< ((1 : Int32) &&& 0x3f).toInt64))])) _
          refine XS.aloadN X13.here hx rfl (hb hby d4_93) rfl rfl ?_
          show Steps p.tables e below (T13.setTop (mkF m 94 #[.val (.ref a1), .val (.int p2), .val (.long v2), .second, .val (.int i4), .val (.int ((g ((((Int64.ofNat (t + i4.toInt.toNat)).toUInt64 >>> ((3 : Int32) &&& 0x3f).toInt64.toUInt64).toInt64).toInt32).toInt.toNat) &&& (255 : Int32)))] [(.ref a1), (.long (7 : Int64)), (.int ((g ((((Int64.ofNat (t + i4.toInt.toNat)).toUInt64 >>> ((3 : Int32) &&& 0x3f).toInt64.toUInt64).toInt64).toInt32).toInt.toNat) &&& (255 : Int32))), (.long (v2 <<< ((1 : Int32) &&& 0x3f).toInt64))])) _
          exact kt
        refine OwnG.st sg14 ?_
        obtain ⟨T15, X15, e15, st15⟩ := getF X13 hx hZ hown (host := "") (Or.inl (hw _ (List.mem_of_getElem? (i := 21) rfl))) Via.refl e13 Hp (g := (mkF m 94 #[.val (.ref a1), .val (.int p2), .val (.long v2), .second, .val (.int i4), .val (.int ((g ((((Int64.ofNat (t + i4.toInt.toNat)).toUInt64 >>> ((3 : Int32) &&& 0x3f).toInt64.toUInt64).toInt64).toInt32).toInt.toNat) &&& (255 : Int32)))] [(.ref a1), (.long (7 : Int64)), (.int ((g ((((Int64.ofNat (t + i4.toInt.toNat)).toUInt64 >>> ((3 : Int32) &&& 0x3f).toInt64.toUInt64).toInt64).toInt32).toInt.toNat) &&& (255 : Int32))), (.long (v2 <<< ((1 : Int32) &&& 0x3f).toInt64))])) rfl rfl (hb hby d4_94)
        refine OwnG.st st15 ?_
        show OwnG p e below s _ _ _ T15 (mkF m 97 #[.val (.ref a1), .val (.int p2), .val (.long v2), .second, .val (.int i4), .val (.int ((g ((((Int64.ofNat (t + i4.toInt.toNat)).toUInt64 >>> ((3 : Int32) &&& 0x3f).toInt64.toUInt64).toInt64).toInt32).toInt.toNat) &&& (255 : Int32)))] [(.long (Int64.ofNat (t + i4.toInt.toNat))), (.long (7 : Int64)), (.int ((g ((((Int64.ofNat (t + i4.toInt.toNat)).toUInt64 >>> ((3 : Int32) &&& 0x3f).toInt64.toUInt64).toInt64).toInt32).toInt.toNat) &&& (255 : Int32))), (.long (v2 <<< ((1 : Int32) &&& 0x3f).toInt64))])
        have sg16 : ∀ tgt, Steps p.tables e below (T15.setTop (mkF m 111 #[.val (.ref a1), .val (.int p2), .val (.long ((v2 <<< ((1 : Int32) &&& 0x3f).toInt64) ||| ((((((g ((((Int64.ofNat (t + i4.toInt.toNat)).toUInt64 >>> ((3 : Int32) &&& 0x3f).toInt64.toUInt64).toInt64).toInt32).toInt.toNat) &&& (255 : Int32)).toUInt32 >>> ((((7 : Int64) - ((Int64.ofNat (t + i4.toInt.toNat)) &&& (7 : Int64))).toInt32) &&& 31).toUInt32).toInt32) &&& (1 : Int32)).toInt64))), .second, .val (.int i4), .val (.int ((g ((((Int64.ofNat (t + i4.toInt.toNat)).toUInt64 >>> ((3 : Int32) &&& 0x3f).toInt64.toUInt64).toInt64).toInt32).toInt.toNat) &&& (255 : Int32)))] [(.ref a1), (.ref a1)])) tgt → Steps p.tables e below (T15.setTop (mkF m 97 #[.val (.ref a1), .val (.int p2), .val (.long v2), .second, .val (.int i4), .val (.int ((g ((((Int64.ofNat (t + i4.toInt.toNat)).toUInt64 >>> ((3 : Int32) &&& 0x3f).toInt64.toUInt64).toInt64).toInt32).toInt.toNat) &&& (255 : Int32)))] [(.long (Int64.ofNat (t + i4.toInt.toNat))), (.long (7 : Int64)), (.int ((g ((((Int64.ofNat (t + i4.toInt.toNat)).toUInt64 >>> ((3 : Int32) &&& 0x3f).toInt64.toUInt64).toInt64).toInt32).toInt.toNat) &&& (255 : Int32))), (.long (v2 <<< ((1 : Int32) &&& 0x3f).toInt64))])) tgt := by
          intro tgt kt
          refine X15.ldc2Long hx hown (mvT hZ (hw _ (List.mem_of_getElem? (i := 24) rfl))) (g := (mkF m 97 #[.val (.ref a1), .val (.int p2), .val (.long v2), .second, .val (.int i4), .val (.int ((g ((((Int64.ofNat (t + i4.toInt.toNat)).toUInt64 >>> ((3 : Int32) &&& 0x3f).toInt64.toUInt64).toInt64).toInt32).toInt.toNat) &&& (255 : Int32)))] [(.long (Int64.ofNat (t + i4.toInt.toNat))), (.long (7 : Int64)), (.int ((g ((((Int64.ofNat (t + i4.toInt.toNat)).toUInt64 >>> ((3 : Int32) &&& 0x3f).toInt64.toUInt64).toInt64).toInt32).toInt.toNat) &&& (255 : Int32))), (.long (v2 <<< ((1 : Int32) &&& 0x3f).toInt64))])) rfl (hb hby d4_97) _ ?_
          show Steps p.tables e below (T15.setTop (mkF m 100 #[.val (.ref a1), .val (.int p2), .val (.long v2), .second, .val (.int i4), .val (.int ((g ((((Int64.ofNat (t + i4.toInt.toNat)).toUInt64 >>> ((3 : Int32) &&& 0x3f).toInt64.toUInt64).toInt64).toInt32).toInt.toNat) &&& (255 : Int32)))] [(.long (7 : Int64)), (.long (Int64.ofNat (t + i4.toInt.toNat))), (.long (7 : Int64)), (.int ((g ((((Int64.ofNat (t + i4.toInt.toNat)).toUInt64 >>> ((3 : Int32) &&& 0x3f).toInt64.toUInt64).toInt64).toInt32).toInt.toNat) &&& (255 : Int32))), (.long (v2 <<< ((1 : Int32) &&& 0x3f).toInt64))])) _
          refine XS.land X15.here hx rfl (hb hby d4_100) rfl ?_
          show Steps p.tables e below (T15.setTop (mkF m 101 #[.val (.ref a1), .val (.int p2), .val (.long v2), .second, .val (.int i4), .val (.int ((g ((((Int64.ofNat (t + i4.toInt.toNat)).toUInt64 >>> ((3 : Int32) &&& 0x3f).toInt64.toUInt64).toInt64).toInt32).toInt.toNat) &&& (255 : Int32)))] [(.long ((Int64.ofNat (t + i4.toInt.toNat)) &&& (7 : Int64))), (.long (7 : Int64)), (.int ((g ((((Int64.ofNat (t + i4.toInt.toNat)).toUInt64 >>> ((3 : Int32) &&& 0x3f).toInt64.toUInt64).toInt64).toInt32).toInt.toNat) &&& (255 : Int32))), (.long (v2 <<< ((1 : Int32) &&& 0x3f).toInt64))])) _
          refine XS.lsub X15.here hx rfl (hb hby d4_101) rfl ?_
          show Steps p.tables e below (T15.setTop (mkF m 102 #[.val (.ref a1), .val (.int p2), .val (.long v2), .second, .val (.int i4), .val (.int ((g ((((Int64.ofNat (t + i4.toInt.toNat)).toUInt64 >>> ((3 : Int32) &&& 0x3f).toInt64.toUInt64).toInt64).toInt32).toInt.toNat) &&& (255 : Int32)))] [(.long ((7 : Int64) - ((Int64.ofNat (t + i4.toInt.toNat)) &&& (7 : Int64)))), (.int ((g ((((Int64.ofNat (t + i4.toInt.toNat)).toUInt64 >>> ((3 : Int32) &&& 0x3f).toInt64.toUInt64).toInt64).toInt32).toInt.toNat) &&& (255 : Int32))), (.long (v2 <<< ((1 : Int32) &&& 0x3f).toInt64))])) _
          refine XS.l2i X15.here hx rfl (hb hby d4_102) rfl ?_
          show Steps p.tables e below (T15.setTop (mkF m 103 #[.val (.ref a1), .val (.int p2), .val (.long v2), .second, .val (.int i4), .val (.int ((g ((((Int64.ofNat (t + i4.toInt.toNat)).toUInt64 >>> ((3 : Int32) &&& 0x3f).toInt64.toUInt64).toInt64).toInt32).toInt.toNat) &&& (255 : Int32)))] [(.int (((7 : Int64) - ((Int64.ofNat (t + i4.toInt.toNat)) &&& (7 : Int64))).toInt32)), (.int ((g ((((Int64.ofNat (t + i4.toInt.toNat)).toUInt64 >>> ((3 : Int32) &&& 0x3f).toInt64.toUInt64).toInt64).toInt32).toInt.toNat) &&& (255 : Int32))), (.long (v2 <<< ((1 : Int32) &&& 0x3f).toInt64))])) _
          refine XS.iushr X15.here hx rfl (hb hby d4_103) rfl ?_
          show Steps p.tables e below (T15.setTop (mkF m 104 #[.val (.ref a1), .val (.int p2), .val (.long v2), .second, .val (.int i4), .val (.int ((g ((((Int64.ofNat (t + i4.toInt.toNat)).toUInt64 >>> ((3 : Int32) &&& 0x3f).toInt64.toUInt64).toInt64).toInt32).toInt.toNat) &&& (255 : Int32)))] [(.int ((((g ((((Int64.ofNat (t + i4.toInt.toNat)).toUInt64 >>> ((3 : Int32) &&& 0x3f).toInt64.toUInt64).toInt64).toInt32).toInt.toNat) &&& (255 : Int32)).toUInt32 >>> ((((7 : Int64) - ((Int64.ofNat (t + i4.toInt.toNat)) &&& (7 : Int64))).toInt32) &&& 31).toUInt32).toInt32)), (.long (v2 <<< ((1 : Int32) &&& 0x3f).toInt64))])) _
          refine XS.iconst X15.here hx rfl (hb hby d4_104) ?_
          show Steps p.tables e below (T15.setTop (mkF m 105 #[.val (.ref a1), .val (.int p2), .val (.long v2), .second, .val (.int i4), .val (.int ((g ((((Int64.ofNat (t + i4.toInt.toNat)).toUInt64 >>> ((3 : Int32) &&& 0x3f).toInt64.toUInt64).toInt64).toInt32).toInt.toNat) &&& (255 : Int32)))] [(.int (1 : Int32)), (.int ((((g ((((Int64.ofNat (t + i4.toInt.toNat)).toUInt64 >>> ((3 : Int32) &&& 0x3f).toInt64.toUInt64).toInt64).toInt32).toInt.toNat) &&& (255 : Int32)).toUInt32 >>> ((((7 : Int64) - ((Int64.ofNat (t + i4.toInt.toNat)) &&& (7 : Int64))).toInt32) &&& 31).toUInt32).toInt32)), (.long (v2 <<< ((1 : Int32) &&& 0x3f).toInt64))])) _
          refine XS.iand X15.here hx rfl (hb hby d4_105) rfl ?_
          show Steps p.tables e below (T15.setTop (mkF m 106 #[.val (.ref a1), .val (.int p2), .val (.long v2), .second, .val (.int i4), .val (.int ((g ((((Int64.ofNat (t + i4.toInt.toNat)).toUInt64 >>> ((3 : Int32) &&& 0x3f).toInt64.toUInt64).toInt64).toInt32).toInt.toNat) &&& (255 : Int32)))] [(.int (((((g ((((Int64.ofNat (t + i4.toInt.toNat)).toUInt64 >>> ((3 : Int32) &&& 0x3f).toInt64.toUInt64).toInt64).toInt32).toInt.toNat) &&& (255 : Int32)).toUInt32 >>> ((((7 : Int64) - ((Int64.ofNat (t + i4.toInt.toNat)) &&& (7 : Int64))).toInt32) &&& 31).toUInt32).toInt32) &&& (1 : Int32))), (.long (v2 <<< ((1 : Int32) &&& 0x3f).toInt64))])) _
          refine XS.i2l X15.here hx rfl (hb hby d4_106) rfl ?_
          show Steps p.tables e below (T15.setTop (mkF m 107 #[.val (.ref a1), .val (.int p2), .val (.long v2), .second, .val (.int i4), .val (.int ((g ((((Int64.ofNat (t + i4.toInt.toNat)).toUInt64 >>> ((3 : Int32) &&& 0x3f).toInt64.toUInt64).toInt64).toInt32).toInt.toNat) &&& (255 : Int32)))] [(.long ((((((g ((((Int64.ofNat (t + i4.toInt.toNat)).toUInt64 >>> ((3 : Int32) &&& 0x3f).toInt64.toUInt64).toInt64).toInt32).toInt.toNat) &&& (255 : Int32)).toUInt32 >>> ((((7 : Int64) - ((Int64.ofNat (t + i4.toInt.toNat)) &&& (7 : Int64))).toInt32) &&& 31).toUInt32).toInt32) &&& (1 : Int32)).toInt64)), (.long (v2 <<< ((1 : Int32) &&& 0x3f).toInt64))])) _
          refine XS.lor X15.here hx rfl (hb hby d4_107) rfl ?_
          show Steps p.tables e below (T15.setTop (mkF m 108 #[.val (.ref a1), .val (.int p2), .val (.long v2), .second, .val (.int i4), .val (.int ((g ((((Int64.ofNat (t + i4.toInt.toNat)).toUInt64 >>> ((3 : Int32) &&& 0x3f).toInt64.toUInt64).toInt64).toInt32).toInt.toNat) &&& (255 : Int32)))] [(.long ((v2 <<< ((1 : Int32) &&& 0x3f).toInt64) ||| ((((((g ((((Int64.ofNat (t + i4.toInt.toNat)).toUInt64 >>> ((3 : Int32) &&& 0x3f).toInt64.toUInt64).toInt64).toInt32).toInt.toNat) &&& (255 : Int32)).toUInt32 >>> ((((7 : Int64) - ((Int64.ofNat (t + i4.toInt.toNat)) &&& (7 : Int64))).toInt32) &&& 31).toUInt32).toInt32) &&& (1 : Int32)).toInt64)))])) _
          refine XS.lstoreN X15.here hx rfl (hb hby d4_108) rfl (l' := #[.val (.ref a1), .val (.int p2), .val (.long ((v2 <<< ((1 : Int32) &&& 0x3f).toInt64) ||| ((((((g ((((Int64.ofNat (t + i4.toInt.toNat)).toUInt64 >>> ((3 : Int32) &&& 0x3f).toInt64.toUInt64).toInt64).toInt32).toInt.toNat) &&& (255 : Int32)).toUInt32 >>> ((((7 : Int64) - ((Int64.ofNat (t + i4.toInt.toNat)) &&& (7 : Int64))).toInt32) &&& 31).toUInt32).toInt32) &&& (1 : Int32)).toInt64))), .second, .val (.int i4), .val (.int ((g ((((Int64.ofNat (t + i4.toInt.toNat)).toUInt64 >>> ((3 : Int32) &&& 0x3f).toInt64.toUInt64).toInt64).toInt32).toInt.toNat) &&& (255 : Int32)))]) rfl ?_
          show Steps p.tables e below (T15.setTop (mkF m 109 #[.val (.ref a1), .val (.int p2), .val (.long ((v2 <<< ((1 : Int32) &&& 0x3f).toInt64) ||| ((((((g ((((Int64.ofNat (t + i4.toInt.toNat)).toUInt64 >>> ((3 : Int32) &&& 0x3f).toInt64.toUInt64).toInt64).toInt32).toInt.toNat) &&& (255 : Int32)).toUInt32 >>> ((((7 : Int64) - ((Int64.ofNat (t + i4.toInt.toNat)) &&& (7 : Int64))).toInt32) &&& 31).toUInt32).toInt32) &&& (1 : Int32)).toInt64))), .second, .val (.int i4), .val (.int ((g ((((Int64.ofNat (t + i4.toInt.toNat)).toUInt64 >>> ((3 : Int32) &&& 0x3f).toInt64.toUInt64).toInt64).toInt32).toInt.toNat) &&& (255 : Int32)))] [])) _
          refine XS.aloadN X15.here hx rfl (hb hby d4_109) rfl rfl ?_
          show Steps p.tables e below (T15.setTop (mkF m 110 #[.val (.ref a1), .val (.int p2), .val (.long ((v2 <<< ((1 : Int32) &&& 0x3f).toInt64) ||| ((((((g ((((Int64.ofNat (t + i4.toInt.toNat)).toUInt64 >>> ((3 : Int32) &&& 0x3f).toInt64.toUInt64).toInt64).toInt32).toInt.toNat) &&& (255 : Int32)).toUInt32 >>> ((((7 : Int64) - ((Int64.ofNat (t + i4.toInt.toNat)) &&& (7 : Int64))).toInt32) &&& 31).toUInt32).toInt32) &&& (1 : Int32)).toInt64))), .second, .val (.int i4), .val (.int ((g ((((Int64.ofNat (t + i4.toInt.toNat)).toUInt64 >>> ((3 : Int32) &&& 0x3f).toInt64.toUInt64).toInt64).toInt32).toInt.toNat) &&& (255 : Int32)))] [(.ref a1)])) _
          refine XS.dup X15.here hx rfl (hb hby d4_110) rfl rfl ?_
          show Steps p.tables e below (T15.setTop (mkF m 111 #[.val (.ref a1), .val (.int p2), .val (.long ((v2 <<< ((1 : Int32) &&& 0x3f).toInt64) ||| ((((((g ((((Int64.ofNat (t + i4.toInt.toNat)).toUInt64 >>> ((3 : Int32) &&& 0x3f).toInt64.toUInt64).toInt64).toInt32).toInt.toNat) &&& (255 : Int32)).toUInt32 >>> ((((7 : Int64) - ((Int64.ofNat (t + i4.toInt.toNat)) &&& (7 : Int64))).toInt32) &&& 31).toUInt32).toInt32) &&& (1 : Int32)).toInt64))), .second, .val (.int i4), .val (.int ((g ((((Int64.ofNat (t + i4.toInt.toNat)).toUInt64 >>> ((3 : Int32) &&& 0x3f).toInt64.toUInt64).toInt64).toInt32).toInt.toNat) &&& (255 : Int32)))] [(.ref a1), (.ref a1)])) _
          exact kt
        refine OwnG.st sg16 ?_
        obtain ⟨T17, X17, e17, st17⟩ := getF X15 hx hZ hown (host := "") (Or.inl (hw _ (List.mem_of_getElem? (i := 21) rfl))) Via.refl e15 Hp (g := (mkF m 111 #[.val (.ref a1), .val (.int p2), .val (.long ((v2 <<< ((1 : Int32) &&& 0x3f).toInt64) ||| ((((((g ((((Int64.ofNat (t + i4.toInt.toNat)).toUInt64 >>> ((3 : Int32) &&& 0x3f).toInt64.toUInt64).toInt64).toInt32).toInt.toNat) &&& (255 : Int32)).toUInt32 >>> ((((7 : Int64) - ((Int64.ofNat (t + i4.toInt.toNat)) &&& (7 : Int64))).toInt32) &&& 31).toUInt32).toInt32) &&& (1 : Int32)).toInt64))), .second, .val (.int i4), .val (.int ((g ((((Int64.ofNat (t + i4.toInt.toNat)).toUInt64 >>> ((3 : Int32) &&& 0x3f).toInt64.toUInt64).toInt64).toInt32).toInt.toNat) &&& (255 : Int32)))] [(.ref a1), (.ref a1)])) rfl rfl (hb hby d4_111)
        refine OwnG.st st17 ?_
        show OwnG p e below s _ _ _ T17 (mkF m 114 #[.val (.ref a1), .val (.int p2), .val (.long ((v2 <<< ((1 : Int32) &&& 0x3f).toInt64) ||| ((((((g ((((Int64.ofNat (t + i4.toInt.toNat)).toUInt64 >>> ((3 : Int32) &&& 0x3f).toInt64.toUInt64).toInt64).toInt32).toInt.toNat) &&& (255 : Int32)).toUInt32 >>> ((((7 : Int64) - ((Int64.ofNat (t + i4.toInt.toNat)) &&& (7 : Int64))).toInt32) &&& 31).toUInt32).toInt32) &&& (1 : Int32)).toInt64))), .second, .val (.int i4), .val (.int ((g ((((Int64.ofNat (t + i4.toInt.toNat)).toUInt64 >>> ((3 : Int32) &&& 0x3f).toInt64.toUInt64).toInt64).toInt32).toInt.toNat) &&& (255 : Int32)))] [(.long (Int64.ofNat (t + i4.toInt.toNat))), (.ref a1)])
        have sg18 : ∀ tgt, Steps p.tables e below (T17.setTop (mkF m 116 #[.val (.ref a1), .val (.int p2), .val (.long ((v2 <<< ((1 : Int32) &&& 0x3f).toInt64) ||| ((((((g ((((Int64.ofNat (t + i4.toInt.toNat)).toUInt64 >>> ((3 : Int32) &&& 0x3f).toInt64.toUInt64).toInt64).toInt32).toInt.toNat) &&& (255 : Int32)).toUInt32 >>> ((((7 : Int64) - ((Int64.ofNat (t + i4.toInt.toNat)) &&& (7 : Int64))).toInt32) &&& 31).toUInt32).toInt32) &&& (1 : Int32)).toInt64))), .second, .val (.int i4), .val (.int ((g ((((Int64.ofNat (t + i4.toInt.toNat)).toUInt64 >>> ((3 : Int32) &&& 0x3f).toInt64.toUInt64).toInt64).toInt32).toInt.toNat) &&& (255 : Int32)))] [(.long ((Int64.ofNat (t + i4.toInt.toNat)) + (1 : Int64))), (.ref a1)])) tgt → Steps p.tables e below (T17.setTop (mkF m 114 #[.val (.ref a1), .val (.int p2), .val (.long ((v2 <<< ((1 : Int32) &&& 0x3f).toInt64) ||| ((((((g ((((Int64.ofNat (t + i4.toInt.toNat)).toUInt64 >>> ((3 : Int32) &&& 0x3f).toInt64.toUInt64).toInt64).toInt32).toInt.toNat) &&& (255 : Int32)).toUInt32 >>> ((((7 : Int64) - ((Int64.ofNat (t + i4.toInt.toNat)) &&& (7 : Int64))).toInt32) &&& 31).toUInt32).toInt32) &&& (1 : Int32)).toInt64))), .second, .val (.int i4), .val (.int ((g ((((Int64.ofNat (t + i4.toInt.toNat)).toUInt64 >>> ((3 : Int32) &&& 0x3f).toInt64.toUInt64).toInt64).toInt32).toInt.toNat) &&& (255 : Int32)))] [(.long (Int64.ofNat (t + i4.toInt.toNat))), (.ref a1)])) tgt := by
          intro tgt kt
          refine XS.lconst X17.here hx rfl (hb hby d4_114) ?_
          show Steps p.tables e below (T17.setTop (mkF m 115 #[.val (.ref a1), .val (.int p2), .val (.long ((v2 <<< ((1 : Int32) &&& 0x3f).toInt64) ||| ((((((g ((((Int64.ofNat (t + i4.toInt.toNat)).toUInt64 >>> ((3 : Int32) &&& 0x3f).toInt64.toUInt64).toInt64).toInt32).toInt.toNat) &&& (255 : Int32)).toUInt32 >>> ((((7 : Int64) - ((Int64.ofNat (t + i4.toInt.toNat)) &&& (7 : Int64))).toInt32) &&& 31).toUInt32).toInt32) &&& (1 : Int32)).toInt64))), .second, .val (.int i4), .val (.int ((g ((((Int64.ofNat (t + i4.toInt.toNat)).toUInt64 >>> ((3 : Int32) &&& 0x3f).toInt64.toUInt64).toInt64).toInt32).toInt.toNat) &&& (255 : Int32)))] [(.long (1 : Int64)), (.long (Int64.ofNat (t + i4.toInt.toNat))), (.ref a1)])) _
          refine XS.ladd X17.here hx rfl (hb hby d4_115) rfl ?_
          show Steps p.tables e below (T17.setTop (mkF m 116 #[.val (.ref a1), .val (.int p2), .val (.long ((v2 <<< ((1 : Int32) &&& 0x3f).toInt64) ||| ((((((g ((((Int64.ofNat (t + i4.toInt.toNat)).toUInt64 >>> ((3 : Int32) &&& 0x3f).toInt64.toUInt64).toInt64).toInt32).toInt.toNat) &&& (255 : Int32)).toUInt32 >>> ((((7 : Int64) - ((Int64.ofNat (t + i4.toInt.toNat)) &&& (7 : Int64))).toInt32) &&& 31).toUInt32).toInt32) &&& (1 : Int32)).toInt64))), .second, .val (.int i4), .val (.int ((g ((((Int64.ofNat (t + i4.toInt.toNat)).toUInt64 >>> ((3 : Int32) &&& 0x3f).toInt64.toUInt64).toInt64).toInt32).toInt.toNat) &&& (255 : Int32)))] [(.long ((Int64.ofNat (t + i4.toInt.toNat)) + (1 : Int64))), (.ref a1)])) _
          exact kt
        refine OwnG.st sg18 ?_
        obtain ⟨T19, h19, X19, e19, W19, st19⟩ := putF X17 hx hZ hown (host := "") (Or.inl (hw _ (List.mem_of_getElem? (i := 21) rfl))) Via.refl e17 Hp Hx (Or.inl (hw _ (List.mem_of_getElem? (i := 22) rfl))) (hw _ (List.mem_of_getElem? (i := 6) rfl)) (ty := .long) (by decide) rfl rfl (g := (mkF m 116 #[.val (.ref a1), .val (.int p2), .val (.long ((v2 <<< ((1 : Int32) &&& 0x3f).toInt64) ||| ((((((g ((((Int64.ofNat (t + i4.toInt.toNat)).toUInt64 >>> ((3 : Int32) &&& 0x3f).toInt64.toUInt64).toInt64).toInt32).toInt.toNat) &&& (255 : Int32)).toUInt32 >>> ((((7 : Int64) - ((Int64.ofNat (t + i4.toInt.toNat)) &&& (7 : Int64))).toInt32) &&& 31).toUInt32).toInt32) &&& (1 : Int32)).toInt64))), .second, .val (.int i4), .val (.int ((g ((((Int64.ofNat (t + i4.toInt.toNat)).toUInt64 >>> ((3 : Int32) &&& 0x3f).toInt64.toUInt64).toInt64).toInt32).toInt.toNat) &&& (255 : Int32)))] [(.long ((Int64.ofNat (t + i4.toInt.toNat)) + (1 : Int64))), (.ref a1)])) rfl rfl (hb hby d4_116)
        have fE_a1_20 := (Exa.wr W19 Hx)
        have fF_a1_encoding_21 := (Fld.other W19 Hf (Or.inr (slot_ne (Or.inr (hw _ (List.mem_of_getElem? (i := 15) rfl))) (Or.inl (hw _ (List.mem_of_getElem? (i := 22) rfl))) (by decide) (t := (.array .byte)) (t' := .long) (by decide) (by decide))))
        have fA_b_22 := (Ha.other W19 ne_b)
        have Fw19 : Fld Z h19 a1 "com/example/ubicacion/ubicacion/lmf/AlignedPer$Reader" "position" "J" (.long ((Int64.ofNat (t + i4.toInt.toNat)) + (1 : Int64))) := Fld.same W19 Hp
        have N19 := Fr.snoc X19 N gb_a1
        have Z19 : n0 ≤ h19.size := by rw [W19.size]; exact Hz
        have K19 : Keep h0 h19 [a1] := Hk.wr W19 (Or.inl (by simp))
        refine OwnG.st st19 ?_
        show OwnG p e below s _ _ _ T19 (mkF m 119 #[.val (.ref a1), .val (.int p2), .val (.long ((v2 <<< ((1 : Int32) &&& 0x3f).toInt64) ||| ((((((g ((((Int64.ofNat (t + i4.toInt.toNat)).toUInt64 >>> ((3 : Int32) &&& 0x3f).toInt64.toUInt64).toInt64).toInt32).toInt.toNat) &&& (255 : Int32)).toUInt32 >>> ((((7 : Int64) - ((Int64.ofNat (t + i4.toInt.toNat)) &&& (7 : Int64))).toInt32) &&& 31).toUInt32).toInt32) &&& (1 : Int32)).toInt64))), .second, .val (.int i4), .val (.int ((g ((((Int64.ofNat (t + i4.toInt.toNat)).toUInt64 >>> ((3 : Int32) &&& 0x3f).toInt64.toUInt64).toInt64).toInt32).toInt.toNat) &&& (255 : Int32)))] [])
        have sg23 : ∀ tgt, Steps p.tables e below (T19.setTop (mkF m 61 #[.val (.ref a1), .val (.int p2), .val (.long ((v2 <<< ((1 : Int32) &&& 0x3f).toInt64) ||| ((((((g ((((Int64.ofNat (t + i4.toInt.toNat)).toUInt64 >>> ((3 : Int32) &&& 0x3f).toInt64.toUInt64).toInt64).toInt32).toInt.toNat) &&& (255 : Int32)).toUInt32 >>> ((((7 : Int64) - ((Int64.ofNat (t + i4.toInt.toNat)) &&& (7 : Int64))).toInt32) &&& 31).toUInt32).toInt32) &&& (1 : Int32)).toInt64))), .second, .val (.int (i4 + (1 : Int32))), .val (.int ((g ((((Int64.ofNat (t + i4.toInt.toNat)).toUInt64 >>> ((3 : Int32) &&& 0x3f).toInt64.toUInt64).toInt64).toInt32).toInt.toNat) &&& (255 : Int32)))] [])) tgt → Steps p.tables e below (T19.setTop (mkF m 119 #[.val (.ref a1), .val (.int p2), .val (.long ((v2 <<< ((1 : Int32) &&& 0x3f).toInt64) ||| ((((((g ((((Int64.ofNat (t + i4.toInt.toNat)).toUInt64 >>> ((3 : Int32) &&& 0x3f).toInt64.toUInt64).toInt64).toInt32).toInt.toNat) &&& (255 : Int32)).toUInt32 >>> ((((7 : Int64) - ((Int64.ofNat (t + i4.toInt.toNat)) &&& (7 : Int64))).toInt32) &&& 31).toUInt32).toInt32) &&& (1 : Int32)).toInt64))), .second, .val (.int i4), .val (.int ((g ((((Int64.ofNat (t + i4.toInt.toNat)).toUInt64 >>> ((3 : Int32) &&& 0x3f).toInt64.toUInt64).toInt64).toInt32).toInt.toNat) &&& (255 : Int32)))] [])) tgt := by
          intro tgt kt
          refine XS.iinc X19.here hx rfl (hb hby d4_119) rfl (l' := #[.val (.ref a1), .val (.int p2), .val (.long ((v2 <<< ((1 : Int32) &&& 0x3f).toInt64) ||| ((((((g ((((Int64.ofNat (t + i4.toInt.toNat)).toUInt64 >>> ((3 : Int32) &&& 0x3f).toInt64.toUInt64).toInt64).toInt32).toInt.toNat) &&& (255 : Int32)).toUInt32 >>> ((((7 : Int64) - ((Int64.ofNat (t + i4.toInt.toNat)) &&& (7 : Int64))).toInt32) &&& 31).toUInt32).toInt32) &&& (1 : Int32)).toInt64))), .second, .val (.int (i4 + (1 : Int32))), .val (.int ((g ((((Int64.ofNat (t + i4.toInt.toNat)).toUInt64 >>> ((3 : Int32) &&& 0x3f).toInt64.toUInt64).toInt64).toInt32).toInt.toNat) &&& (255 : Int32)))]) rfl ?_
          show Steps p.tables e below (T19.setTop (mkF m 122 #[.val (.ref a1), .val (.int p2), .val (.long ((v2 <<< ((1 : Int32) &&& 0x3f).toInt64) ||| ((((((g ((((Int64.ofNat (t + i4.toInt.toNat)).toUInt64 >>> ((3 : Int32) &&& 0x3f).toInt64.toUInt64).toInt64).toInt32).toInt.toNat) &&& (255 : Int32)).toUInt32 >>> ((((7 : Int64) - ((Int64.ofNat (t + i4.toInt.toNat)) &&& (7 : Int64))).toInt32) &&& 31).toUInt32).toInt32) &&& (1 : Int32)).toInt64))), .second, .val (.int (i4 + (1 : Int32))), .val (.int ((g ((((Int64.ofNat (t + i4.toInt.toNat)).toUInt64 >>> ((3 : Int32) &&& 0x3f).toInt64.toUInt64).toInt64).toInt32).toInt.toNat) &&& (255 : Int32)))] [])) _
          refine XS.goto X19.here hx rfl (pc0 := 122) (pc' := 61) rfl (hb hby d4_122) (by decide) (by decide) ?_
          show Steps p.tables e below (T19.setTop (mkF m 61 #[.val (.ref a1), .val (.int p2), .val (.long ((v2 <<< ((1 : Int32) &&& 0x3f).toInt64) ||| ((((((g ((((Int64.ofNat (t + i4.toInt.toNat)).toUInt64 >>> ((3 : Int32) &&& 0x3f).toInt64.toUInt64).toInt64).toInt32).toInt.toNat) &&& (255 : Int32)).toUInt32 >>> ((((7 : Int64) - ((Int64.ofNat (t + i4.toInt.toNat)) &&& (7 : Int64))).toInt32) &&& 31).toUInt32).toInt32) &&& (1 : Int32)).toInt64))), .second, .val (.int (i4 + (1 : Int32))), .val (.int ((g ((((Int64.ofNat (t + i4.toInt.toNat)).toUInt64 >>> ((3 : Int32) &&& 0x3f).toInt64.toUInt64).toInt64).toInt32).toInt.toNat) &&& (255 : Int32)))] [])) _
          exact kt
        refine OwnG.st sg23 ?_
        have hlt := Int32.lt_iff_toInt_lt.mp hc64_9
        have a1' := own_i1 i4 (by omega) (by omega)
        have hp' : Fld Z h19 a1 "com/example/ubicacion/ubicacion/lmf/AlignedPer$Reader" "position" "J" (.long (Int64.ofNat (t + (i4 + (1 : Int32)).toInt.toNat))) := by rw [a1'.2, own_o1]; exact Fw19
        refine ih _ (by rw [← hk, a1'.1]; omega) T19 _ h19 _ _ (.val (.int _)) X19 e19 N19 fE_a1_20 fF_a1_encoding_21 hp' fA_b_22 K19 Z19 ?_ (by rw [a1'.1]; omega) (by rw [a1'.1]; omega) (One.val rfl) rfl
        rw [a1'.2, ← own_turn g t i4.toInt.toNat (by omega) _ rfl, ← hI, own_ix3]
        first | done | omega
      · have sg24 : ∀ tgt, Steps p.tables e below (T.setTop (mkF m 126 #[.val (.ref a1), .val (.int p2), .val (.long v2), .second, .val (.int i4), s5] [(.long v2)])) tgt → Steps p.tables e below (T.setTop (mkF m 64 #[.val (.ref a1), .val (.int p2), .val (.long v2), .second, .val (.int i4), s5] [(.int p2), (.int i4)])) tgt := by
          intro tgt kt
          refine XS.icmpYes X.here hx rfl (pc0 := 64) (pc' := 125) rfl (hb hby d4_64) rfl (flt hc64_9).2.1 (by decide) (by decide) ?_
          show Steps p.tables e below (T.setTop (mkF m 125 #[.val (.ref a1), .val (.int p2), .val (.long v2), .second, .val (.int i4), s5] [])) _
          refine XS.lloadN X.here hx rfl (hb hby d4_125) rfl ?_
          show Steps p.tables e below (T.setTop (mkF m 126 #[.val (.ref a1), .val (.int p2), .val (.long v2), .second, .val (.int i4), s5] [(.long v2)])) _
          exact kt
        refine OwnG.st sg24 ?_
        have hle := hc64_9
        rw [Int32.lt_iff_toInt_lt] at hle
        have hi : i4.toInt.toNat = p2.toInt.toNat := by omega
        rw [hi] at hI Hp
        exact OwnG.retJ X hx Bd.returns (BodyLoose.notSynchronized Bd) (hb hby d4_126) (by rw [eT]; exact ⟨by rw [hI], N, Hk, Hx, Hf, Hp⟩) (by decide) (by decide)
  exact lp7 _ T4 _  h0 _ _ _ X4 e4 N0 E_a1 Fe Fp A_b (Keep.refl h0 [a1]) Z0 rfl (by decide) (by show (0 : Int) ≤ _; omega) One.u  rfl
def F5 (q1 : Int64) (q2 : Int64) (p3 : Int32) (p4 : Int32) : Int64 := (if p4 = (0 : Int32) then (0 : Int64) else ((if ((128 : Int32) - (p3 + p4)) = (0 : Int32) then q2 else (if ((128 : Int32) - (p3 + p4)) < (64 : Int32) then (((q2.toUInt64 >>> (((128 : Int32) - (p3 + p4)) &&& 0x3f).toInt64.toUInt64).toInt64) ||| (q1 <<< (((64 : Int32) - ((128 : Int32) - (p3 + p4))) &&& 0x3f).toInt64)) else ((q1.toUInt64 >>> ((((128 : Int32) - (p3 + p4)) - (64 : Int32)) &&& 0x3f).toInt64.toUInt64).toInt64))) &&& (((1 : Int64) <<< (p4 &&& 0x3f).toInt64) - (1 : Int64))))
theorem d5_0 : decode method_2_code 0 = .ok (.iload 5, 2) := by decide +kernel
theorem d5_2 : decode method_2_code 2 = .ok (.ifCond .ne 5, 3) := by decide +kernel
theorem d5_5 : decode method_2_code 5 = .ok (.lconst 0, 1) := by decide +kernel
theorem d5_6 : decode method_2_code 6 = .ok (.lreturn, 1) := by decide +kernel
theorem d5_7 : decode method_2_code 7 = .ok (.iload 4, 2) := by decide +kernel
theorem d5_9 : decode method_2_code 9 = .ok (.iload 5, 2) := by decide +kernel
theorem d5_11 : decode method_2_code 11 = .ok (.iadd, 1) := by decide +kernel
theorem d5_12 : decode method_2_code 12 = .ok (.istore 6, 2) := by decide +kernel
theorem d5_14 : decode method_2_code 14 = .ok (.sipush 128, 3) := by decide +kernel
theorem d5_17 : decode method_2_code 17 = .ok (.iload 6, 2) := by decide +kernel
theorem d5_19 : decode method_2_code 19 = .ok (.isub, 1) := by decide +kernel
theorem d5_20 : decode method_2_code 20 = .ok (.istore 7, 2) := by decide +kernel
theorem d5_22 : decode method_2_code 22 = .ok (.iload 7, 2) := by decide +kernel
theorem d5_24 : decode method_2_code 24 = .ok (.ifCond .ne 9, 3) := by decide +kernel
theorem d5_27 : decode method_2_code 27 = .ok (.lload_n 2, 1) := by decide +kernel
theorem d5_28 : decode method_2_code 28 = .ok (.lstore 8, 2) := by decide +kernel
theorem d5_30 : decode method_2_code 30 = .ok (.goto 36, 3) := by decide +kernel
theorem d5_33 : decode method_2_code 33 = .ok (.iload 7, 2) := by decide +kernel
theorem d5_35 : decode method_2_code 35 = .ok (.bipush 64, 2) := by decide +kernel
theorem d5_37 : decode method_2_code 37 = .ok (.if_icmp .lt 15, 3) := by decide +kernel
theorem d5_40 : decode method_2_code 40 = .ok (.lload_n 0, 1) := by decide +kernel
theorem d5_41 : decode method_2_code 41 = .ok (.iload 7, 2) := by decide +kernel
theorem d5_43 : decode method_2_code 43 = .ok (.bipush 64, 2) := by decide +kernel
theorem d5_45 : decode method_2_code 45 = .ok (.isub, 1) := by decide +kernel
theorem d5_46 : decode method_2_code 46 = .ok (.lushr, 1) := by decide +kernel
theorem d5_47 : decode method_2_code 47 = .ok (.lstore 8, 2) := by decide +kernel
theorem d5_49 : decode method_2_code 49 = .ok (.goto 17, 3) := by decide +kernel
theorem d5_52 : decode method_2_code 52 = .ok (.lload_n 2, 1) := by decide +kernel
theorem d5_53 : decode method_2_code 53 = .ok (.iload 7, 2) := by decide +kernel
theorem d5_55 : decode method_2_code 55 = .ok (.lushr, 1) := by decide +kernel
theorem d5_56 : decode method_2_code 56 = .ok (.lload_n 0, 1) := by decide +kernel
theorem d5_57 : decode method_2_code 57 = .ok (.bipush 64, 2) := by decide +kernel
theorem d5_59 : decode method_2_code 59 = .ok (.iload 7, 2) := by decide +kernel
theorem d5_61 : decode method_2_code 61 = .ok (.isub, 1) := by decide +kernel
theorem d5_62 : decode method_2_code 62 = .ok (.lshl, 1) := by decide +kernel
theorem d5_63 : decode method_2_code 63 = .ok (.lor, 1) := by decide +kernel
theorem d5_64 : decode method_2_code 64 = .ok (.lstore 8, 2) := by decide +kernel
theorem d5_66 : decode method_2_code 66 = .ok (.lload 8, 2) := by decide +kernel
theorem d5_68 : decode method_2_code 68 = .ok (.lconst 1, 1) := by decide +kernel
theorem d5_69 : decode method_2_code 69 = .ok (.iload 5, 2) := by decide +kernel
theorem d5_71 : decode method_2_code 71 = .ok (.lshl, 1) := by decide +kernel
theorem d5_72 : decode method_2_code 72 = .ok (.lconst 1, 1) := by decide +kernel
theorem d5_73 : decode method_2_code 73 = .ok (.lsub, 1) := by decide +kernel
theorem d5_74 : decode method_2_code 74 = .ok (.land, 1) := by decide +kernel
theorem d5_75 : decode method_2_code 75 = .ok (.lreturn, 1) := by decide +kernel
theorem pn_5 : plainName "com/example/ubicacion/ubicacion/lmf/ReaderBitsPinLaw" = true := by first | (simp [plainName, overriddenIn]; done) | decide +kernel
theorem ef_5 (m : MethodId) (q1 : Int64) (q2 : Int64) (p3 : Int32) (p4 : Int32) : entryFrame m #[(.long q1), (.long q2), (.int p3), (.int p4)] 10 = mkF m 0 #[.val (.long q1), .second, .val (.long q2), .second, .val (.int p3), .val (.int p4), .unset, .unset, .unset, .unset] [] := by first | (simp [entryFrame, mkF, argsToLocals, Value.category]; done) | rfl
def Q5 (Z : State) (q1 : Int64) (q2 : Int64) (p3 : Int32) (p4 : Int32) (h0 : Heap) (n0 : Nat) (v : Option Value) (h : Heap) (L : List Loc) : Prop := v = some (.long (F5 q1 q2 p3 p4)) ∧ Fr n0 L ∧ h = h0
set_option maxRecDepth 65536 in
set_option maxHeartbeats 40000000 in
theorem rm5 (l : Launch) (Z : State) (a0 : Array Value) (hw : ∀ d ∈ tables_1, d.before a0 Z = true) (ws : List Jvm.Cond) (q1 : Int64) (q2 : Int64) (p3 : Int32) (p4 : Int32)  (h0 : Heap) (n0 : Nat) (Z0 : n0 ≤ h0.size)  :
    MetFree l (⟨"com/example/ubicacion/ubicacion/lmf/ReaderBitsPinLaw", "ref", "(JJII)J"⟩ : MethodName) (head1 (Jvm.Cond.code (⟨"com/example/ubicacion/ubicacion/lmf/ReaderBitsPinLaw", "ref", "(JJII)J"⟩ : MethodName) method_2_code 10 (some .long) :: ws) ({ frames := 0, cells := 0, slots := 0, locals := 0 } : Room)) (fun a U => a = #[(.long q1), (.long q2), (.int p3), (.int p4)] ∧ Z.Warmed39 U.vm ∧ U.heap = h0) (fun _ _ _ _ _ => True) (fun _ U o U' => ∃ v L, o = .returned v ∧ Q5 Z q1 q2 p3 p4 h0 n0 v U'.heap L ∧ FrameEnd U o U' L ({ frames := 0, cells := 0, slots := 0, locals := 0 } : Room).cells ({ frames := 0, cells := 0, slots := 0, locals := 0 } : Room).slots) := by
  refine MetFree.of_bodySF (plainFor_of_name pn_5) hisR ?_
  intro p e s m args below meth c s₁ Bd hml0 hP hK
  obtain ⟨rfl, hZ, hh⟩ := hP
  have hx := Bd.exec
  have hby := Bd.bytes
  have hml : c.maxLocals = 10 := hml0
  have hown : s.vm.findClass "com/example/ubicacion/ubicacion/lmf/ReaderBitsPinLaw" = some m.cls := findClass_of_methodNamed Bd.named
  have hnm := (name_of_methodNamed Bd.named Bd.method).1
  have X0 : Stand p l e ({ frames := 0, cells := 0, slots := 0, locals := 0 } : Room) s m #[(.long q1), (.long q2), (.int p3), (.int p4)] below meth c s₁ [] 0 0 := Stand.of_body Bd
  have e0 : s₁.heap = h0 := by rw [← hh, Bd.state]; rfl
  have N0 := Fr.nil n0
  suffices hG : OwnG p e below s (Q5 Z q1 q2 p3 p4 h0 n0) ({ frames := 0, cells := 0, slots := 0, locals := 0 } : Room).cells ({ frames := 0, cells := 0, slots := 0, locals := 0 } : Room).slots s₁ (mkF m 0 #[.val (.long q1), .second, .val (.long q2), .second, .val (.int p3), .val (.int p4), .unset, .unset, .unset, .unset] []) by
    obtain ⟨s2, o2, g1, g2⟩ := hG
    exact ⟨s2, o2, castTop (ef_5 m q1 q2 p3 p4) g1, g2⟩
  have sg1 : ∀ tgt, Steps p.tables e below (s₁.setTop (mkF m 2 #[.val (.long q1), .second, .val (.long q2), .second, .val (.int p3), .val (.int p4), .unset, .unset, .unset, .unset] [(.int p4)])) tgt → Steps p.tables e below (s₁.setTop (mkF m 0 #[.val (.long q1), .second, .val (.long q2), .second, .val (.int p3), .val (.int p4), .unset, .unset, .unset, .unset] [])) tgt := by
    intro tgt kt
    refine XS.iload X0.here hx rfl (hb hby d5_0) rfl ?_
    show Steps p.tables e below (s₁.setTop (mkF m 2 #[.val (.long q1), .second, .val (.long q2), .second, .val (.int p3), .val (.int p4), .unset, .unset, .unset, .unset] [(.int p4)])) _
    exact kt
  refine OwnG.st sg1 ?_
  by_cases hc2_2 : p4 = (0 : Int32)
  · have sg3 : ∀ tgt, Steps p.tables e below (s₁.setTop (mkF m 6 #[.val (.long q1), .second, .val (.long q2), .second, .val (.int p3), .val (.int p4), .unset, .unset, .unset, .unset] [(.long (0 : Int64))])) tgt → Steps p.tables e below (s₁.setTop (mkF m 2 #[.val (.long q1), .second, .val (.long q2), .second, .val (.int p3), .val (.int p4), .unset, .unset, .unset, .unset] [(.int p4)])) tgt := by
      intro tgt kt
      refine XS.ifNo X0.here hx rfl (hb hby d5_2) rfl ((if0 _ _).trans (teq hc2_2).2) ?_
      show Steps p.tables e below (s₁.setTop (mkF m 5 #[.val (.long q1), .second, .val (.long q2), .second, .val (.int p3), .val (.int p4), .unset, .unset, .unset, .unset] [])) _
      refine XS.lconst X0.here hx rfl (hb hby d5_5) ?_
      show Steps p.tables e below (s₁.setTop (mkF m 6 #[.val (.long q1), .second, .val (.long q2), .second, .val (.int p3), .val (.int p4), .unset, .unset, .unset, .unset] [(.long (0 : Int64))])) _
      exact kt
    refine OwnG.st sg3 ?_
    have hv : (0 : Int64) = F5 q1 q2 p3 p4 := by simp only [F5, if_pos hc2_2]
    exact OwnG.retJ X0 hx Bd.returns (BodyLoose.notSynchronized Bd) (hb hby d5_6) ⟨congrArg (fun w => some (Value.long w)) hv, N0, e0⟩ (by decide) (by decide)
  · have sg4 : ∀ tgt, Steps p.tables e below (s₁.setTop (mkF m 24 #[.val (.long q1), .second, .val (.long q2), .second, .val (.int p3), .val (.int p4), .val (.int (p3 + p4)), .val (.int ((128 : Int32) - (p3 + p4))), .unset, .unset] [(.int ((128 : Int32) - (p3 + p4)))])) tgt → Steps p.tables e below (s₁.setTop (mkF m 2 #[.val (.long q1), .second, .val (.long q2), .second, .val (.int p3), .val (.int p4), .unset, .unset, .unset, .unset] [(.int p4)])) tgt := by
      intro tgt kt
      refine XS.ifYes X0.here hx rfl (pc0 := 2) (pc' := 7) rfl (hb hby d5_2) rfl ((if0 _ _).trans (feq hc2_2).2) (by decide) (by decide) ?_
      show Steps p.tables e below (s₁.setTop (mkF m 7 #[.val (.long q1), .second, .val (.long q2), .second, .val (.int p3), .val (.int p4), .unset, .unset, .unset, .unset] [])) _
      refine XS.iload X0.here hx rfl (hb hby d5_7) rfl ?_
      show Steps p.tables e below (s₁.setTop (mkF m 9 #[.val (.long q1), .second, .val (.long q2), .second, .val (.int p3), .val (.int p4), .unset, .unset, .unset, .unset] [(.int p3)])) _
      refine XS.iload X0.here hx rfl (hb hby d5_9) rfl ?_
      show Steps p.tables e below (s₁.setTop (mkF m 11 #[.val (.long q1), .second, .val (.long q2), .second, .val (.int p3), .val (.int p4), .unset, .unset, .unset, .unset] [(.int p4), (.int p3)])) _
      refine XS.iadd X0.here hx rfl (hb hby d5_11) rfl ?_
      show Steps p.tables e below (s₁.setTop (mkF m 12 #[.val (.long q1), .second, .val (.long q2), .second, .val (.int p3), .val (.int p4), .unset, .unset, .unset, .unset] [(.int (p3 + p4))])) _
      refine XS.istore X0.here hx rfl (hb hby d5_12) rfl (l' := #[.val (.long q1), .second, .val (.long q2), .second, .val (.int p3), .val (.int p4), .val (.int (p3 + p4)), .unset, .unset, .unset]) rfl ?_
      show Steps p.tables e below (s₁.setTop (mkF m 14 #[.val (.long q1), .second, .val (.long q2), .second, .val (.int p3), .val (.int p4), .val (.int (p3 + p4)), .unset, .unset, .unset] [])) _
      refine XS.sipush X0.here hx rfl (hb hby d5_14) ?_
      show Steps p.tables e below (s₁.setTop (mkF m 17 #[.val (.long q1), .second, .val (.long q2), .second, .val (.int p3), .val (.int p4), .val (.int (p3 + p4)), .unset, .unset, .unset] [(.int (128 : Int32))])) _
      refine XS.iload X0.here hx rfl (hb hby d5_17) rfl ?_
      show Steps p.tables e below (s₁.setTop (mkF m 19 #[.val (.long q1), .second, .val (.long q2), .second, .val (.int p3), .val (.int p4), .val (.int (p3 + p4)), .unset, .unset, .unset] [(.int (p3 + p4)), (.int (128 : Int32))])) _
      refine XS.isub X0.here hx rfl (hb hby d5_19) rfl ?_
      show Steps p.tables e below (s₁.setTop (mkF m 20 #[.val (.long q1), .second, .val (.long q2), .second, .val (.int p3), .val (.int p4), .val (.int (p3 + p4)), .unset, .unset, .unset] [(.int ((128 : Int32) - (p3 + p4)))])) _
      refine XS.istore X0.here hx rfl (hb hby d5_20) rfl (l' := #[.val (.long q1), .second, .val (.long q2), .second, .val (.int p3), .val (.int p4), .val (.int (p3 + p4)), .val (.int ((128 : Int32) - (p3 + p4))), .unset, .unset]) rfl ?_
      show Steps p.tables e below (s₁.setTop (mkF m 22 #[.val (.long q1), .second, .val (.long q2), .second, .val (.int p3), .val (.int p4), .val (.int (p3 + p4)), .val (.int ((128 : Int32) - (p3 + p4))), .unset, .unset] [])) _
      refine XS.iload X0.here hx rfl (hb hby d5_22) rfl ?_
      show Steps p.tables e below (s₁.setTop (mkF m 24 #[.val (.long q1), .second, .val (.long q2), .second, .val (.int p3), .val (.int p4), .val (.int (p3 + p4)), .val (.int ((128 : Int32) - (p3 + p4))), .unset, .unset] [(.int ((128 : Int32) - (p3 + p4)))])) _
      exact kt
    refine OwnG.st sg4 ?_
    obtain ⟨z66_7, hz66_7⟩ : ∃ w : Int64, w = (if ((128 : Int32) - (p3 + p4)) = (0 : Int32) then q2 else (if ((128 : Int32) - (p3 + p4)) < (64 : Int32) then (((q2.toUInt64 >>> (((128 : Int32) - (p3 + p4)) &&& 0x3f).toInt64.toUInt64).toInt64) ||| (q1 <<< (((64 : Int32) - ((128 : Int32) - (p3 + p4))) &&& 0x3f).toInt64)) else ((q1.toUInt64 >>> ((((128 : Int32) - (p3 + p4)) - (64 : Int32)) &&& 0x3f).toInt64.toUInt64).toInt64))) := ⟨_, rfl⟩
    have dj8 : ∀ tgt, Steps p.tables e below (s₁.setTop (mkF m 66 #[.val (.long q1), .second, .val (.long q2), .second, .val (.int p3), .val (.int p4), .val (.int (p3 + p4)), .val (.int ((128 : Int32) - (p3 + p4))), .val (.long z66_7), .second] [])) tgt → Steps p.tables e below (s₁.setTop (mkF m 24 #[.val (.long q1), .second, .val (.long q2), .second, .val (.int p3), .val (.int p4), .val (.int (p3 + p4)), .val (.int ((128 : Int32) - (p3 + p4))), .unset, .unset] [(.int ((128 : Int32) - (p3 + p4)))])) tgt := by
      intro tgt kt
      by_cases hc24_5 : ((128 : Int32) - (p3 + p4)) = (0 : Int32)
      · have qz66_7 : z66_7 = q2 := by rw [hz66_7, if_pos hc24_5]
        rw [qz66_7] at kt
        refine XS.ifNo X0.here hx rfl (hb hby d5_24) rfl ((if0 _ _).trans (teq hc24_5).2) ?_
        show Steps p.tables e below (s₁.setTop (mkF m 27 #[.val (.long q1), .second, .val (.long q2), .second, .val (.int p3), .val (.int p4), .val (.int (p3 + p4)), .val (.int ((128 : Int32) - (p3 + p4))), .unset, .unset] [])) _
        refine XS.lloadN X0.here hx rfl (hb hby d5_27) rfl ?_
        show Steps p.tables e below (s₁.setTop (mkF m 28 #[.val (.long q1), .second, .val (.long q2), .second, .val (.int p3), .val (.int p4), .val (.int (p3 + p4)), .val (.int ((128 : Int32) - (p3 + p4))), .unset, .unset] [(.long q2)])) _
        refine XS.lstore X0.here hx rfl (hb hby d5_28) rfl (l' := #[.val (.long q1), .second, .val (.long q2), .second, .val (.int p3), .val (.int p4), .val (.int (p3 + p4)), .val (.int ((128 : Int32) - (p3 + p4))), .val (.long q2), .second]) rfl ?_
        show Steps p.tables e below (s₁.setTop (mkF m 30 #[.val (.long q1), .second, .val (.long q2), .second, .val (.int p3), .val (.int p4), .val (.int (p3 + p4)), .val (.int ((128 : Int32) - (p3 + p4))), .val (.long q2), .second] [])) _
        refine XS.goto X0.here hx rfl (pc0 := 30) (pc' := 66) rfl (hb hby d5_30) (by decide) (by decide) ?_
        show Steps p.tables e below (s₁.setTop (mkF m 66 #[.val (.long q1), .second, .val (.long q2), .second, .val (.int p3), .val (.int p4), .val (.int (p3 + p4)), .val (.int ((128 : Int32) - (p3 + p4))), .val (.long q2), .second] [])) _
        exact kt
      · refine XS.ifYes X0.here hx rfl (pc0 := 24) (pc' := 33) rfl (hb hby d5_24) rfl ((if0 _ _).trans (feq hc24_5).2) (by decide) (by decide) ?_
        show Steps p.tables e below (s₁.setTop (mkF m 33 #[.val (.long q1), .second, .val (.long q2), .second, .val (.int p3), .val (.int p4), .val (.int (p3 + p4)), .val (.int ((128 : Int32) - (p3 + p4))), .unset, .unset] [])) _
        refine XS.iload X0.here hx rfl (hb hby d5_33) rfl ?_
        show Steps p.tables e below (s₁.setTop (mkF m 35 #[.val (.long q1), .second, .val (.long q2), .second, .val (.int p3), .val (.int p4), .val (.int (p3 + p4)), .val (.int ((128 : Int32) - (p3 + p4))), .unset, .unset] [(.int ((128 : Int32) - (p3 + p4)))])) _
        refine XS.bipush X0.here hx rfl (hb hby d5_35) ?_
        show Steps p.tables e below (s₁.setTop (mkF m 37 #[.val (.long q1), .second, .val (.long q2), .second, .val (.int p3), .val (.int p4), .val (.int (p3 + p4)), .val (.int ((128 : Int32) - (p3 + p4))), .unset, .unset] [(.int (64 : Int32)), (.int ((128 : Int32) - (p3 + p4)))])) _
        by_cases hc37_6 : ((128 : Int32) - (p3 + p4)) < (64 : Int32)
        · have qz66_7 : z66_7 = (((q2.toUInt64 >>> (((128 : Int32) - (p3 + p4)) &&& 0x3f).toInt64.toUInt64).toInt64) ||| (q1 <<< (((64 : Int32) - ((128 : Int32) - (p3 + p4))) &&& 0x3f).toInt64)) := by rw [hz66_7, if_neg hc24_5, if_pos hc37_6]
          rw [qz66_7] at kt
          refine XS.icmpYes X0.here hx rfl (pc0 := 37) (pc' := 52) rfl (hb hby d5_37) rfl (tlt hc37_6).1 (by decide) (by decide) ?_
          show Steps p.tables e below (s₁.setTop (mkF m 52 #[.val (.long q1), .second, .val (.long q2), .second, .val (.int p3), .val (.int p4), .val (.int (p3 + p4)), .val (.int ((128 : Int32) - (p3 + p4))), .unset, .unset] [])) _
          refine XS.lloadN X0.here hx rfl (hb hby d5_52) rfl ?_
          show Steps p.tables e below (s₁.setTop (mkF m 53 #[.val (.long q1), .second, .val (.long q2), .second, .val (.int p3), .val (.int p4), .val (.int (p3 + p4)), .val (.int ((128 : Int32) - (p3 + p4))), .unset, .unset] [(.long q2)])) _
          refine XS.iload X0.here hx rfl (hb hby d5_53) rfl ?_
          show Steps p.tables e below (s₁.setTop (mkF m 55 #[.val (.long q1), .second, .val (.long q2), .second, .val (.int p3), .val (.int p4), .val (.int (p3 + p4)), .val (.int ((128 : Int32) - (p3 + p4))), .unset, .unset] [(.int ((128 : Int32) - (p3 + p4))), (.long q2)])) _
          refine XS.lushr X0.here hx rfl (hb hby d5_55) rfl ?_
          show Steps p.tables e below (s₁.setTop (mkF m 56 #[.val (.long q1), .second, .val (.long q2), .second, .val (.int p3), .val (.int p4), .val (.int (p3 + p4)), .val (.int ((128 : Int32) - (p3 + p4))), .unset, .unset] [(.long ((q2.toUInt64 >>> (((128 : Int32) - (p3 + p4)) &&& 0x3f).toInt64.toUInt64).toInt64))])) _
          refine XS.lloadN X0.here hx rfl (hb hby d5_56) rfl ?_
          show Steps p.tables e below (s₁.setTop (mkF m 57 #[.val (.long q1), .second, .val (.long q2), .second, .val (.int p3), .val (.int p4), .val (.int (p3 + p4)), .val (.int ((128 : Int32) - (p3 + p4))), .unset, .unset] [(.long q1), (.long ((q2.toUInt64 >>> (((128 : Int32) - (p3 + p4)) &&& 0x3f).toInt64.toUInt64).toInt64))])) _
          refine XS.bipush X0.here hx rfl (hb hby d5_57) ?_
          show Steps p.tables e below (s₁.setTop (mkF m 59 #[.val (.long q1), .second, .val (.long q2), .second, .val (.int p3), .val (.int p4), .val (.int (p3 + p4)), .val (.int ((128 : Int32) - (p3 + p4))), .unset, .unset] [(.int (64 : Int32)), (.long q1), (.long ((q2.toUInt64 >>> (((128 : Int32) - (p3 + p4)) &&& 0x3f).toInt64.toUInt64).toInt64))])) _
          refine XS.iload X0.here hx rfl (hb hby d5_59) rfl ?_
          show Steps p.tables e below (s₁.setTop (mkF m 61 #[.val (.long q1), .second, .val (.long q2), .second, .val (.int p3), .val (.int p4), .val (.int (p3 + p4)), .val (.int ((128 : Int32) - (p3 + p4))), .unset, .unset] [(.int ((128 : Int32) - (p3 + p4))), (.int (64 : Int32)), (.long q1), (.long ((q2.toUInt64 >>> (((128 : Int32) - (p3 + p4)) &&& 0x3f).toInt64.toUInt64).toInt64))])) _
          refine XS.isub X0.here hx rfl (hb hby d5_61) rfl ?_
          show Steps p.tables e below (s₁.setTop (mkF m 62 #[.val (.long q1), .second, .val (.long q2), .second, .val (.int p3), .val (.int p4), .val (.int (p3 + p4)), .val (.int ((128 : Int32) - (p3 + p4))), .unset, .unset] [(.int ((64 : Int32) - ((128 : Int32) - (p3 + p4)))), (.long q1), (.long ((q2.toUInt64 >>> (((128 : Int32) - (p3 + p4)) &&& 0x3f).toInt64.toUInt64).toInt64))])) _
          refine XS.lshl X0.here hx rfl (hb hby d5_62) rfl ?_
          show Steps p.tables e below (s₁.setTop (mkF m 63 #[.val (.long q1), .second, .val (.long q2), .second, .val (.int p3), .val (.int p4), .val (.int (p3 + p4)), .val (.int ((128 : Int32) - (p3 + p4))), .unset, .unset] [(.long (q1 <<< (((64 : Int32) - ((128 : Int32) - (p3 + p4))) &&& 0x3f).toInt64)), (.long ((q2.toUInt64 >>> (((128 : Int32) - (p3 + p4)) &&& 0x3f).toInt64.toUInt64).toInt64))])) _
          refine XS.lor X0.here hx rfl (hb hby d5_63) rfl ?_
          show Steps p.tables e below (s₁.setTop (mkF m 64 #[.val (.long q1), .second, .val (.long q2), .second, .val (.int p3), .val (.int p4), .val (.int (p3 + p4)), .val (.int ((128 : Int32) - (p3 + p4))), .unset, .unset] [(.long (((q2.toUInt64 >>> (((128 : Int32) - (p3 + p4)) &&& 0x3f).toInt64.toUInt64).toInt64) ||| (q1 <<< (((64 : Int32) - ((128 : Int32) - (p3 + p4))) &&& 0x3f).toInt64)))])) _
          refine XS.lstore X0.here hx rfl (hb hby d5_64) rfl (l' := #[.val (.long q1), .second, .val (.long q2), .second, .val (.int p3), .val (.int p4), .val (.int (p3 + p4)), .val (.int ((128 : Int32) - (p3 + p4))), .val (.long (((q2.toUInt64 >>> (((128 : Int32) - (p3 + p4)) &&& 0x3f).toInt64.toUInt64).toInt64) ||| (q1 <<< (((64 : Int32) - ((128 : Int32) - (p3 + p4))) &&& 0x3f).toInt64))), .second]) rfl ?_
          show Steps p.tables e below (s₁.setTop (mkF m 66 #[.val (.long q1), .second, .val (.long q2), .second, .val (.int p3), .val (.int p4), .val (.int (p3 + p4)), .val (.int ((128 : Int32) - (p3 + p4))), .val (.long (((q2.toUInt64 >>> (((128 : Int32) - (p3 + p4)) &&& 0x3f).toInt64.toUInt64).toInt64) ||| (q1 <<< (((64 : Int32) - ((128 : Int32) - (p3 + p4))) &&& 0x3f).toInt64))), .second] [])) _
          exact kt
        · have qz66_7 : z66_7 = ((q1.toUInt64 >>> ((((128 : Int32) - (p3 + p4)) - (64 : Int32)) &&& 0x3f).toInt64.toUInt64).toInt64) := by rw [hz66_7, if_neg hc24_5, if_neg hc37_6]
          rw [qz66_7] at kt
          refine XS.icmpNo X0.here hx rfl (hb hby d5_37) rfl (flt hc37_6).1 ?_
          show Steps p.tables e below (s₁.setTop (mkF m 40 #[.val (.long q1), .second, .val (.long q2), .second, .val (.int p3), .val (.int p4), .val (.int (p3 + p4)), .val (.int ((128 : Int32) - (p3 + p4))), .unset, .unset] [])) _
          refine XS.lloadN X0.here hx rfl (hb hby d5_40) rfl ?_
          show Steps p.tables e below (s₁.setTop (mkF m 41 #[.val (.long q1), .second, .val (.long q2), .second, .val (.int p3), .val (.int p4), .val (.int (p3 + p4)), .val (.int ((128 : Int32) - (p3 + p4))), .unset, .unset] [(.long q1)])) _
          refine XS.iload X0.here hx rfl (hb hby d5_41) rfl ?_
          show Steps p.tables e below (s₁.setTop (mkF m 43 #[.val (.long q1), .second, .val (.long q2), .second, .val (.int p3), .val (.int p4), .val (.int (p3 + p4)), .val (.int ((128 : Int32) - (p3 + p4))), .unset, .unset] [(.int ((128 : Int32) - (p3 + p4))), (.long q1)])) _
          refine XS.bipush X0.here hx rfl (hb hby d5_43) ?_
          show Steps p.tables e below (s₁.setTop (mkF m 45 #[.val (.long q1), .second, .val (.long q2), .second, .val (.int p3), .val (.int p4), .val (.int (p3 + p4)), .val (.int ((128 : Int32) - (p3 + p4))), .unset, .unset] [(.int (64 : Int32)), (.int ((128 : Int32) - (p3 + p4))), (.long q1)])) _
          refine XS.isub X0.here hx rfl (hb hby d5_45) rfl ?_
          show Steps p.tables e below (s₁.setTop (mkF m 46 #[.val (.long q1), .second, .val (.long q2), .second, .val (.int p3), .val (.int p4), .val (.int (p3 + p4)), .val (.int ((128 : Int32) - (p3 + p4))), .unset, .unset] [(.int (((128 : Int32) - (p3 + p4)) - (64 : Int32))), (.long q1)])) _
          refine XS.lushr X0.here hx rfl (hb hby d5_46) rfl ?_
          show Steps p.tables e below (s₁.setTop (mkF m 47 #[.val (.long q1), .second, .val (.long q2), .second, .val (.int p3), .val (.int p4), .val (.int (p3 + p4)), .val (.int ((128 : Int32) - (p3 + p4))), .unset, .unset] [(.long ((q1.toUInt64 >>> ((((128 : Int32) - (p3 + p4)) - (64 : Int32)) &&& 0x3f).toInt64.toUInt64).toInt64))])) _
          refine XS.lstore X0.here hx rfl (hb hby d5_47) rfl (l' := #[.val (.long q1), .second, .val (.long q2), .second, .val (.int p3), .val (.int p4), .val (.int (p3 + p4)), .val (.int ((128 : Int32) - (p3 + p4))), .val (.long ((q1.toUInt64 >>> ((((128 : Int32) - (p3 + p4)) - (64 : Int32)) &&& 0x3f).toInt64.toUInt64).toInt64)), .second]) rfl ?_
          show Steps p.tables e below (s₁.setTop (mkF m 49 #[.val (.long q1), .second, .val (.long q2), .second, .val (.int p3), .val (.int p4), .val (.int (p3 + p4)), .val (.int ((128 : Int32) - (p3 + p4))), .val (.long ((q1.toUInt64 >>> ((((128 : Int32) - (p3 + p4)) - (64 : Int32)) &&& 0x3f).toInt64.toUInt64).toInt64)), .second] [])) _
          refine XS.goto X0.here hx rfl (pc0 := 49) (pc' := 66) rfl (hb hby d5_49) (by decide) (by decide) ?_
          show Steps p.tables e below (s₁.setTop (mkF m 66 #[.val (.long q1), .second, .val (.long q2), .second, .val (.int p3), .val (.int p4), .val (.int (p3 + p4)), .val (.int ((128 : Int32) - (p3 + p4))), .val (.long ((q1.toUInt64 >>> ((((128 : Int32) - (p3 + p4)) - (64 : Int32)) &&& 0x3f).toInt64.toUInt64).toInt64)), .second] [])) _
          exact kt
    refine OwnG.st dj8 ?_
    have sg9 : ∀ tgt, Steps p.tables e below (s₁.setTop (mkF m 75 #[.val (.long q1), .second, .val (.long q2), .second, .val (.int p3), .val (.int p4), .val (.int (p3 + p4)), .val (.int ((128 : Int32) - (p3 + p4))), .val (.long z66_7), .second] [(.long (z66_7 &&& (((1 : Int64) <<< (p4 &&& 0x3f).toInt64) - (1 : Int64))))])) tgt → Steps p.tables e below (s₁.setTop (mkF m 66 #[.val (.long q1), .second, .val (.long q2), .second, .val (.int p3), .val (.int p4), .val (.int (p3 + p4)), .val (.int ((128 : Int32) - (p3 + p4))), .val (.long z66_7), .second] [])) tgt := by
      intro tgt kt
      refine XS.lload X0.here hx rfl (hb hby d5_66) rfl ?_
      show Steps p.tables e below (s₁.setTop (mkF m 68 #[.val (.long q1), .second, .val (.long q2), .second, .val (.int p3), .val (.int p4), .val (.int (p3 + p4)), .val (.int ((128 : Int32) - (p3 + p4))), .val (.long z66_7), .second] [(.long z66_7)])) _
      refine XS.lconst X0.here hx rfl (hb hby d5_68) ?_
      show Steps p.tables e below (s₁.setTop (mkF m 69 #[.val (.long q1), .second, .val (.long q2), .second, .val (.int p3), .val (.int p4), .val (.int (p3 + p4)), .val (.int ((128 : Int32) - (p3 + p4))), .val (.long z66_7), .second] [(.long (1 : Int64)), (.long z66_7)])) _
      refine XS.iload X0.here hx rfl (hb hby d5_69) rfl ?_
      show Steps p.tables e below (s₁.setTop (mkF m 71 #[.val (.long q1), .second, .val (.long q2), .second, .val (.int p3), .val (.int p4), .val (.int (p3 + p4)), .val (.int ((128 : Int32) - (p3 + p4))), .val (.long z66_7), .second] [(.int p4), (.long (1 : Int64)), (.long z66_7)])) _
      refine XS.lshl X0.here hx rfl (hb hby d5_71) rfl ?_
      show Steps p.tables e below (s₁.setTop (mkF m 72 #[.val (.long q1), .second, .val (.long q2), .second, .val (.int p3), .val (.int p4), .val (.int (p3 + p4)), .val (.int ((128 : Int32) - (p3 + p4))), .val (.long z66_7), .second] [(.long ((1 : Int64) <<< (p4 &&& 0x3f).toInt64)), (.long z66_7)])) _
      refine XS.lconst X0.here hx rfl (hb hby d5_72) ?_
      show Steps p.tables e below (s₁.setTop (mkF m 73 #[.val (.long q1), .second, .val (.long q2), .second, .val (.int p3), .val (.int p4), .val (.int (p3 + p4)), .val (.int ((128 : Int32) - (p3 + p4))), .val (.long z66_7), .second] [(.long (1 : Int64)), (.long ((1 : Int64) <<< (p4 &&& 0x3f).toInt64)), (.long z66_7)])) _
      refine XS.lsub X0.here hx rfl (hb hby d5_73) rfl ?_
      show Steps p.tables e below (s₁.setTop (mkF m 74 #[.val (.long q1), .second, .val (.long q2), .second, .val (.int p3), .val (.int p4), .val (.int (p3 + p4)), .val (.int ((128 : Int32) - (p3 + p4))), .val (.long z66_7), .second] [(.long (((1 : Int64) <<< (p4 &&& 0x3f).toInt64) - (1 : Int64))), (.long z66_7)])) _
      refine XS.land X0.here hx rfl (hb hby d5_74) rfl ?_
      show Steps p.tables e below (s₁.setTop (mkF m 75 #[.val (.long q1), .second, .val (.long q2), .second, .val (.int p3), .val (.int p4), .val (.int (p3 + p4)), .val (.int ((128 : Int32) - (p3 + p4))), .val (.long z66_7), .second] [(.long (z66_7 &&& (((1 : Int64) <<< (p4 &&& 0x3f).toInt64) - (1 : Int64))))])) _
      exact kt
    refine OwnG.st sg9 ?_
    have hv : (z66_7 &&& (((1 : Int64) <<< (p4 &&& 0x3f).toInt64) - (1 : Int64))) = F5 q1 q2 p3 p4 := by subst hz66_7; simp only [F5, if_neg hc2_2]
    exact OwnG.retJ X0 hx Bd.returns (BodyLoose.notSynchronized Bd) (hb hby d5_75) ⟨congrArg (fun w => some (Value.long w)) hv, N0, e0⟩ (by decide) (by decide)
def F1 (p1 : Int32) (p2 : Int32) : Int32 := (if p2 < p1 then p2 else p1)
theorem d1_0 : decode jdk_29_method_69_code 0 = .ok (.iload_n 0, 1) := by decide +kernel
theorem d1_1 : decode jdk_29_method_69_code 1 = .ok (.iload_n 1, 1) := by decide +kernel
theorem d1_2 : decode jdk_29_method_69_code 2 = .ok (.if_icmp .gt 7, 3) := by decide +kernel
theorem d1_5 : decode jdk_29_method_69_code 5 = .ok (.iload_n 0, 1) := by decide +kernel
theorem d1_6 : decode jdk_29_method_69_code 6 = .ok (.goto 4, 3) := by decide +kernel
theorem d1_9 : decode jdk_29_method_69_code 9 = .ok (.iload_n 1, 1) := by decide +kernel
theorem d1_10 : decode jdk_29_method_69_code 10 = .ok (.ireturn, 1) := by decide +kernel
theorem ef_1 (m : MethodId) (p1 : Int32) (p2 : Int32) : entryFrame m #[(.int p1), (.int p2)] 2 = mkF m 0 #[.val (.int p1), .val (.int p2)] [] := by first | (simp [entryFrame, mkF, argsToLocals, Value.category]; done) | rfl
def Q1 (Z : State) (p1 : Int32) (p2 : Int32) (h0 : Heap) (n0 : Nat) (v : Option Value) (h : Heap) (L : List Loc) : Prop := v = some (.int (F1 p1 p2)) ∧ Fr n0 L ∧ h = h0
set_option maxRecDepth 65536 in
set_option maxHeartbeats 40000000 in
theorem rm1 (l : Launch) (Z : State) (a0 : Array Value) (hw : ∀ d ∈ tables_1, d.before a0 Z = true) (ws : List Jvm.Cond) (p1 : Int32) (p2 : Int32)  (h0 : Heap) (n0 : Nat) (Z0 : n0 ≤ h0.size)  :
    MetFree l (⟨"java/lang/Math", "min", "(II)I"⟩ : MethodName) (head1 (Jvm.Cond.code (⟨"java/lang/Math", "min", "(II)I"⟩ : MethodName) jdk_29_method_69_code 2 (some .int) :: ws) ({ frames := 0, cells := 0, slots := 0, locals := 0 } : Room)) (fun a U => a = #[(.int p1), (.int p2)] ∧ Z.Warmed39 U.vm ∧ U.heap = h0) (fun _ _ _ _ _ => True) (fun _ U o U' => ∃ v L, o = .returned v ∧ Q1 Z p1 p2 h0 n0 v U'.heap L ∧ FrameEnd U o U' L ({ frames := 0, cells := 0, slots := 0, locals := 0 } : Room).cells ({ frames := 0, cells := 0, slots := 0, locals := 0 } : Room).slots) := by
  refine MetFree.of_bodySF (Jvm.Free.JP.mathPlain rfl (by decide +kernel)) hisR ?_
  intro p e s m args below meth c s₁ Bd hml0 hP hK
  obtain ⟨rfl, hZ, hh⟩ := hP
  have hx := Bd.exec
  have hby := Bd.bytes
  have hml : c.maxLocals = 2 := hml0
  have hown : s.vm.findClass "java/lang/Math" = some m.cls := findClass_of_methodNamed Bd.named
  have hnm := (name_of_methodNamed Bd.named Bd.method).1
  have X0 : Stand p l e ({ frames := 0, cells := 0, slots := 0, locals := 0 } : Room) s m #[(.int p1), (.int p2)] below meth c s₁ [] 0 0 := Stand.of_body Bd
  have e0 : s₁.heap = h0 := by rw [← hh, Bd.state]; rfl
  have N0 := Fr.nil n0
  suffices hG : OwnG p e below s (Q1 Z p1 p2 h0 n0) ({ frames := 0, cells := 0, slots := 0, locals := 0 } : Room).cells ({ frames := 0, cells := 0, slots := 0, locals := 0 } : Room).slots s₁ (mkF m 0 #[.val (.int p1), .val (.int p2)] []) by
    obtain ⟨s2, o2, g1, g2⟩ := hG
    exact ⟨s2, o2, castTop (ef_1 m p1 p2) g1, g2⟩
  have sg1 : ∀ tgt, Steps p.tables e below (s₁.setTop (mkF m 2 #[.val (.int p1), .val (.int p2)] [(.int p2), (.int p1)])) tgt → Steps p.tables e below (s₁.setTop (mkF m 0 #[.val (.int p1), .val (.int p2)] [])) tgt := by
    intro tgt kt
    refine XS.iloadN X0.here hx rfl (hb hby d1_0) rfl ?_
    show Steps p.tables e below (s₁.setTop (mkF m 1 #[.val (.int p1), .val (.int p2)] [(.int p1)])) _
    refine XS.iloadN X0.here hx rfl (hb hby d1_1) rfl ?_
    show Steps p.tables e below (s₁.setTop (mkF m 2 #[.val (.int p1), .val (.int p2)] [(.int p2), (.int p1)])) _
    exact kt
  refine OwnG.st sg1 ?_
  by_cases hc2_2 : p2 < p1
  · have sg3 : ∀ tgt, Steps p.tables e below (s₁.setTop (mkF m 10 #[.val (.int p1), .val (.int p2)] [(.int p2)])) tgt → Steps p.tables e below (s₁.setTop (mkF m 2 #[.val (.int p1), .val (.int p2)] [(.int p2), (.int p1)])) tgt := by
      intro tgt kt
      refine XS.icmpYes X0.here hx rfl (pc0 := 2) (pc' := 9) rfl (hb hby d1_2) rfl (tlt hc2_2).2.2.1 (by decide) (by decide) ?_
      show Steps p.tables e below (s₁.setTop (mkF m 9 #[.val (.int p1), .val (.int p2)] [])) _
      refine XS.iloadN X0.here hx rfl (hb hby d1_9) rfl ?_
      show Steps p.tables e below (s₁.setTop (mkF m 10 #[.val (.int p1), .val (.int p2)] [(.int p2)])) _
      exact kt
    refine OwnG.st sg3 ?_
    have hv : p2 = F1 p1 p2 := by simp only [F1, if_pos hc2_2]
    exact OwnG.retI X0 hx Bd.returns (BodyLoose.notSynchronized Bd) (hb hby d1_10) ⟨congrArg (fun w => some (Value.int w)) hv, N0, e0⟩ (by decide) (by decide)
  · have sg4 : ∀ tgt, Steps p.tables e below (s₁.setTop (mkF m 10 #[.val (.int p1), .val (.int p2)] [(.int p1)])) tgt → Steps p.tables e below (s₁.setTop (mkF m 2 #[.val (.int p1), .val (.int p2)] [(.int p2), (.int p1)])) tgt := by
      intro tgt kt
      refine XS.icmpNo X0.here hx rfl (hb hby d1_2) rfl (flt hc2_2).2.2.1 ?_
      show Steps p.tables e below (s₁.setTop (mkF m 5 #[.val (.int p1), .val (.int p2)] [])) _
      refine XS.iloadN X0.here hx rfl (hb hby d1_5) rfl ?_
      show Steps p.tables e below (s₁.setTop (mkF m 6 #[.val (.int p1), .val (.int p2)] [(.int p1)])) _
      refine XS.goto X0.here hx rfl (pc0 := 6) (pc' := 10) rfl (hb hby d1_6) (by decide) (by decide) ?_
      show Steps p.tables e below (s₁.setTop (mkF m 10 #[.val (.int p1), .val (.int p2)] [(.int p1)])) _
      exact kt
    refine OwnG.st sg4 ?_
    have hv : p1 = F1 p1 p2 := by simp only [F1, if_neg hc2_2]
    exact OwnG.retI X0 hx Bd.returns (BodyLoose.notSynchronized Bd) (hb hby d1_10) ⟨congrArg (fun w => some (Value.int w)) hv, N0, e0⟩ (by decide) (by decide)
theorem own_byt (x : Int64) (m : Nat) (hm : m < 8) : (x.toInt32.toInt8.toInt32).toBitVec.getLsbD m = x.toBitVec.getLsbD m := by
  rw [Int8.toBitVec_toInt32, Int32.toBitVec_toInt8, Int64.toBitVec_toInt32, BitVec.getLsbD_signExtend, BitVec.getLsbD_signExtend, BitVec.getLsbD_signExtend]
  simp [hm, show m < 32 by omega, show m < 64 by omega]
theorem own_hg (g : Nat → Int32) (a b : Int64) (h0 : g 0 = ((a.toUInt64 >>> ((56 : Int32) &&& 0x3f).toInt64.toUInt64).toInt64).toInt32.toInt8.toInt32) (h1 : g 1 = ((a.toUInt64 >>> ((48 : Int32) &&& 0x3f).toInt64.toUInt64).toInt64).toInt32.toInt8.toInt32) (h2 : g 2 = ((a.toUInt64 >>> ((40 : Int32) &&& 0x3f).toInt64.toUInt64).toInt64).toInt32.toInt8.toInt32) (h3 : g 3 = ((a.toUInt64 >>> ((32 : Int32) &&& 0x3f).toInt64.toUInt64).toInt64).toInt32.toInt8.toInt32) (h4 : g 4 = ((a.toUInt64 >>> ((24 : Int32) &&& 0x3f).toInt64.toUInt64).toInt64).toInt32.toInt8.toInt32) (h5 : g 5 = ((a.toUInt64 >>> ((16 : Int32) &&& 0x3f).toInt64.toUInt64).toInt64).toInt32.toInt8.toInt32) (h6 : g 6 = ((a.toUInt64 >>> ((8 : Int32) &&& 0x3f).toInt64.toUInt64).toInt64).toInt32.toInt8.toInt32) (h7 : g 7 = a.toInt32.toInt8.toInt32) (h8 : g 8 = ((b.toUInt64 >>> ((56 : Int32) &&& 0x3f).toInt64.toUInt64).toInt64).toInt32.toInt8.toInt32) (h9 : g 9 = ((b.toUInt64 >>> ((48 : Int32) &&& 0x3f).toInt64.toUInt64).toInt64).toInt32.toInt8.toInt32) (h10 : g 10 = ((b.toUInt64 >>> ((40 : Int32) &&& 0x3f).toInt64.toUInt64).toInt64).toInt32.toInt8.toInt32) (h11 : g 11 = ((b.toUInt64 >>> ((32 : Int32) &&& 0x3f).toInt64.toUInt64).toInt64).toInt32.toInt8.toInt32) (h12 : g 12 = ((b.toUInt64 >>> ((24 : Int32) &&& 0x3f).toInt64.toUInt64).toInt64).toInt32.toInt8.toInt32) (h13 : g 13 = ((b.toUInt64 >>> ((16 : Int32) &&& 0x3f).toInt64.toUInt64).toInt64).toInt32.toInt8.toInt32) (h14 : g 14 = ((b.toUInt64 >>> ((8 : Int32) &&& 0x3f).toInt64.toUInt64).toInt64).toInt32.toInt8.toInt32) (h15 : g 15 = b.toInt32.toInt8.toInt32) : ∀ t, t < 128 → own_B g t = (if t < 64 then a.toBitVec.getLsbD (63 - t) else b.toBitVec.getLsbD (127 - t)) := by
  intro t ht
  unfold own_B
  have c : t / 8 = 0 ∨ t / 8 = 1 ∨ t / 8 = 2 ∨ t / 8 = 3 ∨ t / 8 = 4 ∨ t / 8 = 5 ∨ t / 8 = 6 ∨ t / 8 = 7 ∨ t / 8 = 8 ∨ t / 8 = 9 ∨ t / 8 = 10 ∨ t / 8 = 11 ∨ t / 8 = 12 ∨ t / 8 = 13 ∨ t / 8 = 14 ∨ t / 8 = 15 := by omega
  rcases c with q | q | q | q | q | q | q | q | q | q | q | q | q | q | q | q
  · rw [q, h0, own_byt _ _ (by omega), own_lushr _ 56 56 (by decide), BitVec.getLsbD_ushiftRight, if_pos (by omega)]; congr 1; omega
  · rw [q, h1, own_byt _ _ (by omega), own_lushr _ 48 48 (by decide), BitVec.getLsbD_ushiftRight, if_pos (by omega)]; congr 1; omega
  · rw [q, h2, own_byt _ _ (by omega), own_lushr _ 40 40 (by decide), BitVec.getLsbD_ushiftRight, if_pos (by omega)]; congr 1; omega
  · rw [q, h3, own_byt _ _ (by omega), own_lushr _ 32 32 (by decide), BitVec.getLsbD_ushiftRight, if_pos (by omega)]; congr 1; omega
  · rw [q, h4, own_byt _ _ (by omega), own_lushr _ 24 24 (by decide), BitVec.getLsbD_ushiftRight, if_pos (by omega)]; congr 1; omega
  · rw [q, h5, own_byt _ _ (by omega), own_lushr _ 16 16 (by decide), BitVec.getLsbD_ushiftRight, if_pos (by omega)]; congr 1; omega
  · rw [q, h6, own_byt _ _ (by omega), own_lushr _ 8 8 (by decide), BitVec.getLsbD_ushiftRight, if_pos (by omega)]; congr 1; omega
  · rw [q, h7, own_byt _ _ (by omega), if_pos (by omega)]; congr 1; omega
  · rw [q, h8, own_byt _ _ (by omega), own_lushr _ 56 56 (by decide), BitVec.getLsbD_ushiftRight, if_neg (by omega)]; congr 1; omega
  · rw [q, h9, own_byt _ _ (by omega), own_lushr _ 48 48 (by decide), BitVec.getLsbD_ushiftRight, if_neg (by omega)]; congr 1; omega
  · rw [q, h10, own_byt _ _ (by omega), own_lushr _ 40 40 (by decide), BitVec.getLsbD_ushiftRight, if_neg (by omega)]; congr 1; omega
  · rw [q, h11, own_byt _ _ (by omega), own_lushr _ 32 32 (by decide), BitVec.getLsbD_ushiftRight, if_neg (by omega)]; congr 1; omega
  · rw [q, h12, own_byt _ _ (by omega), own_lushr _ 24 24 (by decide), BitVec.getLsbD_ushiftRight, if_neg (by omega)]; congr 1; omega
  · rw [q, h13, own_byt _ _ (by omega), own_lushr _ 16 16 (by decide), BitVec.getLsbD_ushiftRight, if_neg (by omega)]; congr 1; omega
  · rw [q, h14, own_byt _ _ (by omega), own_lushr _ 8 8 (by decide), BitVec.getLsbD_ushiftRight, if_neg (by omega)]; congr 1; omega
  · rw [q, h15, own_byt _ _ (by omega), if_neg (by omega)]; congr 1; omega
theorem own_mk : ∀ k : Fin 64, ∀ i : Fin 64, (((1 : Int64) <<< ((Int32.ofNat k.1) &&& 0x3f).toInt64) - (1 : Int64)).toBitVec.getLsbD i.1 = decide (i.1 < k.1) := by decide +kernel
theorem own_n32 (x : Int32) (k : Nat) (h : x.toInt = k) : x = Int32.ofNat k := by
  have q : x.toInt.toNat = k := by omega
  rw [← q]; exact (Int32.ofNat_toNatClampNeg x (by rw [Int32.le_iff_toInt_le]; show (0 : Int) ≤ _; omega)).symm
theorem own_ref (g : Nat → Int32) (a b : Int64) (st w : Int32) (S W : Nat) (hS : st.toInt = S) (hW : w.toInt = W) (hSW : S + W ≤ 128) (hW6 : W ≤ 63) (hg : ∀ t, t < 128 → own_B g t = (if t < 64 then a.toBitVec.getLsbD (63 - t) else b.toBitVec.getLsbD (127 - t))) : own_bits g S W = F5 a b st w := by
  have e1 := c_iadd st w
  have r1 := rng32 (st + w)
  have v1 : (st + w).toInt = S + W := by omega
  have e2 := c_isub 128 (st + w)
  have e128 : (128 : Int32).toInt = 128 := rfl
  have r2 := rng32 (128 - (st + w))
  have v2 : (128 - (st + w)).toInt = ((128 - S - W : Nat) : Int) := by omega
  have n2 := own_nat32 _ _ v2
  have e64 : (64 : Int32).toInt = 64 := rfl
  have e0 : (0 : Int32).toInt = 0 := rfl
  unfold F5
  by_cases cw : w = 0
  · rw [if_pos cw]
    rw [← Int32.toInt_inj, hW, e0] at cw
    rw [show W = 0 by omega]; rfl
  · rw [if_neg cw]
    rw [← Int32.toInt_inj, hW, e0] at cw
    apply Int64.toBitVec_inj.mp
    rw [Int64.toBitVec_and]
    show own_bv g S W = _
    apply BitVec.eq_of_getLsbD_eq
    intro i hi
    have hm : (((1 : Int64) <<< (w &&& 0x3f).toInt64) - (1 : Int64)).toBitVec.getLsbD i = decide (i < W) := by
      rw [own_n32 w W hW]; exact own_mk ⟨W, by omega⟩ ⟨i, hi⟩
    rw [own_gb g S W i (by omega), BitVec.getLsbD_and, hm]
    by_cases ci : i < W
    · rw [hg _ (by omega)]
      by_cases c1 : (128 - (st + w)) = (0 : Int32)
      · rw [if_pos c1]
        rw [← Int32.toInt_inj, v2, e0] at c1
        rw [if_neg (by omega), show 127 - (S + (W - 1 - i)) = i by omega]
        simp [ci]
      · rw [if_neg c1]
        rw [← Int32.toInt_inj, v2, e0] at c1
        by_cases c2 : (128 - (st + w)) < (64 : Int32)
        · rw [if_pos c2]
          rw [Int32.lt_iff_toInt_lt, v2, e64] at c2
          have e3 := c_isub 64 (128 - (st + w))
          have r3 := rng32 (64 - (128 - (st + w)))
          have v3 : (64 - (128 - (st + w))).toInt = ((64 - (128 - S - W) : Nat) : Int) := by omega
          have n3 := own_nat32 _ _ v3
          rw [Int64.toBitVec_or, BitVec.getLsbD_or, own_lushr _ _ (128 - S - W) (by rw [n2]; omega), own_lshl _ _ (64 - (128 - S - W)) (by rw [n3]; omega), BitVec.getLsbD_ushiftRight, BitVec.getLsbD_shiftLeft]
          by_cases c4 : S + (W - 1 - i) < 64
          · rw [if_pos c4, BitVec.getLsbD_of_ge b.toBitVec _ (by omega), show 63 - (S + (W - 1 - i)) = i - (64 - (128 - S - W)) by omega]
            simp [ci, hi, show ¬ i < 64 - (128 - S - W) by omega]
          · rw [if_neg c4, show 127 - (S + (W - 1 - i)) = 128 - S - W + i by omega]
            simp [ci, show i < 64 - (128 - S - W) by omega]
        · rw [if_neg c2]
          rw [Int32.lt_iff_toInt_lt, v2, e64] at c2
          have e3 := c_isub (128 - (st + w)) 64
          have r3 := rng32 ((128 - (st + w)) - 64)
          have v3 : ((128 - (st + w)) - 64).toInt = ((128 - S - W - 64 : Nat) : Int) := by omega
          have n3 := own_nat32 _ _ v3
          rw [own_lushr _ _ (128 - S - W - 64) (by rw [n3]; omega), BitVec.getLsbD_ushiftRight, if_pos (by omega), show 63 - (S + (W - 1 - i)) = 128 - S - W - 64 + i by omega]
          simp [ci]
    · simp [ci]
theorem own_m63 (x : Int32) : 0 ≤ (x &&& (63 : Int32)).toInt ∧ (x &&& (63 : Int32)).toInt ≤ 63 := by
  have h := c_mask x 63 6 (by decide) (by decide)
  omega
theorem own_st (x y s : Int32) (hx : 0 ≤ x.toInt ∧ x.toInt ≤ 63) (hy : 0 ≤ y.toInt ∧ y.toInt ≤ 63) (hs : s = x + y) : s.toInt = x.toInt + y.toInt := by
  have h := c_iadd x y
  have r := rng32 (x + y)
  rw [hs]; omega
theorem own_w (x s w : Int32) (hs : 0 ≤ s.toInt ∧ s.toInt ≤ 126) (hw : w = F1 (x &&& (63 : Int32)) ((128 : Int32) - s)) : 0 ≤ w.toInt ∧ w.toInt ≤ 63 ∧ s.toInt + w.toInt ≤ 128 := by
  have h := own_m63 x
  have e := c_isub 128 s
  have e128 : (128 : Int32).toInt = 128 := rfl
  have r := rng32 (128 - s)
  rw [hw]
  unfold F1
  by_cases c : ((128 : Int32) - s) < (x &&& (63 : Int32))
  · rw [if_pos c]; rw [Int32.lt_iff_toInt_lt] at c; omega
  · rw [if_neg c]; rw [Int32.lt_iff_toInt_lt] at c; omega
theorem pn_0 : plainName "com/example/ubicacion/ubicacion/lmf/ReaderBitsPinLaw" = true := by first | (simp [plainName, overriddenIn]; done) | decide +kernel
theorem pd_0_0 : parseMethodDescriptor "(II)I" = some ⟨[.int, .int], some .int⟩ := by decide +kernel
theorem pd_0_1 : parseMethodDescriptor "([B)V" = some ⟨[(.array .byte)], none⟩ := by decide +kernel
theorem pd_0_2 : parseMethodDescriptor "(I)J" = some ⟨[.int], some .long⟩ := by decide +kernel
theorem pd_0_3 : parseMethodDescriptor "(JJII)J" = some ⟨[.long, .long, .int, .int], some .long⟩ := by decide +kernel
theorem ef_0 (m : MethodId) (q1 : Int64) (q2 : Int64) (p3 : Int32) (p4 : Int32) (p5 : Int32) : entryFrame m #[(.long q1), (.long q2), (.int p3), (.int p4), (.int p5)] maxLocals = mkF m 0 #[.val (.long q1), .second, .val (.long q2), .second, .val (.int p3), .val (.int p4), .val (.int p5), .unset, .unset, .unset, .unset, .unset, .unset, .unset, .unset, .unset, .unset, .unset, .unset] [] := by first | (simp [entryFrame, mkF, argsToLocals, Value.category, maxLocals]; done) | rfl
def Q0 (Z : State) (q1 : Int64) (q2 : Int64) (p3 : Int32) (p4 : Int32) (p5 : Int32) (h0 : Heap) (n0 : Nat) (v : Option Value) (h : Heap) (L : List Loc) : Prop := v = some (.int 1) ∧ Fr n0 L
set_option maxRecDepth 65536 in
set_option maxHeartbeats 40000000 in
theorem rm0 (l : Launch) (Z : State) (a0 : Array Value) (hw : ∀ d ∈ tables_1, d.before a0 Z = true) (ws : List Jvm.Cond) (q1 : Int64) (q2 : Int64) (p3 : Int32) (p4 : Int32) (p5 : Int32)  (h0 : Heap) (n0 : Nat) (Z0 : n0 ≤ h0.size)  :
    MetFree l x (head1 (Jvm.Cond.code x code maxLocals ret :: ws) room_1) (fun a U => a = #[(.long q1), (.long q2), (.int p3), (.int p4), (.int p5)] ∧ Z.Warmed39 U.vm ∧ U.heap = h0) (fun _ _ _ _ _ => True) (fun _ U o U' => ∃ v L, o = .returned v ∧ Q0 Z q1 q2 p3 p4 p5 h0 n0 v U'.heap L ∧ FrameEnd U o U' L room_1.cells room_1.slots) := by
  refine MetFree.of_bodySF (plainFor_of_name pn_0) hisR ?_
  intro p e s m args below meth c s₁ Bd hml0 hP hK
  obtain ⟨rfl, hZ, hh⟩ := hP
  have hx := Bd.exec
  have hby := Bd.bytes
  have hml : c.maxLocals = 19 := hml0
  have hown : s.vm.findClass "com/example/ubicacion/ubicacion/lmf/ReaderBitsPinLaw" = some m.cls := findClass_of_methodNamed Bd.named
  have hnm := (name_of_methodNamed Bd.named Bd.method).1
  have X0 : Stand p l e room_1 s m #[(.long q1), (.long q2), (.int p3), (.int p4), (.int p5)] below meth c s₁ [] 0 0 := Stand.of_body Bd
  have e0 : s₁.heap = h0 := by rw [← hh, Bd.state]; rfl
  have N0 := Fr.nil n0
  suffices hG : OwnG p e below s (Q0 Z q1 q2 p3 p4 p5 h0 n0) room_1.cells room_1.slots s₁ (mkF m 0 #[.val (.long q1), .second, .val (.long q2), .second, .val (.int p3), .val (.int p4), .val (.int p5), .unset, .unset, .unset, .unset, .unset, .unset, .unset, .unset, .unset, .unset, .unset, .unset] []) by
    obtain ⟨s2, o2, g1, g2⟩ := hG
    exact ⟨s2, o2, castTop (ef_0 m q1 q2 p3 p4 p5) g1, g2⟩
  have sg1 : ∀ tgt, Steps p.tables e below (s₁.setTop (mkF m 2 #[.val (.long q1), .second, .val (.long q2), .second, .val (.int p3), .val (.int p4), .val (.int p5), .unset, .unset, .unset, .unset, .unset, .unset, .unset, .unset, .unset, .unset, .unset, .unset] [(.int (16 : Int32))])) tgt → Steps p.tables e below (s₁.setTop (mkF m 0 #[.val (.long q1), .second, .val (.long q2), .second, .val (.int p3), .val (.int p4), .val (.int p5), .unset, .unset, .unset, .unset, .unset, .unset, .unset, .unset, .unset, .unset, .unset, .unset] [])) tgt := by
    intro tgt kt
    refine XS.bipush X0.here hx rfl (hb hby at_0) ?_
    show Steps p.tables e below (s₁.setTop (mkF m 2 #[.val (.long q1), .second, .val (.long q2), .second, .val (.int p3), .val (.int p4), .val (.int p5), .unset, .unset, .unset, .unset, .unset, .unset, .unset, .unset, .unset, .unset, .unset, .unset] [(.int (16 : Int32))])) _
    exact kt
  refine OwnG.st sg1 ?_
  obtain ⟨T2, h2, k2, X2, e2, E2, A2, st2⟩ := newP X0 hx hZ (hw _ (List.mem_of_getElem? (i := 0) rfl)) e0 (g := (mkF m 2 #[.val (.long q1), .second, .val (.long q2), .second, .val (.int p3), .val (.int p4), .val (.int p5), .unset, .unset, .unset, .unset, .unset, .unset, .unset, .unset, .unset, .unset, .unset, .unset] [(.int (16 : Int32))])) rfl (hb hby at_2) rfl (by decide) (cap := 16) (by decide) (by decide) (by decide) (by decide)
  obtain ⟨b2, g2⟩ : ∃ z, z = h0.size := ⟨_, rfl⟩
  rw [← g2] at A2 st2
  have V2 : OwnA Z h2 b2 .byte 16 (iv' fun _ => 0) := own_newA A2 (by decide)
  have gb_b2 : n0 ≤ b2 := Nat.le_trans Z0 (Nat.le_of_eq g2.symm)
  have Z2 : n0 ≤ h2.size := Nat.le_trans Z0 E2.1
  have X2 : Stand p l e room_1 s m #[(.long q1), (.long q2), (.int p3), (.int p4), (.int p5)] below meth c T2 _ 1 16 := X2
  refine OwnG.st st2 ?_
  show OwnG p e below s _ _ _ T2 (mkF m 4 #[.val (.long q1), .second, .val (.long q2), .second, .val (.int p3), .val (.int p4), .val (.int p5), .unset, .unset, .unset, .unset, .unset, .unset, .unset, .unset, .unset, .unset, .unset, .unset] [(.ref b2)])
  have sg3 : ∀ tgt, Steps p.tables e below (T2.setTop (mkF m 15 #[.val (.long q1), .second, .val (.long q2), .second, .val (.int p3), .val (.int p4), .val (.int p5), .val (.ref b2), .unset, .unset, .unset, .unset, .unset, .unset, .unset, .unset, .unset, .unset, .unset] [(.int ((((q1.toUInt64 >>> ((56 : Int32) &&& 0x3f).toInt64.toUInt64).toInt64).toInt32).toInt8.toInt32)), (.int (0 : Int32)), (.ref b2)])) tgt → Steps p.tables e below (T2.setTop (mkF m 4 #[.val (.long q1), .second, .val (.long q2), .second, .val (.int p3), .val (.int p4), .val (.int p5), .unset, .unset, .unset, .unset, .unset, .unset, .unset, .unset, .unset, .unset, .unset, .unset] [(.ref b2)])) tgt := by
    intro tgt kt
    refine XS.astore X2.here hx rfl (hb hby at_4) rfl rfl (l' := #[.val (.long q1), .second, .val (.long q2), .second, .val (.int p3), .val (.int p4), .val (.int p5), .val (.ref b2), .unset, .unset, .unset, .unset, .unset, .unset, .unset, .unset, .unset, .unset, .unset]) rfl ?_
    show Steps p.tables e below (T2.setTop (mkF m 6 #[.val (.long q1), .second, .val (.long q2), .second, .val (.int p3), .val (.int p4), .val (.int p5), .val (.ref b2), .unset, .unset, .unset, .unset, .unset, .unset, .unset, .unset, .unset, .unset, .unset] [])) _
    refine XS.aload X2.here hx rfl (hb hby at_6) rfl rfl ?_
    show Steps p.tables e below (T2.setTop (mkF m 8 #[.val (.long q1), .second, .val (.long q2), .second, .val (.int p3), .val (.int p4), .val (.int p5), .val (.ref b2), .unset, .unset, .unset, .unset, .unset, .unset, .unset, .unset, .unset, .unset, .unset] [(.ref b2)])) _
    refine XS.iconst X2.here hx rfl (hb hby at_8) ?_
    show Steps p.tables e below (T2.setTop (mkF m 9 #[.val (.long q1), .second, .val (.long q2), .second, .val (.int p3), .val (.int p4), .val (.int p5), .val (.ref b2), .unset, .unset, .unset, .unset, .unset, .unset, .unset, .unset, .unset, .unset, .unset] [(.int (0 : Int32)), (.ref b2)])) _
    refine XS.lloadN X2.here hx rfl (hb hby at_9) rfl ?_
    show Steps p.tables e below (T2.setTop (mkF m 10 #[.val (.long q1), .second, .val (.long q2), .second, .val (.int p3), .val (.int p4), .val (.int p5), .val (.ref b2), .unset, .unset, .unset, .unset, .unset, .unset, .unset, .unset, .unset, .unset, .unset] [(.long q1), (.int (0 : Int32)), (.ref b2)])) _
    refine XS.bipush X2.here hx rfl (hb hby at_10) ?_
    show Steps p.tables e below (T2.setTop (mkF m 12 #[.val (.long q1), .second, .val (.long q2), .second, .val (.int p3), .val (.int p4), .val (.int p5), .val (.ref b2), .unset, .unset, .unset, .unset, .unset, .unset, .unset, .unset, .unset, .unset, .unset] [(.int (56 : Int32)), (.long q1), (.int (0 : Int32)), (.ref b2)])) _
    refine XS.lushr X2.here hx rfl (hb hby at_12) rfl ?_
    show Steps p.tables e below (T2.setTop (mkF m 13 #[.val (.long q1), .second, .val (.long q2), .second, .val (.int p3), .val (.int p4), .val (.int p5), .val (.ref b2), .unset, .unset, .unset, .unset, .unset, .unset, .unset, .unset, .unset, .unset, .unset] [(.long ((q1.toUInt64 >>> ((56 : Int32) &&& 0x3f).toInt64.toUInt64).toInt64)), (.int (0 : Int32)), (.ref b2)])) _
    refine XS.l2i X2.here hx rfl (hb hby at_13) rfl ?_
    show Steps p.tables e below (T2.setTop (mkF m 14 #[.val (.long q1), .second, .val (.long q2), .second, .val (.int p3), .val (.int p4), .val (.int p5), .val (.ref b2), .unset, .unset, .unset, .unset, .unset, .unset, .unset, .unset, .unset, .unset, .unset] [(.int (((q1.toUInt64 >>> ((56 : Int32) &&& 0x3f).toInt64.toUInt64).toInt64).toInt32)), (.int (0 : Int32)), (.ref b2)])) _
    refine XS.i2b X2.here hx rfl (hb hby at_14) rfl ?_
    show Steps p.tables e below (T2.setTop (mkF m 15 #[.val (.long q1), .second, .val (.long q2), .second, .val (.int p3), .val (.int p4), .val (.int p5), .val (.ref b2), .unset, .unset, .unset, .unset, .unset, .unset, .unset, .unset, .unset, .unset, .unset] [(.int ((((q1.toUInt64 >>> ((56 : Int32) &&& 0x3f).toInt64.toUInt64).toInt64).toInt32).toInt8.toInt32)), (.int (0 : Int32)), (.ref b2)])) _
    exact kt
  refine OwnG.st sg3 ?_
  obtain ⟨T4, h4, X4, e4, W4, V4, st4⟩ := own_stB V2 X2 hx hZ e2 (by decide) (by decide) (gf := (mkF m 15 #[.val (.long q1), .second, .val (.long q2), .second, .val (.int p3), .val (.int p4), .val (.int p5), .val (.ref b2), .unset, .unset, .unset, .unset, .unset, .unset, .unset, .unset, .unset, .unset, .unset] [(.int ((((q1.toUInt64 >>> ((56 : Int32) &&& 0x3f).toInt64.toUInt64).toInt64).toInt32).toInt8.toInt32)), (.int (0 : Int32)), (.ref b2)])) rfl rfl (hb hby at_15)
  have V4' : OwnA Z h4 b2 .byte 16 (iv' (updv (fun _ => 0) 0 ((((q1.toUInt64 >>> ((56 : Int32) &&& 0x3f).toInt64.toUInt64).toInt64).toInt32).toInt8.toInt32))) := by have q := V4; rw [Int8.toInt8_toInt32] at q; exact q
  obtain ⟨gs4, hgs4⟩ : ∃ g : Nat → Int32, g = (updv (fun _ => 0) 0 ((((q1.toUInt64 >>> ((56 : Int32) &&& 0x3f).toInt64.toUInt64).toInt64).toInt32).toInt8.toInt32)) := ⟨_, rfl⟩
  have Vg4 : OwnA Z h4 b2 .byte 16 (iv' gs4) := by rw [hgs4]; exact V4'
  have N4 := Fr.snoc X4 N0 gb_b2
  have Z4 : n0 ≤ h4.size := by rw [W4.size]; exact Z2
  refine OwnG.st st4 ?_
  show OwnG p e below s _ _ _ T4 (mkF m 16 #[.val (.long q1), .second, .val (.long q2), .second, .val (.int p3), .val (.int p4), .val (.int p5), .val (.ref b2), .unset, .unset, .unset, .unset, .unset, .unset, .unset, .unset, .unset, .unset, .unset] [])
  have sg5 : ∀ tgt, Steps p.tables e below (T4.setTop (mkF m 25 #[.val (.long q1), .second, .val (.long q2), .second, .val (.int p3), .val (.int p4), .val (.int p5), .val (.ref b2), .unset, .unset, .unset, .unset, .unset, .unset, .unset, .unset, .unset, .unset, .unset] [(.int ((((q1.toUInt64 >>> ((48 : Int32) &&& 0x3f).toInt64.toUInt64).toInt64).toInt32).toInt8.toInt32)), (.int (1 : Int32)), (.ref b2)])) tgt → Steps p.tables e below (T4.setTop (mkF m 16 #[.val (.long q1), .second, .val (.long q2), .second, .val (.int p3), .val (.int p4), .val (.int p5), .val (.ref b2), .unset, .unset, .unset, .unset, .unset, .unset, .unset, .unset, .unset, .unset, .unset] [])) tgt := by
    intro tgt kt
    refine XS.aload X4.here hx rfl (hb hby at_16) rfl rfl ?_
    show Steps p.tables e below (T4.setTop (mkF m 18 #[.val (.long q1), .second, .val (.long q2), .second, .val (.int p3), .val (.int p4), .val (.int p5), .val (.ref b2), .unset, .unset, .unset, .unset, .unset, .unset, .unset, .unset, .unset, .unset, .unset] [(.ref b2)])) _
    refine XS.iconst X4.here hx rfl (hb hby at_18) ?_
    show Steps p.tables e below (T4.setTop (mkF m 19 #[.val (.long q1), .second, .val (.long q2), .second, .val (.int p3), .val (.int p4), .val (.int p5), .val (.ref b2), .unset, .unset, .unset, .unset, .unset, .unset, .unset, .unset, .unset, .unset, .unset] [(.int (1 : Int32)), (.ref b2)])) _
    refine XS.lloadN X4.here hx rfl (hb hby at_19) rfl ?_
    show Steps p.tables e below (T4.setTop (mkF m 20 #[.val (.long q1), .second, .val (.long q2), .second, .val (.int p3), .val (.int p4), .val (.int p5), .val (.ref b2), .unset, .unset, .unset, .unset, .unset, .unset, .unset, .unset, .unset, .unset, .unset] [(.long q1), (.int (1 : Int32)), (.ref b2)])) _
    refine XS.bipush X4.here hx rfl (hb hby at_20) ?_
    show Steps p.tables e below (T4.setTop (mkF m 22 #[.val (.long q1), .second, .val (.long q2), .second, .val (.int p3), .val (.int p4), .val (.int p5), .val (.ref b2), .unset, .unset, .unset, .unset, .unset, .unset, .unset, .unset, .unset, .unset, .unset] [(.int (48 : Int32)), (.long q1), (.int (1 : Int32)), (.ref b2)])) _
    refine XS.lushr X4.here hx rfl (hb hby at_22) rfl ?_
    show Steps p.tables e below (T4.setTop (mkF m 23 #[.val (.long q1), .second, .val (.long q2), .second, .val (.int p3), .val (.int p4), .val (.int p5), .val (.ref b2), .unset, .unset, .unset, .unset, .unset, .unset, .unset, .unset, .unset, .unset, .unset] [(.long ((q1.toUInt64 >>> ((48 : Int32) &&& 0x3f).toInt64.toUInt64).toInt64)), (.int (1 : Int32)), (.ref b2)])) _
    refine XS.l2i X4.here hx rfl (hb hby at_23) rfl ?_
    show Steps p.tables e below (T4.setTop (mkF m 24 #[.val (.long q1), .second, .val (.long q2), .second, .val (.int p3), .val (.int p4), .val (.int p5), .val (.ref b2), .unset, .unset, .unset, .unset, .unset, .unset, .unset, .unset, .unset, .unset, .unset] [(.int (((q1.toUInt64 >>> ((48 : Int32) &&& 0x3f).toInt64.toUInt64).toInt64).toInt32)), (.int (1 : Int32)), (.ref b2)])) _
    refine XS.i2b X4.here hx rfl (hb hby at_24) rfl ?_
    show Steps p.tables e below (T4.setTop (mkF m 25 #[.val (.long q1), .second, .val (.long q2), .second, .val (.int p3), .val (.int p4), .val (.int p5), .val (.ref b2), .unset, .unset, .unset, .unset, .unset, .unset, .unset, .unset, .unset, .unset, .unset] [(.int ((((q1.toUInt64 >>> ((48 : Int32) &&& 0x3f).toInt64.toUInt64).toInt64).toInt32).toInt8.toInt32)), (.int (1 : Int32)), (.ref b2)])) _
    exact kt
  refine OwnG.st sg5 ?_
  obtain ⟨T6, h6, X6, e6, W6, V6, st6⟩ := own_stB Vg4 X4 hx hZ e4 (by decide) (by decide) (gf := (mkF m 25 #[.val (.long q1), .second, .val (.long q2), .second, .val (.int p3), .val (.int p4), .val (.int p5), .val (.ref b2), .unset, .unset, .unset, .unset, .unset, .unset, .unset, .unset, .unset, .unset, .unset] [(.int ((((q1.toUInt64 >>> ((48 : Int32) &&& 0x3f).toInt64.toUInt64).toInt64).toInt32).toInt8.toInt32)), (.int (1 : Int32)), (.ref b2)])) rfl rfl (hb hby at_25)
  have V6' : OwnA Z h6 b2 .byte 16 (iv' (updv gs4 1 ((((q1.toUInt64 >>> ((48 : Int32) &&& 0x3f).toInt64.toUInt64).toInt64).toInt32).toInt8.toInt32))) := by have q := V6; rw [Int8.toInt8_toInt32] at q; exact q
  obtain ⟨gs6, hgs6⟩ : ∃ g : Nat → Int32, g = (updv gs4 1 ((((q1.toUInt64 >>> ((48 : Int32) &&& 0x3f).toInt64.toUInt64).toInt64).toInt32).toInt8.toInt32)) := ⟨_, rfl⟩
  have Vg6 : OwnA Z h6 b2 .byte 16 (iv' gs6) := by rw [hgs6]; exact V6'
  have N6 := Fr.snoc X6 N4 gb_b2
  have Z6 : n0 ≤ h6.size := by rw [W6.size]; exact Z4
  refine OwnG.st st6 ?_
  show OwnG p e below s _ _ _ T6 (mkF m 26 #[.val (.long q1), .second, .val (.long q2), .second, .val (.int p3), .val (.int p4), .val (.int p5), .val (.ref b2), .unset, .unset, .unset, .unset, .unset, .unset, .unset, .unset, .unset, .unset, .unset] [])
  have sg7 : ∀ tgt, Steps p.tables e below (T6.setTop (mkF m 35 #[.val (.long q1), .second, .val (.long q2), .second, .val (.int p3), .val (.int p4), .val (.int p5), .val (.ref b2), .unset, .unset, .unset, .unset, .unset, .unset, .unset, .unset, .unset, .unset, .unset] [(.int ((((q1.toUInt64 >>> ((40 : Int32) &&& 0x3f).toInt64.toUInt64).toInt64).toInt32).toInt8.toInt32)), (.int (2 : Int32)), (.ref b2)])) tgt → Steps p.tables e below (T6.setTop (mkF m 26 #[.val (.long q1), .second, .val (.long q2), .second, .val (.int p3), .val (.int p4), .val (.int p5), .val (.ref b2), .unset, .unset, .unset, .unset, .unset, .unset, .unset, .unset, .unset, .unset, .unset] [])) tgt := by
    intro tgt kt
    refine XS.aload X6.here hx rfl (hb hby at_26) rfl rfl ?_
    show Steps p.tables e below (T6.setTop (mkF m 28 #[.val (.long q1), .second, .val (.long q2), .second, .val (.int p3), .val (.int p4), .val (.int p5), .val (.ref b2), .unset, .unset, .unset, .unset, .unset, .unset, .unset, .unset, .unset, .unset, .unset] [(.ref b2)])) _
    refine XS.iconst X6.here hx rfl (hb hby at_28) ?_
    show Steps p.tables e below (T6.setTop (mkF m 29 #[.val (.long q1), .second, .val (.long q2), .second, .val (.int p3), .val (.int p4), .val (.int p5), .val (.ref b2), .unset, .unset, .unset, .unset, .unset, .unset, .unset, .unset, .unset, .unset, .unset] [(.int (2 : Int32)), (.ref b2)])) _
    refine XS.lloadN X6.here hx rfl (hb hby at_29) rfl ?_
    show Steps p.tables e below (T6.setTop (mkF m 30 #[.val (.long q1), .second, .val (.long q2), .second, .val (.int p3), .val (.int p4), .val (.int p5), .val (.ref b2), .unset, .unset, .unset, .unset, .unset, .unset, .unset, .unset, .unset, .unset, .unset] [(.long q1), (.int (2 : Int32)), (.ref b2)])) _
    refine XS.bipush X6.here hx rfl (hb hby at_30) ?_
    show Steps p.tables e below (T6.setTop (mkF m 32 #[.val (.long q1), .second, .val (.long q2), .second, .val (.int p3), .val (.int p4), .val (.int p5), .val (.ref b2), .unset, .unset, .unset, .unset, .unset, .unset, .unset, .unset, .unset, .unset, .unset] [(.int (40 : Int32)), (.long q1), (.int (2 : Int32)), (.ref b2)])) _
    refine XS.lushr X6.here hx rfl (hb hby at_32) rfl ?_
    show Steps p.tables e below (T6.setTop (mkF m 33 #[.val (.long q1), .second, .val (.long q2), .second, .val (.int p3), .val (.int p4), .val (.int p5), .val (.ref b2), .unset, .unset, .unset, .unset, .unset, .unset, .unset, .unset, .unset, .unset, .unset] [(.long ((q1.toUInt64 >>> ((40 : Int32) &&& 0x3f).toInt64.toUInt64).toInt64)), (.int (2 : Int32)), (.ref b2)])) _
    refine XS.l2i X6.here hx rfl (hb hby at_33) rfl ?_
    show Steps p.tables e below (T6.setTop (mkF m 34 #[.val (.long q1), .second, .val (.long q2), .second, .val (.int p3), .val (.int p4), .val (.int p5), .val (.ref b2), .unset, .unset, .unset, .unset, .unset, .unset, .unset, .unset, .unset, .unset, .unset] [(.int (((q1.toUInt64 >>> ((40 : Int32) &&& 0x3f).toInt64.toUInt64).toInt64).toInt32)), (.int (2 : Int32)), (.ref b2)])) _
    refine XS.i2b X6.here hx rfl (hb hby at_34) rfl ?_
    show Steps p.tables e below (T6.setTop (mkF m 35 #[.val (.long q1), .second, .val (.long q2), .second, .val (.int p3), .val (.int p4), .val (.int p5), .val (.ref b2), .unset, .unset, .unset, .unset, .unset, .unset, .unset, .unset, .unset, .unset, .unset] [(.int ((((q1.toUInt64 >>> ((40 : Int32) &&& 0x3f).toInt64.toUInt64).toInt64).toInt32).toInt8.toInt32)), (.int (2 : Int32)), (.ref b2)])) _
    exact kt
  refine OwnG.st sg7 ?_
  obtain ⟨T8, h8, X8, e8, W8, V8, st8⟩ := own_stB Vg6 X6 hx hZ e6 (by decide) (by decide) (gf := (mkF m 35 #[.val (.long q1), .second, .val (.long q2), .second, .val (.int p3), .val (.int p4), .val (.int p5), .val (.ref b2), .unset, .unset, .unset, .unset, .unset, .unset, .unset, .unset, .unset, .unset, .unset] [(.int ((((q1.toUInt64 >>> ((40 : Int32) &&& 0x3f).toInt64.toUInt64).toInt64).toInt32).toInt8.toInt32)), (.int (2 : Int32)), (.ref b2)])) rfl rfl (hb hby at_35)
  have V8' : OwnA Z h8 b2 .byte 16 (iv' (updv gs6 2 ((((q1.toUInt64 >>> ((40 : Int32) &&& 0x3f).toInt64.toUInt64).toInt64).toInt32).toInt8.toInt32))) := by have q := V8; rw [Int8.toInt8_toInt32] at q; exact q
  obtain ⟨gs8, hgs8⟩ : ∃ g : Nat → Int32, g = (updv gs6 2 ((((q1.toUInt64 >>> ((40 : Int32) &&& 0x3f).toInt64.toUInt64).toInt64).toInt32).toInt8.toInt32)) := ⟨_, rfl⟩
  have Vg8 : OwnA Z h8 b2 .byte 16 (iv' gs8) := by rw [hgs8]; exact V8'
  have N8 := Fr.snoc X8 N6 gb_b2
  have Z8 : n0 ≤ h8.size := by rw [W8.size]; exact Z6
  refine OwnG.st st8 ?_
  show OwnG p e below s _ _ _ T8 (mkF m 36 #[.val (.long q1), .second, .val (.long q2), .second, .val (.int p3), .val (.int p4), .val (.int p5), .val (.ref b2), .unset, .unset, .unset, .unset, .unset, .unset, .unset, .unset, .unset, .unset, .unset] [])
  have sg9 : ∀ tgt, Steps p.tables e below (T8.setTop (mkF m 45 #[.val (.long q1), .second, .val (.long q2), .second, .val (.int p3), .val (.int p4), .val (.int p5), .val (.ref b2), .unset, .unset, .unset, .unset, .unset, .unset, .unset, .unset, .unset, .unset, .unset] [(.int ((((q1.toUInt64 >>> ((32 : Int32) &&& 0x3f).toInt64.toUInt64).toInt64).toInt32).toInt8.toInt32)), (.int (3 : Int32)), (.ref b2)])) tgt → Steps p.tables e below (T8.setTop (mkF m 36 #[.val (.long q1), .second, .val (.long q2), .second, .val (.int p3), .val (.int p4), .val (.int p5), .val (.ref b2), .unset, .unset, .unset, .unset, .unset, .unset, .unset, .unset, .unset, .unset, .unset] [])) tgt := by
    intro tgt kt
    refine XS.aload X8.here hx rfl (hb hby at_36) rfl rfl ?_
    show Steps p.tables e below (T8.setTop (mkF m 38 #[.val (.long q1), .second, .val (.long q2), .second, .val (.int p3), .val (.int p4), .val (.int p5), .val (.ref b2), .unset, .unset, .unset, .unset, .unset, .unset, .unset, .unset, .unset, .unset, .unset] [(.ref b2)])) _
    refine XS.iconst X8.here hx rfl (hb hby at_38) ?_
    show Steps p.tables e below (T8.setTop (mkF m 39 #[.val (.long q1), .second, .val (.long q2), .second, .val (.int p3), .val (.int p4), .val (.int p5), .val (.ref b2), .unset, .unset, .unset, .unset, .unset, .unset, .unset, .unset, .unset, .unset, .unset] [(.int (3 : Int32)), (.ref b2)])) _
    refine XS.lloadN X8.here hx rfl (hb hby at_39) rfl ?_
    show Steps p.tables e below (T8.setTop (mkF m 40 #[.val (.long q1), .second, .val (.long q2), .second, .val (.int p3), .val (.int p4), .val (.int p5), .val (.ref b2), .unset, .unset, .unset, .unset, .unset, .unset, .unset, .unset, .unset, .unset, .unset] [(.long q1), (.int (3 : Int32)), (.ref b2)])) _
    refine XS.bipush X8.here hx rfl (hb hby at_40) ?_
    show Steps p.tables e below (T8.setTop (mkF m 42 #[.val (.long q1), .second, .val (.long q2), .second, .val (.int p3), .val (.int p4), .val (.int p5), .val (.ref b2), .unset, .unset, .unset, .unset, .unset, .unset, .unset, .unset, .unset, .unset, .unset] [(.int (32 : Int32)), (.long q1), (.int (3 : Int32)), (.ref b2)])) _
    refine XS.lushr X8.here hx rfl (hb hby at_42) rfl ?_
    show Steps p.tables e below (T8.setTop (mkF m 43 #[.val (.long q1), .second, .val (.long q2), .second, .val (.int p3), .val (.int p4), .val (.int p5), .val (.ref b2), .unset, .unset, .unset, .unset, .unset, .unset, .unset, .unset, .unset, .unset, .unset] [(.long ((q1.toUInt64 >>> ((32 : Int32) &&& 0x3f).toInt64.toUInt64).toInt64)), (.int (3 : Int32)), (.ref b2)])) _
    refine XS.l2i X8.here hx rfl (hb hby at_43) rfl ?_
    show Steps p.tables e below (T8.setTop (mkF m 44 #[.val (.long q1), .second, .val (.long q2), .second, .val (.int p3), .val (.int p4), .val (.int p5), .val (.ref b2), .unset, .unset, .unset, .unset, .unset, .unset, .unset, .unset, .unset, .unset, .unset] [(.int (((q1.toUInt64 >>> ((32 : Int32) &&& 0x3f).toInt64.toUInt64).toInt64).toInt32)), (.int (3 : Int32)), (.ref b2)])) _
    refine XS.i2b X8.here hx rfl (hb hby at_44) rfl ?_
    show Steps p.tables e below (T8.setTop (mkF m 45 #[.val (.long q1), .second, .val (.long q2), .second, .val (.int p3), .val (.int p4), .val (.int p5), .val (.ref b2), .unset, .unset, .unset, .unset, .unset, .unset, .unset, .unset, .unset, .unset, .unset] [(.int ((((q1.toUInt64 >>> ((32 : Int32) &&& 0x3f).toInt64.toUInt64).toInt64).toInt32).toInt8.toInt32)), (.int (3 : Int32)), (.ref b2)])) _
    exact kt
  refine OwnG.st sg9 ?_
  obtain ⟨T10, h10, X10, e10, W10, V10, st10⟩ := own_stB Vg8 X8 hx hZ e8 (by decide) (by decide) (gf := (mkF m 45 #[.val (.long q1), .second, .val (.long q2), .second, .val (.int p3), .val (.int p4), .val (.int p5), .val (.ref b2), .unset, .unset, .unset, .unset, .unset, .unset, .unset, .unset, .unset, .unset, .unset] [(.int ((((q1.toUInt64 >>> ((32 : Int32) &&& 0x3f).toInt64.toUInt64).toInt64).toInt32).toInt8.toInt32)), (.int (3 : Int32)), (.ref b2)])) rfl rfl (hb hby at_45)
  have V10' : OwnA Z h10 b2 .byte 16 (iv' (updv gs8 3 ((((q1.toUInt64 >>> ((32 : Int32) &&& 0x3f).toInt64.toUInt64).toInt64).toInt32).toInt8.toInt32))) := by have q := V10; rw [Int8.toInt8_toInt32] at q; exact q
  obtain ⟨gs10, hgs10⟩ : ∃ g : Nat → Int32, g = (updv gs8 3 ((((q1.toUInt64 >>> ((32 : Int32) &&& 0x3f).toInt64.toUInt64).toInt64).toInt32).toInt8.toInt32)) := ⟨_, rfl⟩
  have Vg10 : OwnA Z h10 b2 .byte 16 (iv' gs10) := by rw [hgs10]; exact V10'
  have N10 := Fr.snoc X10 N8 gb_b2
  have Z10 : n0 ≤ h10.size := by rw [W10.size]; exact Z8
  refine OwnG.st st10 ?_
  show OwnG p e below s _ _ _ T10 (mkF m 46 #[.val (.long q1), .second, .val (.long q2), .second, .val (.int p3), .val (.int p4), .val (.int p5), .val (.ref b2), .unset, .unset, .unset, .unset, .unset, .unset, .unset, .unset, .unset, .unset, .unset] [])
  have sg11 : ∀ tgt, Steps p.tables e below (T10.setTop (mkF m 55 #[.val (.long q1), .second, .val (.long q2), .second, .val (.int p3), .val (.int p4), .val (.int p5), .val (.ref b2), .unset, .unset, .unset, .unset, .unset, .unset, .unset, .unset, .unset, .unset, .unset] [(.int ((((q1.toUInt64 >>> ((24 : Int32) &&& 0x3f).toInt64.toUInt64).toInt64).toInt32).toInt8.toInt32)), (.int (4 : Int32)), (.ref b2)])) tgt → Steps p.tables e below (T10.setTop (mkF m 46 #[.val (.long q1), .second, .val (.long q2), .second, .val (.int p3), .val (.int p4), .val (.int p5), .val (.ref b2), .unset, .unset, .unset, .unset, .unset, .unset, .unset, .unset, .unset, .unset, .unset] [])) tgt := by
    intro tgt kt
    refine XS.aload X10.here hx rfl (hb hby at_46) rfl rfl ?_
    show Steps p.tables e below (T10.setTop (mkF m 48 #[.val (.long q1), .second, .val (.long q2), .second, .val (.int p3), .val (.int p4), .val (.int p5), .val (.ref b2), .unset, .unset, .unset, .unset, .unset, .unset, .unset, .unset, .unset, .unset, .unset] [(.ref b2)])) _
    refine XS.iconst X10.here hx rfl (hb hby at_48) ?_
    show Steps p.tables e below (T10.setTop (mkF m 49 #[.val (.long q1), .second, .val (.long q2), .second, .val (.int p3), .val (.int p4), .val (.int p5), .val (.ref b2), .unset, .unset, .unset, .unset, .unset, .unset, .unset, .unset, .unset, .unset, .unset] [(.int (4 : Int32)), (.ref b2)])) _
    refine XS.lloadN X10.here hx rfl (hb hby at_49) rfl ?_
    show Steps p.tables e below (T10.setTop (mkF m 50 #[.val (.long q1), .second, .val (.long q2), .second, .val (.int p3), .val (.int p4), .val (.int p5), .val (.ref b2), .unset, .unset, .unset, .unset, .unset, .unset, .unset, .unset, .unset, .unset, .unset] [(.long q1), (.int (4 : Int32)), (.ref b2)])) _
    refine XS.bipush X10.here hx rfl (hb hby at_50) ?_
    show Steps p.tables e below (T10.setTop (mkF m 52 #[.val (.long q1), .second, .val (.long q2), .second, .val (.int p3), .val (.int p4), .val (.int p5), .val (.ref b2), .unset, .unset, .unset, .unset, .unset, .unset, .unset, .unset, .unset, .unset, .unset] [(.int (24 : Int32)), (.long q1), (.int (4 : Int32)), (.ref b2)])) _
    refine XS.lushr X10.here hx rfl (hb hby at_52) rfl ?_
    show Steps p.tables e below (T10.setTop (mkF m 53 #[.val (.long q1), .second, .val (.long q2), .second, .val (.int p3), .val (.int p4), .val (.int p5), .val (.ref b2), .unset, .unset, .unset, .unset, .unset, .unset, .unset, .unset, .unset, .unset, .unset] [(.long ((q1.toUInt64 >>> ((24 : Int32) &&& 0x3f).toInt64.toUInt64).toInt64)), (.int (4 : Int32)), (.ref b2)])) _
    refine XS.l2i X10.here hx rfl (hb hby at_53) rfl ?_
    show Steps p.tables e below (T10.setTop (mkF m 54 #[.val (.long q1), .second, .val (.long q2), .second, .val (.int p3), .val (.int p4), .val (.int p5), .val (.ref b2), .unset, .unset, .unset, .unset, .unset, .unset, .unset, .unset, .unset, .unset, .unset] [(.int (((q1.toUInt64 >>> ((24 : Int32) &&& 0x3f).toInt64.toUInt64).toInt64).toInt32)), (.int (4 : Int32)), (.ref b2)])) _
    refine XS.i2b X10.here hx rfl (hb hby at_54) rfl ?_
    show Steps p.tables e below (T10.setTop (mkF m 55 #[.val (.long q1), .second, .val (.long q2), .second, .val (.int p3), .val (.int p4), .val (.int p5), .val (.ref b2), .unset, .unset, .unset, .unset, .unset, .unset, .unset, .unset, .unset, .unset, .unset] [(.int ((((q1.toUInt64 >>> ((24 : Int32) &&& 0x3f).toInt64.toUInt64).toInt64).toInt32).toInt8.toInt32)), (.int (4 : Int32)), (.ref b2)])) _
    exact kt
  refine OwnG.st sg11 ?_
  obtain ⟨T12, h12, X12, e12, W12, V12, st12⟩ := own_stB Vg10 X10 hx hZ e10 (by decide) (by decide) (gf := (mkF m 55 #[.val (.long q1), .second, .val (.long q2), .second, .val (.int p3), .val (.int p4), .val (.int p5), .val (.ref b2), .unset, .unset, .unset, .unset, .unset, .unset, .unset, .unset, .unset, .unset, .unset] [(.int ((((q1.toUInt64 >>> ((24 : Int32) &&& 0x3f).toInt64.toUInt64).toInt64).toInt32).toInt8.toInt32)), (.int (4 : Int32)), (.ref b2)])) rfl rfl (hb hby at_55)
  have V12' : OwnA Z h12 b2 .byte 16 (iv' (updv gs10 4 ((((q1.toUInt64 >>> ((24 : Int32) &&& 0x3f).toInt64.toUInt64).toInt64).toInt32).toInt8.toInt32))) := by have q := V12; rw [Int8.toInt8_toInt32] at q; exact q
  obtain ⟨gs12, hgs12⟩ : ∃ g : Nat → Int32, g = (updv gs10 4 ((((q1.toUInt64 >>> ((24 : Int32) &&& 0x3f).toInt64.toUInt64).toInt64).toInt32).toInt8.toInt32)) := ⟨_, rfl⟩
  have Vg12 : OwnA Z h12 b2 .byte 16 (iv' gs12) := by rw [hgs12]; exact V12'
  have N12 := Fr.snoc X12 N10 gb_b2
  have Z12 : n0 ≤ h12.size := by rw [W12.size]; exact Z10
  refine OwnG.st st12 ?_
  show OwnG p e below s _ _ _ T12 (mkF m 56 #[.val (.long q1), .second, .val (.long q2), .second, .val (.int p3), .val (.int p4), .val (.int p5), .val (.ref b2), .unset, .unset, .unset, .unset, .unset, .unset, .unset, .unset, .unset, .unset, .unset] [])
  have sg13 : ∀ tgt, Steps p.tables e below (T12.setTop (mkF m 65 #[.val (.long q1), .second, .val (.long q2), .second, .val (.int p3), .val (.int p4), .val (.int p5), .val (.ref b2), .unset, .unset, .unset, .unset, .unset, .unset, .unset, .unset, .unset, .unset, .unset] [(.int ((((q1.toUInt64 >>> ((16 : Int32) &&& 0x3f).toInt64.toUInt64).toInt64).toInt32).toInt8.toInt32)), (.int (5 : Int32)), (.ref b2)])) tgt → Steps p.tables e below (T12.setTop (mkF m 56 #[.val (.long q1), .second, .val (.long q2), .second, .val (.int p3), .val (.int p4), .val (.int p5), .val (.ref b2), .unset, .unset, .unset, .unset, .unset, .unset, .unset, .unset, .unset, .unset, .unset] [])) tgt := by
    intro tgt kt
    refine XS.aload X12.here hx rfl (hb hby at_56) rfl rfl ?_
    show Steps p.tables e below (T12.setTop (mkF m 58 #[.val (.long q1), .second, .val (.long q2), .second, .val (.int p3), .val (.int p4), .val (.int p5), .val (.ref b2), .unset, .unset, .unset, .unset, .unset, .unset, .unset, .unset, .unset, .unset, .unset] [(.ref b2)])) _
    refine XS.iconst X12.here hx rfl (hb hby at_58) ?_
    show Steps p.tables e below (T12.setTop (mkF m 59 #[.val (.long q1), .second, .val (.long q2), .second, .val (.int p3), .val (.int p4), .val (.int p5), .val (.ref b2), .unset, .unset, .unset, .unset, .unset, .unset, .unset, .unset, .unset, .unset, .unset] [(.int (5 : Int32)), (.ref b2)])) _
    refine XS.lloadN X12.here hx rfl (hb hby at_59) rfl ?_
    show Steps p.tables e below (T12.setTop (mkF m 60 #[.val (.long q1), .second, .val (.long q2), .second, .val (.int p3), .val (.int p4), .val (.int p5), .val (.ref b2), .unset, .unset, .unset, .unset, .unset, .unset, .unset, .unset, .unset, .unset, .unset] [(.long q1), (.int (5 : Int32)), (.ref b2)])) _
    refine XS.bipush X12.here hx rfl (hb hby at_60) ?_
    show Steps p.tables e below (T12.setTop (mkF m 62 #[.val (.long q1), .second, .val (.long q2), .second, .val (.int p3), .val (.int p4), .val (.int p5), .val (.ref b2), .unset, .unset, .unset, .unset, .unset, .unset, .unset, .unset, .unset, .unset, .unset] [(.int (16 : Int32)), (.long q1), (.int (5 : Int32)), (.ref b2)])) _
    refine XS.lushr X12.here hx rfl (hb hby at_62) rfl ?_
    show Steps p.tables e below (T12.setTop (mkF m 63 #[.val (.long q1), .second, .val (.long q2), .second, .val (.int p3), .val (.int p4), .val (.int p5), .val (.ref b2), .unset, .unset, .unset, .unset, .unset, .unset, .unset, .unset, .unset, .unset, .unset] [(.long ((q1.toUInt64 >>> ((16 : Int32) &&& 0x3f).toInt64.toUInt64).toInt64)), (.int (5 : Int32)), (.ref b2)])) _
    refine XS.l2i X12.here hx rfl (hb hby at_63) rfl ?_
    show Steps p.tables e below (T12.setTop (mkF m 64 #[.val (.long q1), .second, .val (.long q2), .second, .val (.int p3), .val (.int p4), .val (.int p5), .val (.ref b2), .unset, .unset, .unset, .unset, .unset, .unset, .unset, .unset, .unset, .unset, .unset] [(.int (((q1.toUInt64 >>> ((16 : Int32) &&& 0x3f).toInt64.toUInt64).toInt64).toInt32)), (.int (5 : Int32)), (.ref b2)])) _
    refine XS.i2b X12.here hx rfl (hb hby at_64) rfl ?_
    show Steps p.tables e below (T12.setTop (mkF m 65 #[.val (.long q1), .second, .val (.long q2), .second, .val (.int p3), .val (.int p4), .val (.int p5), .val (.ref b2), .unset, .unset, .unset, .unset, .unset, .unset, .unset, .unset, .unset, .unset, .unset] [(.int ((((q1.toUInt64 >>> ((16 : Int32) &&& 0x3f).toInt64.toUInt64).toInt64).toInt32).toInt8.toInt32)), (.int (5 : Int32)), (.ref b2)])) _
    exact kt
  refine OwnG.st sg13 ?_
  obtain ⟨T14, h14, X14, e14, W14, V14, st14⟩ := own_stB Vg12 X12 hx hZ e12 (by decide) (by decide) (gf := (mkF m 65 #[.val (.long q1), .second, .val (.long q2), .second, .val (.int p3), .val (.int p4), .val (.int p5), .val (.ref b2), .unset, .unset, .unset, .unset, .unset, .unset, .unset, .unset, .unset, .unset, .unset] [(.int ((((q1.toUInt64 >>> ((16 : Int32) &&& 0x3f).toInt64.toUInt64).toInt64).toInt32).toInt8.toInt32)), (.int (5 : Int32)), (.ref b2)])) rfl rfl (hb hby at_65)
  have V14' : OwnA Z h14 b2 .byte 16 (iv' (updv gs12 5 ((((q1.toUInt64 >>> ((16 : Int32) &&& 0x3f).toInt64.toUInt64).toInt64).toInt32).toInt8.toInt32))) := by have q := V14; rw [Int8.toInt8_toInt32] at q; exact q
  obtain ⟨gs14, hgs14⟩ : ∃ g : Nat → Int32, g = (updv gs12 5 ((((q1.toUInt64 >>> ((16 : Int32) &&& 0x3f).toInt64.toUInt64).toInt64).toInt32).toInt8.toInt32)) := ⟨_, rfl⟩
  have Vg14 : OwnA Z h14 b2 .byte 16 (iv' gs14) := by rw [hgs14]; exact V14'
  have N14 := Fr.snoc X14 N12 gb_b2
  have Z14 : n0 ≤ h14.size := by rw [W14.size]; exact Z12
  refine OwnG.st st14 ?_
  show OwnG p e below s _ _ _ T14 (mkF m 66 #[.val (.long q1), .second, .val (.long q2), .second, .val (.int p3), .val (.int p4), .val (.int p5), .val (.ref b2), .unset, .unset, .unset, .unset, .unset, .unset, .unset, .unset, .unset, .unset, .unset] [])
  have sg15 : ∀ tgt, Steps p.tables e below (T14.setTop (mkF m 76 #[.val (.long q1), .second, .val (.long q2), .second, .val (.int p3), .val (.int p4), .val (.int p5), .val (.ref b2), .unset, .unset, .unset, .unset, .unset, .unset, .unset, .unset, .unset, .unset, .unset] [(.int ((((q1.toUInt64 >>> ((8 : Int32) &&& 0x3f).toInt64.toUInt64).toInt64).toInt32).toInt8.toInt32)), (.int (6 : Int32)), (.ref b2)])) tgt → Steps p.tables e below (T14.setTop (mkF m 66 #[.val (.long q1), .second, .val (.long q2), .second, .val (.int p3), .val (.int p4), .val (.int p5), .val (.ref b2), .unset, .unset, .unset, .unset, .unset, .unset, .unset, .unset, .unset, .unset, .unset] [])) tgt := by
    intro tgt kt
    refine XS.aload X14.here hx rfl (hb hby at_66) rfl rfl ?_
    show Steps p.tables e below (T14.setTop (mkF m 68 #[.val (.long q1), .second, .val (.long q2), .second, .val (.int p3), .val (.int p4), .val (.int p5), .val (.ref b2), .unset, .unset, .unset, .unset, .unset, .unset, .unset, .unset, .unset, .unset, .unset] [(.ref b2)])) _
    refine XS.bipush X14.here hx rfl (hb hby at_68) ?_
    show Steps p.tables e below (T14.setTop (mkF m 70 #[.val (.long q1), .second, .val (.long q2), .second, .val (.int p3), .val (.int p4), .val (.int p5), .val (.ref b2), .unset, .unset, .unset, .unset, .unset, .unset, .unset, .unset, .unset, .unset, .unset] [(.int (6 : Int32)), (.ref b2)])) _
    refine XS.lloadN X14.here hx rfl (hb hby at_70) rfl ?_
    show Steps p.tables e below (T14.setTop (mkF m 71 #[.val (.long q1), .second, .val (.long q2), .second, .val (.int p3), .val (.int p4), .val (.int p5), .val (.ref b2), .unset, .unset, .unset, .unset, .unset, .unset, .unset, .unset, .unset, .unset, .unset] [(.long q1), (.int (6 : Int32)), (.ref b2)])) _
    refine XS.bipush X14.here hx rfl (hb hby at_71) ?_
    show Steps p.tables e below (T14.setTop (mkF m 73 #[.val (.long q1), .second, .val (.long q2), .second, .val (.int p3), .val (.int p4), .val (.int p5), .val (.ref b2), .unset, .unset, .unset, .unset, .unset, .unset, .unset, .unset, .unset, .unset, .unset] [(.int (8 : Int32)), (.long q1), (.int (6 : Int32)), (.ref b2)])) _
    refine XS.lushr X14.here hx rfl (hb hby at_73) rfl ?_
    show Steps p.tables e below (T14.setTop (mkF m 74 #[.val (.long q1), .second, .val (.long q2), .second, .val (.int p3), .val (.int p4), .val (.int p5), .val (.ref b2), .unset, .unset, .unset, .unset, .unset, .unset, .unset, .unset, .unset, .unset, .unset] [(.long ((q1.toUInt64 >>> ((8 : Int32) &&& 0x3f).toInt64.toUInt64).toInt64)), (.int (6 : Int32)), (.ref b2)])) _
    refine XS.l2i X14.here hx rfl (hb hby at_74) rfl ?_
    show Steps p.tables e below (T14.setTop (mkF m 75 #[.val (.long q1), .second, .val (.long q2), .second, .val (.int p3), .val (.int p4), .val (.int p5), .val (.ref b2), .unset, .unset, .unset, .unset, .unset, .unset, .unset, .unset, .unset, .unset, .unset] [(.int (((q1.toUInt64 >>> ((8 : Int32) &&& 0x3f).toInt64.toUInt64).toInt64).toInt32)), (.int (6 : Int32)), (.ref b2)])) _
    refine XS.i2b X14.here hx rfl (hb hby at_75) rfl ?_
    show Steps p.tables e below (T14.setTop (mkF m 76 #[.val (.long q1), .second, .val (.long q2), .second, .val (.int p3), .val (.int p4), .val (.int p5), .val (.ref b2), .unset, .unset, .unset, .unset, .unset, .unset, .unset, .unset, .unset, .unset, .unset] [(.int ((((q1.toUInt64 >>> ((8 : Int32) &&& 0x3f).toInt64.toUInt64).toInt64).toInt32).toInt8.toInt32)), (.int (6 : Int32)), (.ref b2)])) _
    exact kt
  refine OwnG.st sg15 ?_
  obtain ⟨T16, h16, X16, e16, W16, V16, st16⟩ := own_stB Vg14 X14 hx hZ e14 (by decide) (by decide) (gf := (mkF m 76 #[.val (.long q1), .second, .val (.long q2), .second, .val (.int p3), .val (.int p4), .val (.int p5), .val (.ref b2), .unset, .unset, .unset, .unset, .unset, .unset, .unset, .unset, .unset, .unset, .unset] [(.int ((((q1.toUInt64 >>> ((8 : Int32) &&& 0x3f).toInt64.toUInt64).toInt64).toInt32).toInt8.toInt32)), (.int (6 : Int32)), (.ref b2)])) rfl rfl (hb hby at_76)
  have V16' : OwnA Z h16 b2 .byte 16 (iv' (updv gs14 6 ((((q1.toUInt64 >>> ((8 : Int32) &&& 0x3f).toInt64.toUInt64).toInt64).toInt32).toInt8.toInt32))) := by have q := V16; rw [Int8.toInt8_toInt32] at q; exact q
  obtain ⟨gs16, hgs16⟩ : ∃ g : Nat → Int32, g = (updv gs14 6 ((((q1.toUInt64 >>> ((8 : Int32) &&& 0x3f).toInt64.toUInt64).toInt64).toInt32).toInt8.toInt32)) := ⟨_, rfl⟩
  have Vg16 : OwnA Z h16 b2 .byte 16 (iv' gs16) := by rw [hgs16]; exact V16'
  have N16 := Fr.snoc X16 N14 gb_b2
  have Z16 : n0 ≤ h16.size := by rw [W16.size]; exact Z14
  refine OwnG.st st16 ?_
  show OwnG p e below s _ _ _ T16 (mkF m 77 #[.val (.long q1), .second, .val (.long q2), .second, .val (.int p3), .val (.int p4), .val (.int p5), .val (.ref b2), .unset, .unset, .unset, .unset, .unset, .unset, .unset, .unset, .unset, .unset, .unset] [])
  have sg17 : ∀ tgt, Steps p.tables e below (T16.setTop (mkF m 84 #[.val (.long q1), .second, .val (.long q2), .second, .val (.int p3), .val (.int p4), .val (.int p5), .val (.ref b2), .unset, .unset, .unset, .unset, .unset, .unset, .unset, .unset, .unset, .unset, .unset] [(.int ((q1.toInt32).toInt8.toInt32)), (.int (7 : Int32)), (.ref b2)])) tgt → Steps p.tables e below (T16.setTop (mkF m 77 #[.val (.long q1), .second, .val (.long q2), .second, .val (.int p3), .val (.int p4), .val (.int p5), .val (.ref b2), .unset, .unset, .unset, .unset, .unset, .unset, .unset, .unset, .unset, .unset, .unset] [])) tgt := by
    intro tgt kt
    refine XS.aload X16.here hx rfl (hb hby at_77) rfl rfl ?_
    show Steps p.tables e below (T16.setTop (mkF m 79 #[.val (.long q1), .second, .val (.long q2), .second, .val (.int p3), .val (.int p4), .val (.int p5), .val (.ref b2), .unset, .unset, .unset, .unset, .unset, .unset, .unset, .unset, .unset, .unset, .unset] [(.ref b2)])) _
    refine XS.bipush X16.here hx rfl (hb hby at_79) ?_
    show Steps p.tables e below (T16.setTop (mkF m 81 #[.val (.long q1), .second, .val (.long q2), .second, .val (.int p3), .val (.int p4), .val (.int p5), .val (.ref b2), .unset, .unset, .unset, .unset, .unset, .unset, .unset, .unset, .unset, .unset, .unset] [(.int (7 : Int32)), (.ref b2)])) _
    refine XS.lloadN X16.here hx rfl (hb hby at_81) rfl ?_
    show Steps p.tables e below (T16.setTop (mkF m 82 #[.val (.long q1), .second, .val (.long q2), .second, .val (.int p3), .val (.int p4), .val (.int p5), .val (.ref b2), .unset, .unset, .unset, .unset, .unset, .unset, .unset, .unset, .unset, .unset, .unset] [(.long q1), (.int (7 : Int32)), (.ref b2)])) _
    refine XS.l2i X16.here hx rfl (hb hby at_82) rfl ?_
    show Steps p.tables e below (T16.setTop (mkF m 83 #[.val (.long q1), .second, .val (.long q2), .second, .val (.int p3), .val (.int p4), .val (.int p5), .val (.ref b2), .unset, .unset, .unset, .unset, .unset, .unset, .unset, .unset, .unset, .unset, .unset] [(.int (q1.toInt32)), (.int (7 : Int32)), (.ref b2)])) _
    refine XS.i2b X16.here hx rfl (hb hby at_83) rfl ?_
    show Steps p.tables e below (T16.setTop (mkF m 84 #[.val (.long q1), .second, .val (.long q2), .second, .val (.int p3), .val (.int p4), .val (.int p5), .val (.ref b2), .unset, .unset, .unset, .unset, .unset, .unset, .unset, .unset, .unset, .unset, .unset] [(.int ((q1.toInt32).toInt8.toInt32)), (.int (7 : Int32)), (.ref b2)])) _
    exact kt
  refine OwnG.st sg17 ?_
  obtain ⟨T18, h18, X18, e18, W18, V18, st18⟩ := own_stB Vg16 X16 hx hZ e16 (by decide) (by decide) (gf := (mkF m 84 #[.val (.long q1), .second, .val (.long q2), .second, .val (.int p3), .val (.int p4), .val (.int p5), .val (.ref b2), .unset, .unset, .unset, .unset, .unset, .unset, .unset, .unset, .unset, .unset, .unset] [(.int ((q1.toInt32).toInt8.toInt32)), (.int (7 : Int32)), (.ref b2)])) rfl rfl (hb hby at_84)
  have V18' : OwnA Z h18 b2 .byte 16 (iv' (updv gs16 7 ((q1.toInt32).toInt8.toInt32))) := by have q := V18; rw [Int8.toInt8_toInt32] at q; exact q
  obtain ⟨gs18, hgs18⟩ : ∃ g : Nat → Int32, g = (updv gs16 7 ((q1.toInt32).toInt8.toInt32)) := ⟨_, rfl⟩
  have Vg18 : OwnA Z h18 b2 .byte 16 (iv' gs18) := by rw [hgs18]; exact V18'
  have N18 := Fr.snoc X18 N16 gb_b2
  have Z18 : n0 ≤ h18.size := by rw [W18.size]; exact Z16
  refine OwnG.st st18 ?_
  show OwnG p e below s _ _ _ T18 (mkF m 85 #[.val (.long q1), .second, .val (.long q2), .second, .val (.int p3), .val (.int p4), .val (.int p5), .val (.ref b2), .unset, .unset, .unset, .unset, .unset, .unset, .unset, .unset, .unset, .unset, .unset] [])
  have sg19 : ∀ tgt, Steps p.tables e below (T18.setTop (mkF m 95 #[.val (.long q1), .second, .val (.long q2), .second, .val (.int p3), .val (.int p4), .val (.int p5), .val (.ref b2), .unset, .unset, .unset, .unset, .unset, .unset, .unset, .unset, .unset, .unset, .unset] [(.int ((((q2.toUInt64 >>> ((56 : Int32) &&& 0x3f).toInt64.toUInt64).toInt64).toInt32).toInt8.toInt32)), (.int (8 : Int32)), (.ref b2)])) tgt → Steps p.tables e below (T18.setTop (mkF m 85 #[.val (.long q1), .second, .val (.long q2), .second, .val (.int p3), .val (.int p4), .val (.int p5), .val (.ref b2), .unset, .unset, .unset, .unset, .unset, .unset, .unset, .unset, .unset, .unset, .unset] [])) tgt := by
    intro tgt kt
    refine XS.aload X18.here hx rfl (hb hby at_85) rfl rfl ?_
    show Steps p.tables e below (T18.setTop (mkF m 87 #[.val (.long q1), .second, .val (.long q2), .second, .val (.int p3), .val (.int p4), .val (.int p5), .val (.ref b2), .unset, .unset, .unset, .unset, .unset, .unset, .unset, .unset, .unset, .unset, .unset] [(.ref b2)])) _
    refine XS.bipush X18.here hx rfl (hb hby at_87) ?_
    show Steps p.tables e below (T18.setTop (mkF m 89 #[.val (.long q1), .second, .val (.long q2), .second, .val (.int p3), .val (.int p4), .val (.int p5), .val (.ref b2), .unset, .unset, .unset, .unset, .unset, .unset, .unset, .unset, .unset, .unset, .unset] [(.int (8 : Int32)), (.ref b2)])) _
    refine XS.lloadN X18.here hx rfl (hb hby at_89) rfl ?_
    show Steps p.tables e below (T18.setTop (mkF m 90 #[.val (.long q1), .second, .val (.long q2), .second, .val (.int p3), .val (.int p4), .val (.int p5), .val (.ref b2), .unset, .unset, .unset, .unset, .unset, .unset, .unset, .unset, .unset, .unset, .unset] [(.long q2), (.int (8 : Int32)), (.ref b2)])) _
    refine XS.bipush X18.here hx rfl (hb hby at_90) ?_
    show Steps p.tables e below (T18.setTop (mkF m 92 #[.val (.long q1), .second, .val (.long q2), .second, .val (.int p3), .val (.int p4), .val (.int p5), .val (.ref b2), .unset, .unset, .unset, .unset, .unset, .unset, .unset, .unset, .unset, .unset, .unset] [(.int (56 : Int32)), (.long q2), (.int (8 : Int32)), (.ref b2)])) _
    refine XS.lushr X18.here hx rfl (hb hby at_92) rfl ?_
    show Steps p.tables e below (T18.setTop (mkF m 93 #[.val (.long q1), .second, .val (.long q2), .second, .val (.int p3), .val (.int p4), .val (.int p5), .val (.ref b2), .unset, .unset, .unset, .unset, .unset, .unset, .unset, .unset, .unset, .unset, .unset] [(.long ((q2.toUInt64 >>> ((56 : Int32) &&& 0x3f).toInt64.toUInt64).toInt64)), (.int (8 : Int32)), (.ref b2)])) _
    refine XS.l2i X18.here hx rfl (hb hby at_93) rfl ?_
    show Steps p.tables e below (T18.setTop (mkF m 94 #[.val (.long q1), .second, .val (.long q2), .second, .val (.int p3), .val (.int p4), .val (.int p5), .val (.ref b2), .unset, .unset, .unset, .unset, .unset, .unset, .unset, .unset, .unset, .unset, .unset] [(.int (((q2.toUInt64 >>> ((56 : Int32) &&& 0x3f).toInt64.toUInt64).toInt64).toInt32)), (.int (8 : Int32)), (.ref b2)])) _
    refine XS.i2b X18.here hx rfl (hb hby at_94) rfl ?_
    show Steps p.tables e below (T18.setTop (mkF m 95 #[.val (.long q1), .second, .val (.long q2), .second, .val (.int p3), .val (.int p4), .val (.int p5), .val (.ref b2), .unset, .unset, .unset, .unset, .unset, .unset, .unset, .unset, .unset, .unset, .unset] [(.int ((((q2.toUInt64 >>> ((56 : Int32) &&& 0x3f).toInt64.toUInt64).toInt64).toInt32).toInt8.toInt32)), (.int (8 : Int32)), (.ref b2)])) _
    exact kt
  refine OwnG.st sg19 ?_
  obtain ⟨T20, h20, X20, e20, W20, V20, st20⟩ := own_stB Vg18 X18 hx hZ e18 (by decide) (by decide) (gf := (mkF m 95 #[.val (.long q1), .second, .val (.long q2), .second, .val (.int p3), .val (.int p4), .val (.int p5), .val (.ref b2), .unset, .unset, .unset, .unset, .unset, .unset, .unset, .unset, .unset, .unset, .unset] [(.int ((((q2.toUInt64 >>> ((56 : Int32) &&& 0x3f).toInt64.toUInt64).toInt64).toInt32).toInt8.toInt32)), (.int (8 : Int32)), (.ref b2)])) rfl rfl (hb hby at_95)
  have V20' : OwnA Z h20 b2 .byte 16 (iv' (updv gs18 8 ((((q2.toUInt64 >>> ((56 : Int32) &&& 0x3f).toInt64.toUInt64).toInt64).toInt32).toInt8.toInt32))) := by have q := V20; rw [Int8.toInt8_toInt32] at q; exact q
  obtain ⟨gs20, hgs20⟩ : ∃ g : Nat → Int32, g = (updv gs18 8 ((((q2.toUInt64 >>> ((56 : Int32) &&& 0x3f).toInt64.toUInt64).toInt64).toInt32).toInt8.toInt32)) := ⟨_, rfl⟩
  have Vg20 : OwnA Z h20 b2 .byte 16 (iv' gs20) := by rw [hgs20]; exact V20'
  have N20 := Fr.snoc X20 N18 gb_b2
  have Z20 : n0 ≤ h20.size := by rw [W20.size]; exact Z18
  refine OwnG.st st20 ?_
  show OwnG p e below s _ _ _ T20 (mkF m 96 #[.val (.long q1), .second, .val (.long q2), .second, .val (.int p3), .val (.int p4), .val (.int p5), .val (.ref b2), .unset, .unset, .unset, .unset, .unset, .unset, .unset, .unset, .unset, .unset, .unset] [])
  have sg21 : ∀ tgt, Steps p.tables e below (T20.setTop (mkF m 106 #[.val (.long q1), .second, .val (.long q2), .second, .val (.int p3), .val (.int p4), .val (.int p5), .val (.ref b2), .unset, .unset, .unset, .unset, .unset, .unset, .unset, .unset, .unset, .unset, .unset] [(.int ((((q2.toUInt64 >>> ((48 : Int32) &&& 0x3f).toInt64.toUInt64).toInt64).toInt32).toInt8.toInt32)), (.int (9 : Int32)), (.ref b2)])) tgt → Steps p.tables e below (T20.setTop (mkF m 96 #[.val (.long q1), .second, .val (.long q2), .second, .val (.int p3), .val (.int p4), .val (.int p5), .val (.ref b2), .unset, .unset, .unset, .unset, .unset, .unset, .unset, .unset, .unset, .unset, .unset] [])) tgt := by
    intro tgt kt
    refine XS.aload X20.here hx rfl (hb hby at_96) rfl rfl ?_
    show Steps p.tables e below (T20.setTop (mkF m 98 #[.val (.long q1), .second, .val (.long q2), .second, .val (.int p3), .val (.int p4), .val (.int p5), .val (.ref b2), .unset, .unset, .unset, .unset, .unset, .unset, .unset, .unset, .unset, .unset, .unset] [(.ref b2)])) _
    refine XS.bipush X20.here hx rfl (hb hby at_98) ?_
    show Steps p.tables e below (T20.setTop (mkF m 100 #[.val (.long q1), .second, .val (.long q2), .second, .val (.int p3), .val (.int p4), .val (.int p5), .val (.ref b2), .unset, .unset, .unset, .unset, .unset, .unset, .unset, .unset, .unset, .unset, .unset] [(.int (9 : Int32)), (.ref b2)])) _
    refine XS.lloadN X20.here hx rfl (hb hby at_100) rfl ?_
    show Steps p.tables e below (T20.setTop (mkF m 101 #[.val (.long q1), .second, .val (.long q2), .second, .val (.int p3), .val (.int p4), .val (.int p5), .val (.ref b2), .unset, .unset, .unset, .unset, .unset, .unset, .unset, .unset, .unset, .unset, .unset] [(.long q2), (.int (9 : Int32)), (.ref b2)])) _
    refine XS.bipush X20.here hx rfl (hb hby at_101) ?_
    show Steps p.tables e below (T20.setTop (mkF m 103 #[.val (.long q1), .second, .val (.long q2), .second, .val (.int p3), .val (.int p4), .val (.int p5), .val (.ref b2), .unset, .unset, .unset, .unset, .unset, .unset, .unset, .unset, .unset, .unset, .unset] [(.int (48 : Int32)), (.long q2), (.int (9 : Int32)), (.ref b2)])) _
    refine XS.lushr X20.here hx rfl (hb hby at_103) rfl ?_
    show Steps p.tables e below (T20.setTop (mkF m 104 #[.val (.long q1), .second, .val (.long q2), .second, .val (.int p3), .val (.int p4), .val (.int p5), .val (.ref b2), .unset, .unset, .unset, .unset, .unset, .unset, .unset, .unset, .unset, .unset, .unset] [(.long ((q2.toUInt64 >>> ((48 : Int32) &&& 0x3f).toInt64.toUInt64).toInt64)), (.int (9 : Int32)), (.ref b2)])) _
    refine XS.l2i X20.here hx rfl (hb hby at_104) rfl ?_
    show Steps p.tables e below (T20.setTop (mkF m 105 #[.val (.long q1), .second, .val (.long q2), .second, .val (.int p3), .val (.int p4), .val (.int p5), .val (.ref b2), .unset, .unset, .unset, .unset, .unset, .unset, .unset, .unset, .unset, .unset, .unset] [(.int (((q2.toUInt64 >>> ((48 : Int32) &&& 0x3f).toInt64.toUInt64).toInt64).toInt32)), (.int (9 : Int32)), (.ref b2)])) _
    refine XS.i2b X20.here hx rfl (hb hby at_105) rfl ?_
    show Steps p.tables e below (T20.setTop (mkF m 106 #[.val (.long q1), .second, .val (.long q2), .second, .val (.int p3), .val (.int p4), .val (.int p5), .val (.ref b2), .unset, .unset, .unset, .unset, .unset, .unset, .unset, .unset, .unset, .unset, .unset] [(.int ((((q2.toUInt64 >>> ((48 : Int32) &&& 0x3f).toInt64.toUInt64).toInt64).toInt32).toInt8.toInt32)), (.int (9 : Int32)), (.ref b2)])) _
    exact kt
  refine OwnG.st sg21 ?_
  obtain ⟨T22, h22, X22, e22, W22, V22, st22⟩ := own_stB Vg20 X20 hx hZ e20 (by decide) (by decide) (gf := (mkF m 106 #[.val (.long q1), .second, .val (.long q2), .second, .val (.int p3), .val (.int p4), .val (.int p5), .val (.ref b2), .unset, .unset, .unset, .unset, .unset, .unset, .unset, .unset, .unset, .unset, .unset] [(.int ((((q2.toUInt64 >>> ((48 : Int32) &&& 0x3f).toInt64.toUInt64).toInt64).toInt32).toInt8.toInt32)), (.int (9 : Int32)), (.ref b2)])) rfl rfl (hb hby at_106)
  have V22' : OwnA Z h22 b2 .byte 16 (iv' (updv gs20 9 ((((q2.toUInt64 >>> ((48 : Int32) &&& 0x3f).toInt64.toUInt64).toInt64).toInt32).toInt8.toInt32))) := by have q := V22; rw [Int8.toInt8_toInt32] at q; exact q
  obtain ⟨gs22, hgs22⟩ : ∃ g : Nat → Int32, g = (updv gs20 9 ((((q2.toUInt64 >>> ((48 : Int32) &&& 0x3f).toInt64.toUInt64).toInt64).toInt32).toInt8.toInt32)) := ⟨_, rfl⟩
  have Vg22 : OwnA Z h22 b2 .byte 16 (iv' gs22) := by rw [hgs22]; exact V22'
  have N22 := Fr.snoc X22 N20 gb_b2
  have Z22 : n0 ≤ h22.size := by rw [W22.size]; exact Z20
  refine OwnG.st st22 ?_
  show OwnG p e below s _ _ _ T22 (mkF m 107 #[.val (.long q1), .second, .val (.long q2), .second, .val (.int p3), .val (.int p4), .val (.int p5), .val (.ref b2), .unset, .unset, .unset, .unset, .unset, .unset, .unset, .unset, .unset, .unset, .unset] [])
  have sg23 : ∀ tgt, Steps p.tables e below (T22.setTop (mkF m 117 #[.val (.long q1), .second, .val (.long q2), .second, .val (.int p3), .val (.int p4), .val (.int p5), .val (.ref b2), .unset, .unset, .unset, .unset, .unset, .unset, .unset, .unset, .unset, .unset, .unset] [(.int ((((q2.toUInt64 >>> ((40 : Int32) &&& 0x3f).toInt64.toUInt64).toInt64).toInt32).toInt8.toInt32)), (.int (10 : Int32)), (.ref b2)])) tgt → Steps p.tables e below (T22.setTop (mkF m 107 #[.val (.long q1), .second, .val (.long q2), .second, .val (.int p3), .val (.int p4), .val (.int p5), .val (.ref b2), .unset, .unset, .unset, .unset, .unset, .unset, .unset, .unset, .unset, .unset, .unset] [])) tgt := by
    intro tgt kt
    refine XS.aload X22.here hx rfl (hb hby at_107) rfl rfl ?_
    show Steps p.tables e below (T22.setTop (mkF m 109 #[.val (.long q1), .second, .val (.long q2), .second, .val (.int p3), .val (.int p4), .val (.int p5), .val (.ref b2), .unset, .unset, .unset, .unset, .unset, .unset, .unset, .unset, .unset, .unset, .unset] [(.ref b2)])) _
    refine XS.bipush X22.here hx rfl (hb hby at_109) ?_
    show Steps p.tables e below (T22.setTop (mkF m 111 #[.val (.long q1), .second, .val (.long q2), .second, .val (.int p3), .val (.int p4), .val (.int p5), .val (.ref b2), .unset, .unset, .unset, .unset, .unset, .unset, .unset, .unset, .unset, .unset, .unset] [(.int (10 : Int32)), (.ref b2)])) _
    refine XS.lloadN X22.here hx rfl (hb hby at_111) rfl ?_
    show Steps p.tables e below (T22.setTop (mkF m 112 #[.val (.long q1), .second, .val (.long q2), .second, .val (.int p3), .val (.int p4), .val (.int p5), .val (.ref b2), .unset, .unset, .unset, .unset, .unset, .unset, .unset, .unset, .unset, .unset, .unset] [(.long q2), (.int (10 : Int32)), (.ref b2)])) _
    refine XS.bipush X22.here hx rfl (hb hby at_112) ?_
    show Steps p.tables e below (T22.setTop (mkF m 114 #[.val (.long q1), .second, .val (.long q2), .second, .val (.int p3), .val (.int p4), .val (.int p5), .val (.ref b2), .unset, .unset, .unset, .unset, .unset, .unset, .unset, .unset, .unset, .unset, .unset] [(.int (40 : Int32)), (.long q2), (.int (10 : Int32)), (.ref b2)])) _
    refine XS.lushr X22.here hx rfl (hb hby at_114) rfl ?_
    show Steps p.tables e below (T22.setTop (mkF m 115 #[.val (.long q1), .second, .val (.long q2), .second, .val (.int p3), .val (.int p4), .val (.int p5), .val (.ref b2), .unset, .unset, .unset, .unset, .unset, .unset, .unset, .unset, .unset, .unset, .unset] [(.long ((q2.toUInt64 >>> ((40 : Int32) &&& 0x3f).toInt64.toUInt64).toInt64)), (.int (10 : Int32)), (.ref b2)])) _
    refine XS.l2i X22.here hx rfl (hb hby at_115) rfl ?_
    show Steps p.tables e below (T22.setTop (mkF m 116 #[.val (.long q1), .second, .val (.long q2), .second, .val (.int p3), .val (.int p4), .val (.int p5), .val (.ref b2), .unset, .unset, .unset, .unset, .unset, .unset, .unset, .unset, .unset, .unset, .unset] [(.int (((q2.toUInt64 >>> ((40 : Int32) &&& 0x3f).toInt64.toUInt64).toInt64).toInt32)), (.int (10 : Int32)), (.ref b2)])) _
    refine XS.i2b X22.here hx rfl (hb hby at_116) rfl ?_
    show Steps p.tables e below (T22.setTop (mkF m 117 #[.val (.long q1), .second, .val (.long q2), .second, .val (.int p3), .val (.int p4), .val (.int p5), .val (.ref b2), .unset, .unset, .unset, .unset, .unset, .unset, .unset, .unset, .unset, .unset, .unset] [(.int ((((q2.toUInt64 >>> ((40 : Int32) &&& 0x3f).toInt64.toUInt64).toInt64).toInt32).toInt8.toInt32)), (.int (10 : Int32)), (.ref b2)])) _
    exact kt
  refine OwnG.st sg23 ?_
  obtain ⟨T24, h24, X24, e24, W24, V24, st24⟩ := own_stB Vg22 X22 hx hZ e22 (by decide) (by decide) (gf := (mkF m 117 #[.val (.long q1), .second, .val (.long q2), .second, .val (.int p3), .val (.int p4), .val (.int p5), .val (.ref b2), .unset, .unset, .unset, .unset, .unset, .unset, .unset, .unset, .unset, .unset, .unset] [(.int ((((q2.toUInt64 >>> ((40 : Int32) &&& 0x3f).toInt64.toUInt64).toInt64).toInt32).toInt8.toInt32)), (.int (10 : Int32)), (.ref b2)])) rfl rfl (hb hby at_117)
  have V24' : OwnA Z h24 b2 .byte 16 (iv' (updv gs22 10 ((((q2.toUInt64 >>> ((40 : Int32) &&& 0x3f).toInt64.toUInt64).toInt64).toInt32).toInt8.toInt32))) := by have q := V24; rw [Int8.toInt8_toInt32] at q; exact q
  obtain ⟨gs24, hgs24⟩ : ∃ g : Nat → Int32, g = (updv gs22 10 ((((q2.toUInt64 >>> ((40 : Int32) &&& 0x3f).toInt64.toUInt64).toInt64).toInt32).toInt8.toInt32)) := ⟨_, rfl⟩
  have Vg24 : OwnA Z h24 b2 .byte 16 (iv' gs24) := by rw [hgs24]; exact V24'
  have N24 := Fr.snoc X24 N22 gb_b2
  have Z24 : n0 ≤ h24.size := by rw [W24.size]; exact Z22
  refine OwnG.st st24 ?_
  show OwnG p e below s _ _ _ T24 (mkF m 118 #[.val (.long q1), .second, .val (.long q2), .second, .val (.int p3), .val (.int p4), .val (.int p5), .val (.ref b2), .unset, .unset, .unset, .unset, .unset, .unset, .unset, .unset, .unset, .unset, .unset] [])
  have sg25 : ∀ tgt, Steps p.tables e below (T24.setTop (mkF m 128 #[.val (.long q1), .second, .val (.long q2), .second, .val (.int p3), .val (.int p4), .val (.int p5), .val (.ref b2), .unset, .unset, .unset, .unset, .unset, .unset, .unset, .unset, .unset, .unset, .unset] [(.int ((((q2.toUInt64 >>> ((32 : Int32) &&& 0x3f).toInt64.toUInt64).toInt64).toInt32).toInt8.toInt32)), (.int (11 : Int32)), (.ref b2)])) tgt → Steps p.tables e below (T24.setTop (mkF m 118 #[.val (.long q1), .second, .val (.long q2), .second, .val (.int p3), .val (.int p4), .val (.int p5), .val (.ref b2), .unset, .unset, .unset, .unset, .unset, .unset, .unset, .unset, .unset, .unset, .unset] [])) tgt := by
    intro tgt kt
    refine XS.aload X24.here hx rfl (hb hby at_118) rfl rfl ?_
    show Steps p.tables e below (T24.setTop (mkF m 120 #[.val (.long q1), .second, .val (.long q2), .second, .val (.int p3), .val (.int p4), .val (.int p5), .val (.ref b2), .unset, .unset, .unset, .unset, .unset, .unset, .unset, .unset, .unset, .unset, .unset] [(.ref b2)])) _
    refine XS.bipush X24.here hx rfl (hb hby at_120) ?_
    show Steps p.tables e below (T24.setTop (mkF m 122 #[.val (.long q1), .second, .val (.long q2), .second, .val (.int p3), .val (.int p4), .val (.int p5), .val (.ref b2), .unset, .unset, .unset, .unset, .unset, .unset, .unset, .unset, .unset, .unset, .unset] [(.int (11 : Int32)), (.ref b2)])) _
    refine XS.lloadN X24.here hx rfl (hb hby at_122) rfl ?_
    show Steps p.tables e below (T24.setTop (mkF m 123 #[.val (.long q1), .second, .val (.long q2), .second, .val (.int p3), .val (.int p4), .val (.int p5), .val (.ref b2), .unset, .unset, .unset, .unset, .unset, .unset, .unset, .unset, .unset, .unset, .unset] [(.long q2), (.int (11 : Int32)), (.ref b2)])) _
    refine XS.bipush X24.here hx rfl (hb hby at_123) ?_
    show Steps p.tables e below (T24.setTop (mkF m 125 #[.val (.long q1), .second, .val (.long q2), .second, .val (.int p3), .val (.int p4), .val (.int p5), .val (.ref b2), .unset, .unset, .unset, .unset, .unset, .unset, .unset, .unset, .unset, .unset, .unset] [(.int (32 : Int32)), (.long q2), (.int (11 : Int32)), (.ref b2)])) _
    refine XS.lushr X24.here hx rfl (hb hby at_125) rfl ?_
    show Steps p.tables e below (T24.setTop (mkF m 126 #[.val (.long q1), .second, .val (.long q2), .second, .val (.int p3), .val (.int p4), .val (.int p5), .val (.ref b2), .unset, .unset, .unset, .unset, .unset, .unset, .unset, .unset, .unset, .unset, .unset] [(.long ((q2.toUInt64 >>> ((32 : Int32) &&& 0x3f).toInt64.toUInt64).toInt64)), (.int (11 : Int32)), (.ref b2)])) _
    refine XS.l2i X24.here hx rfl (hb hby at_126) rfl ?_
    show Steps p.tables e below (T24.setTop (mkF m 127 #[.val (.long q1), .second, .val (.long q2), .second, .val (.int p3), .val (.int p4), .val (.int p5), .val (.ref b2), .unset, .unset, .unset, .unset, .unset, .unset, .unset, .unset, .unset, .unset, .unset] [(.int (((q2.toUInt64 >>> ((32 : Int32) &&& 0x3f).toInt64.toUInt64).toInt64).toInt32)), (.int (11 : Int32)), (.ref b2)])) _
    refine XS.i2b X24.here hx rfl (hb hby at_127) rfl ?_
    show Steps p.tables e below (T24.setTop (mkF m 128 #[.val (.long q1), .second, .val (.long q2), .second, .val (.int p3), .val (.int p4), .val (.int p5), .val (.ref b2), .unset, .unset, .unset, .unset, .unset, .unset, .unset, .unset, .unset, .unset, .unset] [(.int ((((q2.toUInt64 >>> ((32 : Int32) &&& 0x3f).toInt64.toUInt64).toInt64).toInt32).toInt8.toInt32)), (.int (11 : Int32)), (.ref b2)])) _
    exact kt
  refine OwnG.st sg25 ?_
  obtain ⟨T26, h26, X26, e26, W26, V26, st26⟩ := own_stB Vg24 X24 hx hZ e24 (by decide) (by decide) (gf := (mkF m 128 #[.val (.long q1), .second, .val (.long q2), .second, .val (.int p3), .val (.int p4), .val (.int p5), .val (.ref b2), .unset, .unset, .unset, .unset, .unset, .unset, .unset, .unset, .unset, .unset, .unset] [(.int ((((q2.toUInt64 >>> ((32 : Int32) &&& 0x3f).toInt64.toUInt64).toInt64).toInt32).toInt8.toInt32)), (.int (11 : Int32)), (.ref b2)])) rfl rfl (hb hby at_128)
  have V26' : OwnA Z h26 b2 .byte 16 (iv' (updv gs24 11 ((((q2.toUInt64 >>> ((32 : Int32) &&& 0x3f).toInt64.toUInt64).toInt64).toInt32).toInt8.toInt32))) := by have q := V26; rw [Int8.toInt8_toInt32] at q; exact q
  obtain ⟨gs26, hgs26⟩ : ∃ g : Nat → Int32, g = (updv gs24 11 ((((q2.toUInt64 >>> ((32 : Int32) &&& 0x3f).toInt64.toUInt64).toInt64).toInt32).toInt8.toInt32)) := ⟨_, rfl⟩
  have Vg26 : OwnA Z h26 b2 .byte 16 (iv' gs26) := by rw [hgs26]; exact V26'
  have N26 := Fr.snoc X26 N24 gb_b2
  have Z26 : n0 ≤ h26.size := by rw [W26.size]; exact Z24
  refine OwnG.st st26 ?_
  show OwnG p e below s _ _ _ T26 (mkF m 129 #[.val (.long q1), .second, .val (.long q2), .second, .val (.int p3), .val (.int p4), .val (.int p5), .val (.ref b2), .unset, .unset, .unset, .unset, .unset, .unset, .unset, .unset, .unset, .unset, .unset] [])
  have sg27 : ∀ tgt, Steps p.tables e below (T26.setTop (mkF m 139 #[.val (.long q1), .second, .val (.long q2), .second, .val (.int p3), .val (.int p4), .val (.int p5), .val (.ref b2), .unset, .unset, .unset, .unset, .unset, .unset, .unset, .unset, .unset, .unset, .unset] [(.int ((((q2.toUInt64 >>> ((24 : Int32) &&& 0x3f).toInt64.toUInt64).toInt64).toInt32).toInt8.toInt32)), (.int (12 : Int32)), (.ref b2)])) tgt → Steps p.tables e below (T26.setTop (mkF m 129 #[.val (.long q1), .second, .val (.long q2), .second, .val (.int p3), .val (.int p4), .val (.int p5), .val (.ref b2), .unset, .unset, .unset, .unset, .unset, .unset, .unset, .unset, .unset, .unset, .unset] [])) tgt := by
    intro tgt kt
    refine XS.aload X26.here hx rfl (hb hby at_129) rfl rfl ?_
    show Steps p.tables e below (T26.setTop (mkF m 131 #[.val (.long q1), .second, .val (.long q2), .second, .val (.int p3), .val (.int p4), .val (.int p5), .val (.ref b2), .unset, .unset, .unset, .unset, .unset, .unset, .unset, .unset, .unset, .unset, .unset] [(.ref b2)])) _
    refine XS.bipush X26.here hx rfl (hb hby at_131) ?_
    show Steps p.tables e below (T26.setTop (mkF m 133 #[.val (.long q1), .second, .val (.long q2), .second, .val (.int p3), .val (.int p4), .val (.int p5), .val (.ref b2), .unset, .unset, .unset, .unset, .unset, .unset, .unset, .unset, .unset, .unset, .unset] [(.int (12 : Int32)), (.ref b2)])) _
    refine XS.lloadN X26.here hx rfl (hb hby at_133) rfl ?_
    show Steps p.tables e below (T26.setTop (mkF m 134 #[.val (.long q1), .second, .val (.long q2), .second, .val (.int p3), .val (.int p4), .val (.int p5), .val (.ref b2), .unset, .unset, .unset, .unset, .unset, .unset, .unset, .unset, .unset, .unset, .unset] [(.long q2), (.int (12 : Int32)), (.ref b2)])) _
    refine XS.bipush X26.here hx rfl (hb hby at_134) ?_
    show Steps p.tables e below (T26.setTop (mkF m 136 #[.val (.long q1), .second, .val (.long q2), .second, .val (.int p3), .val (.int p4), .val (.int p5), .val (.ref b2), .unset, .unset, .unset, .unset, .unset, .unset, .unset, .unset, .unset, .unset, .unset] [(.int (24 : Int32)), (.long q2), (.int (12 : Int32)), (.ref b2)])) _
    refine XS.lushr X26.here hx rfl (hb hby at_136) rfl ?_
    show Steps p.tables e below (T26.setTop (mkF m 137 #[.val (.long q1), .second, .val (.long q2), .second, .val (.int p3), .val (.int p4), .val (.int p5), .val (.ref b2), .unset, .unset, .unset, .unset, .unset, .unset, .unset, .unset, .unset, .unset, .unset] [(.long ((q2.toUInt64 >>> ((24 : Int32) &&& 0x3f).toInt64.toUInt64).toInt64)), (.int (12 : Int32)), (.ref b2)])) _
    refine XS.l2i X26.here hx rfl (hb hby at_137) rfl ?_
    show Steps p.tables e below (T26.setTop (mkF m 138 #[.val (.long q1), .second, .val (.long q2), .second, .val (.int p3), .val (.int p4), .val (.int p5), .val (.ref b2), .unset, .unset, .unset, .unset, .unset, .unset, .unset, .unset, .unset, .unset, .unset] [(.int (((q2.toUInt64 >>> ((24 : Int32) &&& 0x3f).toInt64.toUInt64).toInt64).toInt32)), (.int (12 : Int32)), (.ref b2)])) _
    refine XS.i2b X26.here hx rfl (hb hby at_138) rfl ?_
    show Steps p.tables e below (T26.setTop (mkF m 139 #[.val (.long q1), .second, .val (.long q2), .second, .val (.int p3), .val (.int p4), .val (.int p5), .val (.ref b2), .unset, .unset, .unset, .unset, .unset, .unset, .unset, .unset, .unset, .unset, .unset] [(.int ((((q2.toUInt64 >>> ((24 : Int32) &&& 0x3f).toInt64.toUInt64).toInt64).toInt32).toInt8.toInt32)), (.int (12 : Int32)), (.ref b2)])) _
    exact kt
  refine OwnG.st sg27 ?_
  obtain ⟨T28, h28, X28, e28, W28, V28, st28⟩ := own_stB Vg26 X26 hx hZ e26 (by decide) (by decide) (gf := (mkF m 139 #[.val (.long q1), .second, .val (.long q2), .second, .val (.int p3), .val (.int p4), .val (.int p5), .val (.ref b2), .unset, .unset, .unset, .unset, .unset, .unset, .unset, .unset, .unset, .unset, .unset] [(.int ((((q2.toUInt64 >>> ((24 : Int32) &&& 0x3f).toInt64.toUInt64).toInt64).toInt32).toInt8.toInt32)), (.int (12 : Int32)), (.ref b2)])) rfl rfl (hb hby at_139)
  have V28' : OwnA Z h28 b2 .byte 16 (iv' (updv gs26 12 ((((q2.toUInt64 >>> ((24 : Int32) &&& 0x3f).toInt64.toUInt64).toInt64).toInt32).toInt8.toInt32))) := by have q := V28; rw [Int8.toInt8_toInt32] at q; exact q
  obtain ⟨gs28, hgs28⟩ : ∃ g : Nat → Int32, g = (updv gs26 12 ((((q2.toUInt64 >>> ((24 : Int32) &&& 0x3f).toInt64.toUInt64).toInt64).toInt32).toInt8.toInt32)) := ⟨_, rfl⟩
  have Vg28 : OwnA Z h28 b2 .byte 16 (iv' gs28) := by rw [hgs28]; exact V28'
  have N28 := Fr.snoc X28 N26 gb_b2
  have Z28 : n0 ≤ h28.size := by rw [W28.size]; exact Z26
  refine OwnG.st st28 ?_
  show OwnG p e below s _ _ _ T28 (mkF m 140 #[.val (.long q1), .second, .val (.long q2), .second, .val (.int p3), .val (.int p4), .val (.int p5), .val (.ref b2), .unset, .unset, .unset, .unset, .unset, .unset, .unset, .unset, .unset, .unset, .unset] [])
  have sg29 : ∀ tgt, Steps p.tables e below (T28.setTop (mkF m 150 #[.val (.long q1), .second, .val (.long q2), .second, .val (.int p3), .val (.int p4), .val (.int p5), .val (.ref b2), .unset, .unset, .unset, .unset, .unset, .unset, .unset, .unset, .unset, .unset, .unset] [(.int ((((q2.toUInt64 >>> ((16 : Int32) &&& 0x3f).toInt64.toUInt64).toInt64).toInt32).toInt8.toInt32)), (.int (13 : Int32)), (.ref b2)])) tgt → Steps p.tables e below (T28.setTop (mkF m 140 #[.val (.long q1), .second, .val (.long q2), .second, .val (.int p3), .val (.int p4), .val (.int p5), .val (.ref b2), .unset, .unset, .unset, .unset, .unset, .unset, .unset, .unset, .unset, .unset, .unset] [])) tgt := by
    intro tgt kt
    refine XS.aload X28.here hx rfl (hb hby at_140) rfl rfl ?_
    show Steps p.tables e below (T28.setTop (mkF m 142 #[.val (.long q1), .second, .val (.long q2), .second, .val (.int p3), .val (.int p4), .val (.int p5), .val (.ref b2), .unset, .unset, .unset, .unset, .unset, .unset, .unset, .unset, .unset, .unset, .unset] [(.ref b2)])) _
    refine XS.bipush X28.here hx rfl (hb hby at_142) ?_
    show Steps p.tables e below (T28.setTop (mkF m 144 #[.val (.long q1), .second, .val (.long q2), .second, .val (.int p3), .val (.int p4), .val (.int p5), .val (.ref b2), .unset, .unset, .unset, .unset, .unset, .unset, .unset, .unset, .unset, .unset, .unset] [(.int (13 : Int32)), (.ref b2)])) _
    refine XS.lloadN X28.here hx rfl (hb hby at_144) rfl ?_
    show Steps p.tables e below (T28.setTop (mkF m 145 #[.val (.long q1), .second, .val (.long q2), .second, .val (.int p3), .val (.int p4), .val (.int p5), .val (.ref b2), .unset, .unset, .unset, .unset, .unset, .unset, .unset, .unset, .unset, .unset, .unset] [(.long q2), (.int (13 : Int32)), (.ref b2)])) _
    refine XS.bipush X28.here hx rfl (hb hby at_145) ?_
    show Steps p.tables e below (T28.setTop (mkF m 147 #[.val (.long q1), .second, .val (.long q2), .second, .val (.int p3), .val (.int p4), .val (.int p5), .val (.ref b2), .unset, .unset, .unset, .unset, .unset, .unset, .unset, .unset, .unset, .unset, .unset] [(.int (16 : Int32)), (.long q2), (.int (13 : Int32)), (.ref b2)])) _
    refine XS.lushr X28.here hx rfl (hb hby at_147) rfl ?_
    show Steps p.tables e below (T28.setTop (mkF m 148 #[.val (.long q1), .second, .val (.long q2), .second, .val (.int p3), .val (.int p4), .val (.int p5), .val (.ref b2), .unset, .unset, .unset, .unset, .unset, .unset, .unset, .unset, .unset, .unset, .unset] [(.long ((q2.toUInt64 >>> ((16 : Int32) &&& 0x3f).toInt64.toUInt64).toInt64)), (.int (13 : Int32)), (.ref b2)])) _
    refine XS.l2i X28.here hx rfl (hb hby at_148) rfl ?_
    show Steps p.tables e below (T28.setTop (mkF m 149 #[.val (.long q1), .second, .val (.long q2), .second, .val (.int p3), .val (.int p4), .val (.int p5), .val (.ref b2), .unset, .unset, .unset, .unset, .unset, .unset, .unset, .unset, .unset, .unset, .unset] [(.int (((q2.toUInt64 >>> ((16 : Int32) &&& 0x3f).toInt64.toUInt64).toInt64).toInt32)), (.int (13 : Int32)), (.ref b2)])) _
    refine XS.i2b X28.here hx rfl (hb hby at_149) rfl ?_
    show Steps p.tables e below (T28.setTop (mkF m 150 #[.val (.long q1), .second, .val (.long q2), .second, .val (.int p3), .val (.int p4), .val (.int p5), .val (.ref b2), .unset, .unset, .unset, .unset, .unset, .unset, .unset, .unset, .unset, .unset, .unset] [(.int ((((q2.toUInt64 >>> ((16 : Int32) &&& 0x3f).toInt64.toUInt64).toInt64).toInt32).toInt8.toInt32)), (.int (13 : Int32)), (.ref b2)])) _
    exact kt
  refine OwnG.st sg29 ?_
  obtain ⟨T30, h30, X30, e30, W30, V30, st30⟩ := own_stB Vg28 X28 hx hZ e28 (by decide) (by decide) (gf := (mkF m 150 #[.val (.long q1), .second, .val (.long q2), .second, .val (.int p3), .val (.int p4), .val (.int p5), .val (.ref b2), .unset, .unset, .unset, .unset, .unset, .unset, .unset, .unset, .unset, .unset, .unset] [(.int ((((q2.toUInt64 >>> ((16 : Int32) &&& 0x3f).toInt64.toUInt64).toInt64).toInt32).toInt8.toInt32)), (.int (13 : Int32)), (.ref b2)])) rfl rfl (hb hby at_150)
  have V30' : OwnA Z h30 b2 .byte 16 (iv' (updv gs28 13 ((((q2.toUInt64 >>> ((16 : Int32) &&& 0x3f).toInt64.toUInt64).toInt64).toInt32).toInt8.toInt32))) := by have q := V30; rw [Int8.toInt8_toInt32] at q; exact q
  obtain ⟨gs30, hgs30⟩ : ∃ g : Nat → Int32, g = (updv gs28 13 ((((q2.toUInt64 >>> ((16 : Int32) &&& 0x3f).toInt64.toUInt64).toInt64).toInt32).toInt8.toInt32)) := ⟨_, rfl⟩
  have Vg30 : OwnA Z h30 b2 .byte 16 (iv' gs30) := by rw [hgs30]; exact V30'
  have N30 := Fr.snoc X30 N28 gb_b2
  have Z30 : n0 ≤ h30.size := by rw [W30.size]; exact Z28
  refine OwnG.st st30 ?_
  show OwnG p e below s _ _ _ T30 (mkF m 151 #[.val (.long q1), .second, .val (.long q2), .second, .val (.int p3), .val (.int p4), .val (.int p5), .val (.ref b2), .unset, .unset, .unset, .unset, .unset, .unset, .unset, .unset, .unset, .unset, .unset] [])
  have sg31 : ∀ tgt, Steps p.tables e below (T30.setTop (mkF m 161 #[.val (.long q1), .second, .val (.long q2), .second, .val (.int p3), .val (.int p4), .val (.int p5), .val (.ref b2), .unset, .unset, .unset, .unset, .unset, .unset, .unset, .unset, .unset, .unset, .unset] [(.int ((((q2.toUInt64 >>> ((8 : Int32) &&& 0x3f).toInt64.toUInt64).toInt64).toInt32).toInt8.toInt32)), (.int (14 : Int32)), (.ref b2)])) tgt → Steps p.tables e below (T30.setTop (mkF m 151 #[.val (.long q1), .second, .val (.long q2), .second, .val (.int p3), .val (.int p4), .val (.int p5), .val (.ref b2), .unset, .unset, .unset, .unset, .unset, .unset, .unset, .unset, .unset, .unset, .unset] [])) tgt := by
    intro tgt kt
    refine XS.aload X30.here hx rfl (hb hby at_151) rfl rfl ?_
    show Steps p.tables e below (T30.setTop (mkF m 153 #[.val (.long q1), .second, .val (.long q2), .second, .val (.int p3), .val (.int p4), .val (.int p5), .val (.ref b2), .unset, .unset, .unset, .unset, .unset, .unset, .unset, .unset, .unset, .unset, .unset] [(.ref b2)])) _
    refine XS.bipush X30.here hx rfl (hb hby at_153) ?_
    show Steps p.tables e below (T30.setTop (mkF m 155 #[.val (.long q1), .second, .val (.long q2), .second, .val (.int p3), .val (.int p4), .val (.int p5), .val (.ref b2), .unset, .unset, .unset, .unset, .unset, .unset, .unset, .unset, .unset, .unset, .unset] [(.int (14 : Int32)), (.ref b2)])) _
    refine XS.lloadN X30.here hx rfl (hb hby at_155) rfl ?_
    show Steps p.tables e below (T30.setTop (mkF m 156 #[.val (.long q1), .second, .val (.long q2), .second, .val (.int p3), .val (.int p4), .val (.int p5), .val (.ref b2), .unset, .unset, .unset, .unset, .unset, .unset, .unset, .unset, .unset, .unset, .unset] [(.long q2), (.int (14 : Int32)), (.ref b2)])) _
    refine XS.bipush X30.here hx rfl (hb hby at_156) ?_
    show Steps p.tables e below (T30.setTop (mkF m 158 #[.val (.long q1), .second, .val (.long q2), .second, .val (.int p3), .val (.int p4), .val (.int p5), .val (.ref b2), .unset, .unset, .unset, .unset, .unset, .unset, .unset, .unset, .unset, .unset, .unset] [(.int (8 : Int32)), (.long q2), (.int (14 : Int32)), (.ref b2)])) _
    refine XS.lushr X30.here hx rfl (hb hby at_158) rfl ?_
    show Steps p.tables e below (T30.setTop (mkF m 159 #[.val (.long q1), .second, .val (.long q2), .second, .val (.int p3), .val (.int p4), .val (.int p5), .val (.ref b2), .unset, .unset, .unset, .unset, .unset, .unset, .unset, .unset, .unset, .unset, .unset] [(.long ((q2.toUInt64 >>> ((8 : Int32) &&& 0x3f).toInt64.toUInt64).toInt64)), (.int (14 : Int32)), (.ref b2)])) _
    refine XS.l2i X30.here hx rfl (hb hby at_159) rfl ?_
    show Steps p.tables e below (T30.setTop (mkF m 160 #[.val (.long q1), .second, .val (.long q2), .second, .val (.int p3), .val (.int p4), .val (.int p5), .val (.ref b2), .unset, .unset, .unset, .unset, .unset, .unset, .unset, .unset, .unset, .unset, .unset] [(.int (((q2.toUInt64 >>> ((8 : Int32) &&& 0x3f).toInt64.toUInt64).toInt64).toInt32)), (.int (14 : Int32)), (.ref b2)])) _
    refine XS.i2b X30.here hx rfl (hb hby at_160) rfl ?_
    show Steps p.tables e below (T30.setTop (mkF m 161 #[.val (.long q1), .second, .val (.long q2), .second, .val (.int p3), .val (.int p4), .val (.int p5), .val (.ref b2), .unset, .unset, .unset, .unset, .unset, .unset, .unset, .unset, .unset, .unset, .unset] [(.int ((((q2.toUInt64 >>> ((8 : Int32) &&& 0x3f).toInt64.toUInt64).toInt64).toInt32).toInt8.toInt32)), (.int (14 : Int32)), (.ref b2)])) _
    exact kt
  refine OwnG.st sg31 ?_
  obtain ⟨T32, h32, X32, e32, W32, V32, st32⟩ := own_stB Vg30 X30 hx hZ e30 (by decide) (by decide) (gf := (mkF m 161 #[.val (.long q1), .second, .val (.long q2), .second, .val (.int p3), .val (.int p4), .val (.int p5), .val (.ref b2), .unset, .unset, .unset, .unset, .unset, .unset, .unset, .unset, .unset, .unset, .unset] [(.int ((((q2.toUInt64 >>> ((8 : Int32) &&& 0x3f).toInt64.toUInt64).toInt64).toInt32).toInt8.toInt32)), (.int (14 : Int32)), (.ref b2)])) rfl rfl (hb hby at_161)
  have V32' : OwnA Z h32 b2 .byte 16 (iv' (updv gs30 14 ((((q2.toUInt64 >>> ((8 : Int32) &&& 0x3f).toInt64.toUInt64).toInt64).toInt32).toInt8.toInt32))) := by have q := V32; rw [Int8.toInt8_toInt32] at q; exact q
  obtain ⟨gs32, hgs32⟩ : ∃ g : Nat → Int32, g = (updv gs30 14 ((((q2.toUInt64 >>> ((8 : Int32) &&& 0x3f).toInt64.toUInt64).toInt64).toInt32).toInt8.toInt32)) := ⟨_, rfl⟩
  have Vg32 : OwnA Z h32 b2 .byte 16 (iv' gs32) := by rw [hgs32]; exact V32'
  have N32 := Fr.snoc X32 N30 gb_b2
  have Z32 : n0 ≤ h32.size := by rw [W32.size]; exact Z30
  refine OwnG.st st32 ?_
  show OwnG p e below s _ _ _ T32 (mkF m 162 #[.val (.long q1), .second, .val (.long q2), .second, .val (.int p3), .val (.int p4), .val (.int p5), .val (.ref b2), .unset, .unset, .unset, .unset, .unset, .unset, .unset, .unset, .unset, .unset, .unset] [])
  have sg33 : ∀ tgt, Steps p.tables e below (T32.setTop (mkF m 169 #[.val (.long q1), .second, .val (.long q2), .second, .val (.int p3), .val (.int p4), .val (.int p5), .val (.ref b2), .unset, .unset, .unset, .unset, .unset, .unset, .unset, .unset, .unset, .unset, .unset] [(.int ((q2.toInt32).toInt8.toInt32)), (.int (15 : Int32)), (.ref b2)])) tgt → Steps p.tables e below (T32.setTop (mkF m 162 #[.val (.long q1), .second, .val (.long q2), .second, .val (.int p3), .val (.int p4), .val (.int p5), .val (.ref b2), .unset, .unset, .unset, .unset, .unset, .unset, .unset, .unset, .unset, .unset, .unset] [])) tgt := by
    intro tgt kt
    refine XS.aload X32.here hx rfl (hb hby at_162) rfl rfl ?_
    show Steps p.tables e below (T32.setTop (mkF m 164 #[.val (.long q1), .second, .val (.long q2), .second, .val (.int p3), .val (.int p4), .val (.int p5), .val (.ref b2), .unset, .unset, .unset, .unset, .unset, .unset, .unset, .unset, .unset, .unset, .unset] [(.ref b2)])) _
    refine XS.bipush X32.here hx rfl (hb hby at_164) ?_
    show Steps p.tables e below (T32.setTop (mkF m 166 #[.val (.long q1), .second, .val (.long q2), .second, .val (.int p3), .val (.int p4), .val (.int p5), .val (.ref b2), .unset, .unset, .unset, .unset, .unset, .unset, .unset, .unset, .unset, .unset, .unset] [(.int (15 : Int32)), (.ref b2)])) _
    refine XS.lloadN X32.here hx rfl (hb hby at_166) rfl ?_
    show Steps p.tables e below (T32.setTop (mkF m 167 #[.val (.long q1), .second, .val (.long q2), .second, .val (.int p3), .val (.int p4), .val (.int p5), .val (.ref b2), .unset, .unset, .unset, .unset, .unset, .unset, .unset, .unset, .unset, .unset, .unset] [(.long q2), (.int (15 : Int32)), (.ref b2)])) _
    refine XS.l2i X32.here hx rfl (hb hby at_167) rfl ?_
    show Steps p.tables e below (T32.setTop (mkF m 168 #[.val (.long q1), .second, .val (.long q2), .second, .val (.int p3), .val (.int p4), .val (.int p5), .val (.ref b2), .unset, .unset, .unset, .unset, .unset, .unset, .unset, .unset, .unset, .unset, .unset] [(.int (q2.toInt32)), (.int (15 : Int32)), (.ref b2)])) _
    refine XS.i2b X32.here hx rfl (hb hby at_168) rfl ?_
    show Steps p.tables e below (T32.setTop (mkF m 169 #[.val (.long q1), .second, .val (.long q2), .second, .val (.int p3), .val (.int p4), .val (.int p5), .val (.ref b2), .unset, .unset, .unset, .unset, .unset, .unset, .unset, .unset, .unset, .unset, .unset] [(.int ((q2.toInt32).toInt8.toInt32)), (.int (15 : Int32)), (.ref b2)])) _
    exact kt
  refine OwnG.st sg33 ?_
  obtain ⟨T34, h34, X34, e34, W34, V34, st34⟩ := own_stB Vg32 X32 hx hZ e32 (by decide) (by decide) (gf := (mkF m 169 #[.val (.long q1), .second, .val (.long q2), .second, .val (.int p3), .val (.int p4), .val (.int p5), .val (.ref b2), .unset, .unset, .unset, .unset, .unset, .unset, .unset, .unset, .unset, .unset, .unset] [(.int ((q2.toInt32).toInt8.toInt32)), (.int (15 : Int32)), (.ref b2)])) rfl rfl (hb hby at_169)
  have V34' : OwnA Z h34 b2 .byte 16 (iv' (updv gs32 15 ((q2.toInt32).toInt8.toInt32))) := by have q := V34; rw [Int8.toInt8_toInt32] at q; exact q
  obtain ⟨gs34, hgs34⟩ : ∃ g : Nat → Int32, g = (updv gs32 15 ((q2.toInt32).toInt8.toInt32)) := ⟨_, rfl⟩
  have Vg34 : OwnA Z h34 b2 .byte 16 (iv' gs34) := by rw [hgs34]; exact V34'
  have N34 := Fr.snoc X34 N32 gb_b2
  have Z34 : n0 ≤ h34.size := by rw [W34.size]; exact Z32
  refine OwnG.st st34 ?_
  show OwnG p e below s _ _ _ T34 (mkF m 170 #[.val (.long q1), .second, .val (.long q2), .second, .val (.int p3), .val (.int p4), .val (.int p5), .val (.ref b2), .unset, .unset, .unset, .unset, .unset, .unset, .unset, .unset, .unset, .unset, .unset] [])
  obtain ⟨gB, hgB⟩ : ∃ g : Nat → Int32, g = gs34 := ⟨_, rfl⟩
  rw [hgs34, hgs32, hgs30, hgs28, hgs26, hgs24, hgs22, hgs20, hgs18, hgs16, hgs14, hgs12, hgs10, hgs8, hgs6, hgs4] at hgB
  have VgB : OwnA Z h34 b2 .byte 16 (iv' gB) := by rw [hgB]; exact (by have q := Vg34; rw [hgs34, hgs32, hgs30, hgs28, hgs26, hgs24, hgs22, hgs20, hgs18, hgs16, hgs14, hgs12, hgs10, hgs8, hgs6, hgs4] at q; exact q)
  have hgg := own_hg gB q1 q2 (by rw [hgB]; rfl) (by rw [hgB]; rfl) (by rw [hgB]; rfl) (by rw [hgB]; rfl) (by rw [hgB]; rfl) (by rw [hgB]; rfl) (by rw [hgB]; rfl) (by rw [hgB]; rfl) (by rw [hgB]; rfl) (by rw [hgB]; rfl) (by rw [hgB]; rfl) (by rw [hgB]; rfl) (by rw [hgB]; rfl) (by rw [hgB]; rfl) (by rw [hgB]; rfl) (by rw [hgB]; rfl)
  have sg35 : ∀ tgt, Steps p.tables e below (T34.setTop (mkF m 184 #[.val (.long q1), .second, .val (.long q2), .second, .val (.int p3), .val (.int p4), .val (.int p5), .val (.ref b2), .val (.int (p3 &&& (63 : Int32))), .val (.int (p4 &&& (63 : Int32))), .unset, .unset, .unset, .unset, .unset, .unset, .unset, .unset, .unset] [])) tgt → Steps p.tables e below (T34.setTop (mkF m 170 #[.val (.long q1), .second, .val (.long q2), .second, .val (.int p3), .val (.int p4), .val (.int p5), .val (.ref b2), .unset, .unset, .unset, .unset, .unset, .unset, .unset, .unset, .unset, .unset, .unset] [])) tgt := by
    intro tgt kt
    refine XS.iload X34.here hx rfl (hb hby at_170) rfl ?_
    show Steps p.tables e below (T34.setTop (mkF m 172 #[.val (.long q1), .second, .val (.long q2), .second, .val (.int p3), .val (.int p4), .val (.int p5), .val (.ref b2), .unset, .unset, .unset, .unset, .unset, .unset, .unset, .unset, .unset, .unset, .unset] [(.int p3)])) _
    refine XS.bipush X34.here hx rfl (hb hby at_172) ?_
    show Steps p.tables e below (T34.setTop (mkF m 174 #[.val (.long q1), .second, .val (.long q2), .second, .val (.int p3), .val (.int p4), .val (.int p5), .val (.ref b2), .unset, .unset, .unset, .unset, .unset, .unset, .unset, .unset, .unset, .unset, .unset] [(.int (63 : Int32)), (.int p3)])) _
    refine XS.iand X34.here hx rfl (hb hby at_174) rfl ?_
    show Steps p.tables e below (T34.setTop (mkF m 175 #[.val (.long q1), .second, .val (.long q2), .second, .val (.int p3), .val (.int p4), .val (.int p5), .val (.ref b2), .unset, .unset, .unset, .unset, .unset, .unset, .unset, .unset, .unset, .unset, .unset] [(.int (p3 &&& (63 : Int32)))])) _
    refine XS.istore X34.here hx rfl (hb hby at_175) rfl (l' := #[.val (.long q1), .second, .val (.long q2), .second, .val (.int p3), .val (.int p4), .val (.int p5), .val (.ref b2), .val (.int (p3 &&& (63 : Int32))), .unset, .unset, .unset, .unset, .unset, .unset, .unset, .unset, .unset, .unset]) rfl ?_
    show Steps p.tables e below (T34.setTop (mkF m 177 #[.val (.long q1), .second, .val (.long q2), .second, .val (.int p3), .val (.int p4), .val (.int p5), .val (.ref b2), .val (.int (p3 &&& (63 : Int32))), .unset, .unset, .unset, .unset, .unset, .unset, .unset, .unset, .unset, .unset] [])) _
    refine XS.iload X34.here hx rfl (hb hby at_177) rfl ?_
    show Steps p.tables e below (T34.setTop (mkF m 179 #[.val (.long q1), .second, .val (.long q2), .second, .val (.int p3), .val (.int p4), .val (.int p5), .val (.ref b2), .val (.int (p3 &&& (63 : Int32))), .unset, .unset, .unset, .unset, .unset, .unset, .unset, .unset, .unset, .unset] [(.int p4)])) _
    refine XS.bipush X34.here hx rfl (hb hby at_179) ?_
    show Steps p.tables e below (T34.setTop (mkF m 181 #[.val (.long q1), .second, .val (.long q2), .second, .val (.int p3), .val (.int p4), .val (.int p5), .val (.ref b2), .val (.int (p3 &&& (63 : Int32))), .unset, .unset, .unset, .unset, .unset, .unset, .unset, .unset, .unset, .unset] [(.int (63 : Int32)), (.int p4)])) _
    refine XS.iand X34.here hx rfl (hb hby at_181) rfl ?_
    show Steps p.tables e below (T34.setTop (mkF m 182 #[.val (.long q1), .second, .val (.long q2), .second, .val (.int p3), .val (.int p4), .val (.int p5), .val (.ref b2), .val (.int (p3 &&& (63 : Int32))), .unset, .unset, .unset, .unset, .unset, .unset, .unset, .unset, .unset, .unset] [(.int (p4 &&& (63 : Int32)))])) _
    refine XS.istore X34.here hx rfl (hb hby at_182) rfl (l' := #[.val (.long q1), .second, .val (.long q2), .second, .val (.int p3), .val (.int p4), .val (.int p5), .val (.ref b2), .val (.int (p3 &&& (63 : Int32))), .val (.int (p4 &&& (63 : Int32))), .unset, .unset, .unset, .unset, .unset, .unset, .unset, .unset, .unset]) rfl ?_
    show Steps p.tables e below (T34.setTop (mkF m 184 #[.val (.long q1), .second, .val (.long q2), .second, .val (.int p3), .val (.int p4), .val (.int p5), .val (.ref b2), .val (.int (p3 &&& (63 : Int32))), .val (.int (p4 &&& (63 : Int32))), .unset, .unset, .unset, .unset, .unset, .unset, .unset, .unset, .unset] [])) _
    exact kt
  refine OwnG.st sg35 ?_
  obtain ⟨z8_36, hz8_36⟩ : ∃ w : Int32, w = (p3 &&& (63 : Int32)) := ⟨_, rfl⟩
  obtain ⟨z9_37, hz9_37⟩ : ∃ w : Int32, w = (p4 &&& (63 : Int32)) := ⟨_, rfl⟩
  rw [← hz8_36, ← hz9_37]
  show OwnG p e below s _ _ _ T34 (mkF m 184 #[.val (.long q1), .second, .val (.long q2), .second, .val (.int p3), .val (.int p4), .val (.int p5), .val (.ref b2), .val (.int z8_36), .val (.int z9_37), .unset, .unset, .unset, .unset, .unset, .unset, .unset, .unset, .unset] [])
  have sg38 : ∀ tgt, Steps p.tables e below (T34.setTop (mkF m 191 #[.val (.long q1), .second, .val (.long q2), .second, .val (.int p3), .val (.int p4), .val (.int p5), .val (.ref b2), .val (.int z8_36), .val (.int z9_37), .val (.int (z8_36 + z9_37)), .unset, .unset, .unset, .unset, .unset, .unset, .unset, .unset] [])) tgt → Steps p.tables e below (T34.setTop (mkF m 184 #[.val (.long q1), .second, .val (.long q2), .second, .val (.int p3), .val (.int p4), .val (.int p5), .val (.ref b2), .val (.int z8_36), .val (.int z9_37), .unset, .unset, .unset, .unset, .unset, .unset, .unset, .unset, .unset] [])) tgt := by
    intro tgt kt
    refine XS.iload X34.here hx rfl (hb hby at_184) rfl ?_
    show Steps p.tables e below (T34.setTop (mkF m 186 #[.val (.long q1), .second, .val (.long q2), .second, .val (.int p3), .val (.int p4), .val (.int p5), .val (.ref b2), .val (.int z8_36), .val (.int z9_37), .unset, .unset, .unset, .unset, .unset, .unset, .unset, .unset, .unset] [(.int z8_36)])) _
    refine XS.iload X34.here hx rfl (hb hby at_186) rfl ?_
    show Steps p.tables e below (T34.setTop (mkF m 188 #[.val (.long q1), .second, .val (.long q2), .second, .val (.int p3), .val (.int p4), .val (.int p5), .val (.ref b2), .val (.int z8_36), .val (.int z9_37), .unset, .unset, .unset, .unset, .unset, .unset, .unset, .unset, .unset] [(.int z9_37), (.int z8_36)])) _
    refine XS.iadd X34.here hx rfl (hb hby at_188) rfl ?_
    show Steps p.tables e below (T34.setTop (mkF m 189 #[.val (.long q1), .second, .val (.long q2), .second, .val (.int p3), .val (.int p4), .val (.int p5), .val (.ref b2), .val (.int z8_36), .val (.int z9_37), .unset, .unset, .unset, .unset, .unset, .unset, .unset, .unset, .unset] [(.int (z8_36 + z9_37))])) _
    refine XS.istore X34.here hx rfl (hb hby at_189) rfl (l' := #[.val (.long q1), .second, .val (.long q2), .second, .val (.int p3), .val (.int p4), .val (.int p5), .val (.ref b2), .val (.int z8_36), .val (.int z9_37), .val (.int (z8_36 + z9_37)), .unset, .unset, .unset, .unset, .unset, .unset, .unset, .unset]) rfl ?_
    show Steps p.tables e below (T34.setTop (mkF m 191 #[.val (.long q1), .second, .val (.long q2), .second, .val (.int p3), .val (.int p4), .val (.int p5), .val (.ref b2), .val (.int z8_36), .val (.int z9_37), .val (.int (z8_36 + z9_37)), .unset, .unset, .unset, .unset, .unset, .unset, .unset, .unset] [])) _
    exact kt
  refine OwnG.st sg38 ?_
  obtain ⟨z10_39, hz10_39⟩ : ∃ w : Int32, w = (z8_36 + z9_37) := ⟨_, rfl⟩
  rw [← hz10_39]
  show OwnG p e below s _ _ _ T34 (mkF m 191 #[.val (.long q1), .second, .val (.long q2), .second, .val (.int p3), .val (.int p4), .val (.int p5), .val (.ref b2), .val (.int z8_36), .val (.int z9_37), .val (.int z10_39), .unset, .unset, .unset, .unset, .unset, .unset, .unset, .unset] [])
  have hk1 := own_m63 p3
  rw [← hz8_36] at hk1
  have hk2 := own_m63 p4
  rw [← hz9_37] at hk2
  have hst := own_st _ _ _ hk1 hk2 hz10_39
  have sg40 : ∀ tgt, Steps p.tables e below (T34.setTop (mkF m 202 #[.val (.long q1), .second, .val (.long q2), .second, .val (.int p3), .val (.int p4), .val (.int p5), .val (.ref b2), .val (.int z8_36), .val (.int z9_37), .val (.int z10_39), .unset, .unset, .unset, .unset, .unset, .unset, .unset, .unset] [(.int ((128 : Int32) - z10_39)), (.int (p5 &&& (63 : Int32)))])) tgt → Steps p.tables e below (T34.setTop (mkF m 191 #[.val (.long q1), .second, .val (.long q2), .second, .val (.int p3), .val (.int p4), .val (.int p5), .val (.ref b2), .val (.int z8_36), .val (.int z9_37), .val (.int z10_39), .unset, .unset, .unset, .unset, .unset, .unset, .unset, .unset] [])) tgt := by
    intro tgt kt
    refine XS.iload X34.here hx rfl (hb hby at_191) rfl ?_
    show Steps p.tables e below (T34.setTop (mkF m 193 #[.val (.long q1), .second, .val (.long q2), .second, .val (.int p3), .val (.int p4), .val (.int p5), .val (.ref b2), .val (.int z8_36), .val (.int z9_37), .val (.int z10_39), .unset, .unset, .unset, .unset, .unset, .unset, .unset, .unset] [(.int p5)])) _
    refine XS.bipush X34.here hx rfl (hb hby at_193) ?_
    show Steps p.tables e below (T34.setTop (mkF m 195 #[.val (.long q1), .second, .val (.long q2), .second, .val (.int p3), .val (.int p4), .val (.int p5), .val (.ref b2), .val (.int z8_36), .val (.int z9_37), .val (.int z10_39), .unset, .unset, .unset, .unset, .unset, .unset, .unset, .unset] [(.int (63 : Int32)), (.int p5)])) _
    refine XS.iand X34.here hx rfl (hb hby at_195) rfl ?_
    show Steps p.tables e below (T34.setTop (mkF m 196 #[.val (.long q1), .second, .val (.long q2), .second, .val (.int p3), .val (.int p4), .val (.int p5), .val (.ref b2), .val (.int z8_36), .val (.int z9_37), .val (.int z10_39), .unset, .unset, .unset, .unset, .unset, .unset, .unset, .unset] [(.int (p5 &&& (63 : Int32)))])) _
    refine XS.sipush X34.here hx rfl (hb hby at_196) ?_
    show Steps p.tables e below (T34.setTop (mkF m 199 #[.val (.long q1), .second, .val (.long q2), .second, .val (.int p3), .val (.int p4), .val (.int p5), .val (.ref b2), .val (.int z8_36), .val (.int z9_37), .val (.int z10_39), .unset, .unset, .unset, .unset, .unset, .unset, .unset, .unset] [(.int (128 : Int32)), (.int (p5 &&& (63 : Int32)))])) _
    refine XS.iload X34.here hx rfl (hb hby at_199) rfl ?_
    show Steps p.tables e below (T34.setTop (mkF m 201 #[.val (.long q1), .second, .val (.long q2), .second, .val (.int p3), .val (.int p4), .val (.int p5), .val (.ref b2), .val (.int z8_36), .val (.int z9_37), .val (.int z10_39), .unset, .unset, .unset, .unset, .unset, .unset, .unset, .unset] [(.int z10_39), (.int (128 : Int32)), (.int (p5 &&& (63 : Int32)))])) _
    refine XS.isub X34.here hx rfl (hb hby at_201) rfl ?_
    show Steps p.tables e below (T34.setTop (mkF m 202 #[.val (.long q1), .second, .val (.long q2), .second, .val (.int p3), .val (.int p4), .val (.int p5), .val (.ref b2), .val (.int z8_36), .val (.int z9_37), .val (.int z10_39), .unset, .unset, .unset, .unset, .unset, .unset, .unset, .unset] [(.int ((128 : Int32) - z10_39)), (.int (p5 &&& (63 : Int32)))])) _
    exact kt
  refine OwnG.st sg40 ?_
  obtain ⟨vb41, _, B41, -, Xb41, hb41, sb41⟩ := Jvm.LawKit.callS X34 hx (y := (⟨"java/lang/Math", "min", "(II)I"⟩ : MethodName)) hown (mvT hZ (hw _ (List.mem_of_getElem? (i := 1) rfl))) (mvT hZ (hw _ (List.mem_of_getElem? (i := 2) rfl))) (mvT hZ (hw _ (List.mem_of_getElem? (i := 3) rfl))) (mvT hZ (hw _ (List.mem_of_getElem? (i := 4) rfl))) (by decide) (backOf (W := 0) (rm1 l Z a0 hw [] (p5 &&& (63 : Int32)) ((128 : Int32) - z10_39)  h34 n0 Z34 ) hZ (hw _ (List.mem_of_getElem? (i := 4) rfl)) (hw _ (List.mem_of_getElem? (i := 3) rfl)) (by decide) (by decide)) (g := (mkF m 202 #[.val (.long q1), .second, .val (.long q2), .second, .val (.int p3), .val (.int p4), .val (.int p5), .val (.ref b2), .val (.int z8_36), .val (.int z9_37), .val (.int z10_39), .unset, .unset, .unset, .unset, .unset, .unset, .unset, .unset] [(.int ((128 : Int32) - z10_39)), (.int (p5 &&& (63 : Int32)))])) rfl (by rw [hml]; rfl) (argsL := [(.int (p5 &&& (63 : Int32))), (.int ((128 : Int32) - z10_39))]) (rest := []) (lenOf pd_0_0 rfl) rfl (by show 2 * 0 + _ ≤ _; exact Nat.le_of_eq rfl) (hb hby at_202) (fun _ _ => ⟨rfl, e34, (by decide : 1 + 0 ≤ _), (by decide : 16 + 0 ≤ _)⟩)
  obtain ⟨T41, Lc41, vc41, X41, hQ41, st41⟩ := own_bk (F' := fun v => { ((mkF m 202 #[.val (.long q1), .second, .val (.long q2), .second, .val (.int p3), .val (.int p4), .val (.int p5), .val (.ref b2), .val (.int z8_36), .val (.int z9_37), .val (.int z10_39), .unset, .unset, .unset, .unset, .unset, .unset, .unset, .unset] [(.int ((128 : Int32) - z10_39)), (.int (p5 &&& (63 : Int32)))]) : JFrame) with pc := 205, stack := v.toList ++ [] }) (ck := 1) (sn := 16) Xb41 hb41 sb41 rfl rfl
  obtain ⟨hv41, N41q, e41⟩ := hQ41
  have N41 := Fr.app N34 N41q
  refine OwnG.st (F' := (mkF m 205 #[.val (.long q1), .second, .val (.long q2), .second, .val (.int p3), .val (.int p4), .val (.int p5), .val (.ref b2), .val (.int z8_36), .val (.int z9_37), .val (.int z10_39), .unset, .unset, .unset, .unset, .unset, .unset, .unset, .unset] [(.int (F1 (p5 &&& (63 : Int32)) ((128 : Int32) - z10_39)))])) (fun t k => st41 t (by rw [hv41]; exact k)) ?_
  clear Xb41 hb41 sb41 st41 hv41
  have sg42 : ∀ tgt, Steps p.tables e below (T41.setTop (mkF m 207 #[.val (.long q1), .second, .val (.long q2), .second, .val (.int p3), .val (.int p4), .val (.int p5), .val (.ref b2), .val (.int z8_36), .val (.int z9_37), .val (.int z10_39), .val (.int (F1 (p5 &&& (63 : Int32)) ((128 : Int32) - z10_39))), .unset, .unset, .unset, .unset, .unset, .unset, .unset] [])) tgt → Steps p.tables e below (T41.setTop (mkF m 205 #[.val (.long q1), .second, .val (.long q2), .second, .val (.int p3), .val (.int p4), .val (.int p5), .val (.ref b2), .val (.int z8_36), .val (.int z9_37), .val (.int z10_39), .unset, .unset, .unset, .unset, .unset, .unset, .unset, .unset] [(.int (F1 (p5 &&& (63 : Int32)) ((128 : Int32) - z10_39)))])) tgt := by
    intro tgt kt
    refine XS.istore X41.here hx rfl (hb hby at_205) rfl (l' := #[.val (.long q1), .second, .val (.long q2), .second, .val (.int p3), .val (.int p4), .val (.int p5), .val (.ref b2), .val (.int z8_36), .val (.int z9_37), .val (.int z10_39), .val (.int (F1 (p5 &&& (63 : Int32)) ((128 : Int32) - z10_39))), .unset, .unset, .unset, .unset, .unset, .unset, .unset]) rfl ?_
    show Steps p.tables e below (T41.setTop (mkF m 207 #[.val (.long q1), .second, .val (.long q2), .second, .val (.int p3), .val (.int p4), .val (.int p5), .val (.ref b2), .val (.int z8_36), .val (.int z9_37), .val (.int z10_39), .val (.int (F1 (p5 &&& (63 : Int32)) ((128 : Int32) - z10_39))), .unset, .unset, .unset, .unset, .unset, .unset, .unset] [])) _
    exact kt
  refine OwnG.st sg42 ?_
  obtain ⟨z11_43, hz11_43⟩ : ∃ w : Int32, w = (F1 (p5 &&& (63 : Int32)) ((128 : Int32) - z10_39)) := ⟨_, rfl⟩
  rw [← hz11_43]
  show OwnG p e below s _ _ _ T41 (mkF m 207 #[.val (.long q1), .second, .val (.long q2), .second, .val (.int p3), .val (.int p4), .val (.int p5), .val (.ref b2), .val (.int z8_36), .val (.int z9_37), .val (.int z10_39), .val (.int z11_43), .unset, .unset, .unset, .unset, .unset, .unset, .unset] [])
  have hww := own_w _ _ _ (by omega) hz11_43
  have hks := And.intro hk1 (And.intro hk2 (And.intro hst hww))
  obtain ⟨T44, h44, X44, e44, E44, A44, D44, -, st44⟩ := newO X41 hx hZ hown (hw _ (List.mem_of_getElem? (i := 5) rfl)) (hw _ (List.mem_of_getElem? (i := 6) rfl)) (hw _ (List.mem_of_getElem? (i := 7) rfl)) e41 (g := (mkF m 207 #[.val (.long q1), .second, .val (.long q2), .second, .val (.int p3), .val (.int p4), .val (.int p5), .val (.ref b2), .val (.int z8_36), .val (.int z9_37), .val (.int z10_39), .val (.int z11_43), .unset, .unset, .unset, .unset, .unset, .unset, .unset] [])) rfl (hb hby at_207) (by decide) (by decide)
  obtain ⟨b44, g44⟩ : ∃ z, z = h34.size := ⟨_, rfl⟩
  rw [← g44] at A44 D44 st44
  have ne44_45 : b2 ≠ b44 := Nat.ne_of_lt (Nat.lt_of_lt_of_le VgB.lt (Nat.le_of_eq g44.symm))
  have fA_b2_46 := (VgB.ext E44)
  have F44_encoding : Fld Z h44 b44 "com/example/ubicacion/ubicacion/lmf/AlignedPer$Reader" "encoding" "[B" .null := D44 (Or.inr (hw _ (List.mem_of_getElem? (i := 15) rfl))) (ty := (.array .byte)) (by decide)
  have F44_position : Fld Z h44 b44 "com/example/ubicacion/ubicacion/lmf/AlignedPer$Reader" "position" "J" (.long (0 : Int64)) := D44 (Or.inl (hw _ (List.mem_of_getElem? (i := 22) rfl))) (ty := .long) (by decide)
  have gb_b44 : n0 ≤ b44 := Nat.le_trans Z34 (Nat.le_of_eq g44.symm)
  have Z44 : n0 ≤ h44.size := Nat.le_trans Z34 E44.1
  have X44 : Stand p l e room_1 s m #[(.long q1), (.long q2), (.int p3), (.int p4), (.int p5)] below meth c T44 _ 2 18 := X44
  refine OwnG.st st44 ?_
  show OwnG p e below s _ _ _ T44 (mkF m 210 #[.val (.long q1), .second, .val (.long q2), .second, .val (.int p3), .val (.int p4), .val (.int p5), .val (.ref b2), .val (.int z8_36), .val (.int z9_37), .val (.int z10_39), .val (.int z11_43), .unset, .unset, .unset, .unset, .unset, .unset, .unset] [(.ref b44)])
  have sg47 : ∀ tgt, Steps p.tables e below (T44.setTop (mkF m 213 #[.val (.long q1), .second, .val (.long q2), .second, .val (.int p3), .val (.int p4), .val (.int p5), .val (.ref b2), .val (.int z8_36), .val (.int z9_37), .val (.int z10_39), .val (.int z11_43), .unset, .unset, .unset, .unset, .unset, .unset, .unset] [(.ref b2), (.ref b44), (.ref b44)])) tgt → Steps p.tables e below (T44.setTop (mkF m 210 #[.val (.long q1), .second, .val (.long q2), .second, .val (.int p3), .val (.int p4), .val (.int p5), .val (.ref b2), .val (.int z8_36), .val (.int z9_37), .val (.int z10_39), .val (.int z11_43), .unset, .unset, .unset, .unset, .unset, .unset, .unset] [(.ref b44)])) tgt := by
    intro tgt kt
    refine XS.dup X44.here hx rfl (hb hby at_210) rfl rfl ?_
    show Steps p.tables e below (T44.setTop (mkF m 211 #[.val (.long q1), .second, .val (.long q2), .second, .val (.int p3), .val (.int p4), .val (.int p5), .val (.ref b2), .val (.int z8_36), .val (.int z9_37), .val (.int z10_39), .val (.int z11_43), .unset, .unset, .unset, .unset, .unset, .unset, .unset] [(.ref b44), (.ref b44)])) _
    refine XS.aload X44.here hx rfl (hb hby at_211) rfl rfl ?_
    show Steps p.tables e below (T44.setTop (mkF m 213 #[.val (.long q1), .second, .val (.long q2), .second, .val (.int p3), .val (.int p4), .val (.int p5), .val (.ref b2), .val (.int z8_36), .val (.int z9_37), .val (.int z10_39), .val (.int z11_43), .unset, .unset, .unset, .unset, .unset, .unset, .unset] [(.ref b2), (.ref b44), (.ref b44)])) _
    exact kt
  refine OwnG.st sg47 ?_
  obtain ⟨vb48, _, B48, -, Xb48, hb48, sb48⟩ := X44.specialBack hx (y := (⟨"com/example/ubicacion/ubicacion/lmf/AlignedPer$Reader", "<init>", "([B)V"⟩ : MethodName)) rfl hown (mvT hZ (hw _ (List.mem_of_getElem? (i := 8) rfl))) (mvT hZ (hw _ (List.mem_of_getElem? (i := 9) rfl))) (mvT hZ (hw _ (List.mem_of_getElem? (i := 10) rfl))) (by decide) (backOf (W := 1) (rm2 l Z a0 hw [] b44 b2  h44 n0 Z44 gb_b44 A44 F44_encoding F44_position) hZ (hw _ (List.mem_of_getElem? (i := 10) rfl)) (hw _ (List.mem_of_getElem? (i := 7) rfl)) (by decide) (by decide)) (g := (mkF m 213 #[.val (.long q1), .second, .val (.long q2), .second, .val (.int p3), .val (.int p4), .val (.int p5), .val (.ref b2), .val (.int z8_36), .val (.int z9_37), .val (.int z10_39), .val (.int z11_43), .unset, .unset, .unset, .unset, .unset, .unset, .unset] [(.ref b2), (.ref b44), (.ref b44)])) rfl (by rw [hml]; rfl) (Steps.refl _) (a := b44) (argsL := [(.ref b2)]) (rest := [(.ref b44)]) (lenOf pd_0_1 rfl) rfl (by show 2 * 0 + _ ≤ _; exact Nat.le_of_eq rfl) (hb hby at_213) (fun _ _ => ⟨rfl, e44, (by decide : 2 + 0 ≤ _), (by decide : 18 + 0 ≤ _)⟩)
  obtain ⟨T48, Lc48, vc48, X48, hQ48, st48⟩ := own_bk (F' := fun v => { ((mkF m 213 #[.val (.long q1), .second, .val (.long q2), .second, .val (.int p3), .val (.int p4), .val (.int p5), .val (.ref b2), .val (.int z8_36), .val (.int z9_37), .val (.int z10_39), .val (.int z11_43), .unset, .unset, .unset, .unset, .unset, .unset, .unset] [(.ref b2), (.ref b44), (.ref b44)]) : JFrame) with pc := 216, stack := v.toList ++ [(.ref b44)] }) (ck := 2) (sn := 18) Xb48 hb48 (fun _ k => sb48.trans k) rfl rfl
  obtain ⟨hv48, N48q, Kq48, Eq48, Fe48, Fp48⟩ := hQ48
  have Z48 : n0 ≤ T48.heap.size := Nat.le_trans Z44 Kq48.1
  have fA_b2_49 := (fA_b2_46.keep Kq48 (ninS ne44_45 nin0))
  have fE_b44_50 := (Exa.keep A44 Kq48)
  have Fp48' : Fld Z T48.heap b44 "com/example/ubicacion/ubicacion/lmf/AlignedPer$Reader" "position" "J" (.long (Int64.ofNat 0)) := Fp48
  have N48 := Fr.app N41 N48q
  refine OwnG.st (F' := (mkF m 216 #[.val (.long q1), .second, .val (.long q2), .second, .val (.int p3), .val (.int p4), .val (.int p5), .val (.ref b2), .val (.int z8_36), .val (.int z9_37), .val (.int z10_39), .val (.int z11_43), .unset, .unset, .unset, .unset, .unset, .unset, .unset] [(.ref b44)])) (fun t k => st48 t (by rw [hv48]; exact k)) ?_
  clear Xb48 hb48 sb48 st48 hv48
  have sg51 : ∀ tgt, Steps p.tables e below (T48.setTop (mkF m 222 #[.val (.long q1), .second, .val (.long q2), .second, .val (.int p3), .val (.int p4), .val (.int p5), .val (.ref b2), .val (.int z8_36), .val (.int z9_37), .val (.int z10_39), .val (.int z11_43), .val (.ref b44), .unset, .unset, .unset, .unset, .unset, .unset] [(.int z8_36), (.ref b44)])) tgt → Steps p.tables e below (T48.setTop (mkF m 216 #[.val (.long q1), .second, .val (.long q2), .second, .val (.int p3), .val (.int p4), .val (.int p5), .val (.ref b2), .val (.int z8_36), .val (.int z9_37), .val (.int z10_39), .val (.int z11_43), .unset, .unset, .unset, .unset, .unset, .unset, .unset] [(.ref b44)])) tgt := by
    intro tgt kt
    refine XS.astore X48.here hx rfl (hb hby at_216) rfl rfl (l' := #[.val (.long q1), .second, .val (.long q2), .second, .val (.int p3), .val (.int p4), .val (.int p5), .val (.ref b2), .val (.int z8_36), .val (.int z9_37), .val (.int z10_39), .val (.int z11_43), .val (.ref b44), .unset, .unset, .unset, .unset, .unset, .unset]) rfl ?_
    show Steps p.tables e below (T48.setTop (mkF m 218 #[.val (.long q1), .second, .val (.long q2), .second, .val (.int p3), .val (.int p4), .val (.int p5), .val (.ref b2), .val (.int z8_36), .val (.int z9_37), .val (.int z10_39), .val (.int z11_43), .val (.ref b44), .unset, .unset, .unset, .unset, .unset, .unset] [])) _
    refine XS.aload X48.here hx rfl (hb hby at_218) rfl rfl ?_
    show Steps p.tables e below (T48.setTop (mkF m 220 #[.val (.long q1), .second, .val (.long q2), .second, .val (.int p3), .val (.int p4), .val (.int p5), .val (.ref b2), .val (.int z8_36), .val (.int z9_37), .val (.int z10_39), .val (.int z11_43), .val (.ref b44), .unset, .unset, .unset, .unset, .unset, .unset] [(.ref b44)])) _
    refine XS.iload X48.here hx rfl (hb hby at_220) rfl ?_
    show Steps p.tables e below (T48.setTop (mkF m 222 #[.val (.long q1), .second, .val (.long q2), .second, .val (.int p3), .val (.int p4), .val (.int p5), .val (.ref b2), .val (.int z8_36), .val (.int z9_37), .val (.int z10_39), .val (.int z11_43), .val (.ref b44), .unset, .unset, .unset, .unset, .unset, .unset] [(.int z8_36), (.ref b44)])) _
    exact kt
  refine OwnG.st sg51 ?_
  obtain ⟨cq52, kq52, q52a, q52b, q52c⟩ := isOf hZ rfl Eq48
  obtain ⟨vb52, _, B52, -, Xb52, hb52, sb52⟩ := X48.virtualBack hx (y := (⟨"com/example/ubicacion/ubicacion/lmf/AlignedPer$Reader", "bits", "(I)J"⟩ : MethodName)) (z := (⟨"com/example/ubicacion/ubicacion/lmf/AlignedPer$Reader", "bits", "(I)J"⟩ : MethodName)) hown (mvT hZ (hw _ (List.mem_of_getElem? (i := 16) rfl))) (mvT hZ (hw _ (List.mem_of_getElem? (i := 17) rfl))) (notFace_of_selects (args := #[]) (mvT hZ (hw _ (List.mem_of_getElem? (i := 19) rfl)))) (mvT hZ (hw _ (List.mem_of_getElem? (i := 19) rfl))) (mvT hZ (hw _ (List.mem_of_getElem? (i := 18) rfl))) (by decide) (backOf (W := 0) (rm4 l Z a0 hw [] b44 z8_36 b2 0 16 gB T48.heap n0 Z48 gb_b44 Eq48 Fe48 Fp48' fA_b2_49 ne44_45 (by have q := hks; omega) (by show 0 + _ ≤ 8 * 16; have q := hks; omega) (by decide)) hZ (hw _ (List.mem_of_getElem? (i := 20) rfl)) (hw _ (List.mem_of_getElem? (i := 7) rfl)) (by decide) (by decide)) q52a q52c (g := (mkF m 222 #[.val (.long q1), .second, .val (.long q2), .second, .val (.int p3), .val (.int p4), .val (.int p5), .val (.ref b2), .val (.int z8_36), .val (.int z9_37), .val (.int z10_39), .val (.int z11_43), .val (.ref b44), .unset, .unset, .unset, .unset, .unset, .unset] [(.int z8_36), (.ref b44)])) rfl (by rw [hml]; rfl) (Steps.refl _) (argsL := [(.int z8_36)]) (rest := []) (lenOf pd_0_2 rfl) rfl (by show 2 * 0 + _ ≤ _; exact Nat.le_of_eq rfl) (hb hby at_222) (fun _ _ => ⟨rfl, rfl, (by decide : 2 + 0 ≤ _), (by decide : 18 + 0 ≤ _)⟩)
  obtain ⟨T52, Lc52, vc52, X52, hQ52, st52⟩ := own_bk (F' := fun v => { ((mkF m 222 #[.val (.long q1), .second, .val (.long q2), .second, .val (.int p3), .val (.int p4), .val (.int p5), .val (.ref b2), .val (.int z8_36), .val (.int z9_37), .val (.int z10_39), .val (.int z11_43), .val (.ref b44), .unset, .unset, .unset, .unset, .unset, .unset] [(.int z8_36), (.ref b44)]) : JFrame) with pc := 225, stack := v.toList ++ [] }) (ck := 2) (sn := 18) Xb52 hb52 (fun _ k => sb52.trans k) rfl rfl
  obtain ⟨hv52, N52q, Kq52, Eq52, Fe52, Fp52⟩ := hQ52
  have Z52 : n0 ≤ T52.heap.size := Nat.le_trans Z48 Kq52.1
  have fA_b2_53 := (fA_b2_49.keep Kq52 (ninS ne44_45 nin0))
  have fE_b44_54 := (Exa.keep Eq48 Kq52)
  have N52 := Fr.app N48 N52q
  refine OwnG.st (F' := (mkF m 225 #[.val (.long q1), .second, .val (.long q2), .second, .val (.int p3), .val (.int p4), .val (.int p5), .val (.ref b2), .val (.int z8_36), .val (.int z9_37), .val (.int z10_39), .val (.int z11_43), .val (.ref b44), .unset, .unset, .unset, .unset, .unset, .unset] [(.long (own_bits gB 0 z8_36.toInt.toNat))])) (fun t k => st52 t (by rw [hv52]; exact k)) ?_
  clear Xb52 hb52 sb52 st52 hv52
  have sg55 : ∀ tgt, Steps p.tables e below (T52.setTop (mkF m 231 #[.val (.long q1), .second, .val (.long q2), .second, .val (.int p3), .val (.int p4), .val (.int p5), .val (.ref b2), .val (.int z8_36), .val (.int z9_37), .val (.int z10_39), .val (.int z11_43), .val (.ref b44), .val (.long (own_bits gB 0 z8_36.toInt.toNat)), .second, .unset, .unset, .unset, .unset] [(.int z9_37), (.ref b44)])) tgt → Steps p.tables e below (T52.setTop (mkF m 225 #[.val (.long q1), .second, .val (.long q2), .second, .val (.int p3), .val (.int p4), .val (.int p5), .val (.ref b2), .val (.int z8_36), .val (.int z9_37), .val (.int z10_39), .val (.int z11_43), .val (.ref b44), .unset, .unset, .unset, .unset, .unset, .unset] [(.long (own_bits gB 0 z8_36.toInt.toNat))])) tgt := by
    intro tgt kt
    refine XS.lstore X52.here hx rfl (hb hby at_225) rfl (l' := #[.val (.long q1), .second, .val (.long q2), .second, .val (.int p3), .val (.int p4), .val (.int p5), .val (.ref b2), .val (.int z8_36), .val (.int z9_37), .val (.int z10_39), .val (.int z11_43), .val (.ref b44), .val (.long (own_bits gB 0 z8_36.toInt.toNat)), .second, .unset, .unset, .unset, .unset]) rfl ?_
    show Steps p.tables e below (T52.setTop (mkF m 227 #[.val (.long q1), .second, .val (.long q2), .second, .val (.int p3), .val (.int p4), .val (.int p5), .val (.ref b2), .val (.int z8_36), .val (.int z9_37), .val (.int z10_39), .val (.int z11_43), .val (.ref b44), .val (.long (own_bits gB 0 z8_36.toInt.toNat)), .second, .unset, .unset, .unset, .unset] [])) _
    refine XS.aload X52.here hx rfl (hb hby at_227) rfl rfl ?_
    show Steps p.tables e below (T52.setTop (mkF m 229 #[.val (.long q1), .second, .val (.long q2), .second, .val (.int p3), .val (.int p4), .val (.int p5), .val (.ref b2), .val (.int z8_36), .val (.int z9_37), .val (.int z10_39), .val (.int z11_43), .val (.ref b44), .val (.long (own_bits gB 0 z8_36.toInt.toNat)), .second, .unset, .unset, .unset, .unset] [(.ref b44)])) _
    refine XS.iload X52.here hx rfl (hb hby at_229) rfl ?_
    show Steps p.tables e below (T52.setTop (mkF m 231 #[.val (.long q1), .second, .val (.long q2), .second, .val (.int p3), .val (.int p4), .val (.int p5), .val (.ref b2), .val (.int z8_36), .val (.int z9_37), .val (.int z10_39), .val (.int z11_43), .val (.ref b44), .val (.long (own_bits gB 0 z8_36.toInt.toNat)), .second, .unset, .unset, .unset, .unset] [(.int z9_37), (.ref b44)])) _
    exact kt
  refine OwnG.st sg55 ?_
  obtain ⟨cq56, kq56, q56a, q56b, q56c⟩ := isOf hZ rfl Eq52
  obtain ⟨vb56, _, B56, -, Xb56, hb56, sb56⟩ := X52.virtualBack hx (y := (⟨"com/example/ubicacion/ubicacion/lmf/AlignedPer$Reader", "bits", "(I)J"⟩ : MethodName)) (z := (⟨"com/example/ubicacion/ubicacion/lmf/AlignedPer$Reader", "bits", "(I)J"⟩ : MethodName)) hown (mvT hZ (hw _ (List.mem_of_getElem? (i := 16) rfl))) (mvT hZ (hw _ (List.mem_of_getElem? (i := 17) rfl))) (notFace_of_selects (args := #[]) (mvT hZ (hw _ (List.mem_of_getElem? (i := 19) rfl)))) (mvT hZ (hw _ (List.mem_of_getElem? (i := 19) rfl))) (mvT hZ (hw _ (List.mem_of_getElem? (i := 18) rfl))) (by decide) (backOf (W := 0) (rm4 l Z a0 hw [] b44 z9_37 b2 (0 + z8_36.toInt.toNat) 16 gB T52.heap n0 Z52 gb_b44 Eq52 Fe52 Fp52 fA_b2_53 ne44_45 (by have q := hks; omega) (by show (0 + z8_36.toInt.toNat) + _ ≤ 8 * 16; have q := hks; omega) (by decide)) hZ (hw _ (List.mem_of_getElem? (i := 20) rfl)) (hw _ (List.mem_of_getElem? (i := 7) rfl)) (by decide) (by decide)) q56a q56c (g := (mkF m 231 #[.val (.long q1), .second, .val (.long q2), .second, .val (.int p3), .val (.int p4), .val (.int p5), .val (.ref b2), .val (.int z8_36), .val (.int z9_37), .val (.int z10_39), .val (.int z11_43), .val (.ref b44), .val (.long (own_bits gB 0 z8_36.toInt.toNat)), .second, .unset, .unset, .unset, .unset] [(.int z9_37), (.ref b44)])) rfl (by rw [hml]; rfl) (Steps.refl _) (argsL := [(.int z9_37)]) (rest := []) (lenOf pd_0_2 rfl) rfl (by show 2 * 0 + _ ≤ _; exact Nat.le_of_eq rfl) (hb hby at_231) (fun _ _ => ⟨rfl, rfl, (by decide : 2 + 0 ≤ _), (by decide : 18 + 0 ≤ _)⟩)
  obtain ⟨T56, Lc56, vc56, X56, hQ56, st56⟩ := own_bk (F' := fun v => { ((mkF m 231 #[.val (.long q1), .second, .val (.long q2), .second, .val (.int p3), .val (.int p4), .val (.int p5), .val (.ref b2), .val (.int z8_36), .val (.int z9_37), .val (.int z10_39), .val (.int z11_43), .val (.ref b44), .val (.long (own_bits gB 0 z8_36.toInt.toNat)), .second, .unset, .unset, .unset, .unset] [(.int z9_37), (.ref b44)]) : JFrame) with pc := 234, stack := v.toList ++ [] }) (ck := 2) (sn := 18) Xb56 hb56 (fun _ k => sb56.trans k) rfl rfl
  obtain ⟨hv56, N56q, Kq56, Eq56, Fe56, Fp56⟩ := hQ56
  have Z56 : n0 ≤ T56.heap.size := Nat.le_trans Z52 Kq56.1
  have fA_b2_57 := (fA_b2_53.keep Kq56 (ninS ne44_45 nin0))
  have fE_b44_58 := (Exa.keep Eq52 Kq56)
  have N56 := Fr.app N52 N56q
  refine OwnG.st (F' := (mkF m 234 #[.val (.long q1), .second, .val (.long q2), .second, .val (.int p3), .val (.int p4), .val (.int p5), .val (.ref b2), .val (.int z8_36), .val (.int z9_37), .val (.int z10_39), .val (.int z11_43), .val (.ref b44), .val (.long (own_bits gB 0 z8_36.toInt.toNat)), .second, .unset, .unset, .unset, .unset] [(.long (own_bits gB (0 + z8_36.toInt.toNat) z9_37.toInt.toNat))])) (fun t k => st56 t (by rw [hv56]; exact k)) ?_
  clear Xb56 hb56 sb56 st56 hv56
  have sg59 : ∀ tgt, Steps p.tables e below (T56.setTop (mkF m 240 #[.val (.long q1), .second, .val (.long q2), .second, .val (.int p3), .val (.int p4), .val (.int p5), .val (.ref b2), .val (.int z8_36), .val (.int z9_37), .val (.int z10_39), .val (.int z11_43), .val (.ref b44), .val (.long (own_bits gB 0 z8_36.toInt.toNat)), .second, .val (.long (own_bits gB (0 + z8_36.toInt.toNat) z9_37.toInt.toNat)), .second, .unset, .unset] [(.int z11_43), (.ref b44)])) tgt → Steps p.tables e below (T56.setTop (mkF m 234 #[.val (.long q1), .second, .val (.long q2), .second, .val (.int p3), .val (.int p4), .val (.int p5), .val (.ref b2), .val (.int z8_36), .val (.int z9_37), .val (.int z10_39), .val (.int z11_43), .val (.ref b44), .val (.long (own_bits gB 0 z8_36.toInt.toNat)), .second, .unset, .unset, .unset, .unset] [(.long (own_bits gB (0 + z8_36.toInt.toNat) z9_37.toInt.toNat))])) tgt := by
    intro tgt kt
    refine XS.lstore X56.here hx rfl (hb hby at_234) rfl (l' := #[.val (.long q1), .second, .val (.long q2), .second, .val (.int p3), .val (.int p4), .val (.int p5), .val (.ref b2), .val (.int z8_36), .val (.int z9_37), .val (.int z10_39), .val (.int z11_43), .val (.ref b44), .val (.long (own_bits gB 0 z8_36.toInt.toNat)), .second, .val (.long (own_bits gB (0 + z8_36.toInt.toNat) z9_37.toInt.toNat)), .second, .unset, .unset]) rfl ?_
    show Steps p.tables e below (T56.setTop (mkF m 236 #[.val (.long q1), .second, .val (.long q2), .second, .val (.int p3), .val (.int p4), .val (.int p5), .val (.ref b2), .val (.int z8_36), .val (.int z9_37), .val (.int z10_39), .val (.int z11_43), .val (.ref b44), .val (.long (own_bits gB 0 z8_36.toInt.toNat)), .second, .val (.long (own_bits gB (0 + z8_36.toInt.toNat) z9_37.toInt.toNat)), .second, .unset, .unset] [])) _
    refine XS.aload X56.here hx rfl (hb hby at_236) rfl rfl ?_
    show Steps p.tables e below (T56.setTop (mkF m 238 #[.val (.long q1), .second, .val (.long q2), .second, .val (.int p3), .val (.int p4), .val (.int p5), .val (.ref b2), .val (.int z8_36), .val (.int z9_37), .val (.int z10_39), .val (.int z11_43), .val (.ref b44), .val (.long (own_bits gB 0 z8_36.toInt.toNat)), .second, .val (.long (own_bits gB (0 + z8_36.toInt.toNat) z9_37.toInt.toNat)), .second, .unset, .unset] [(.ref b44)])) _
    refine XS.iload X56.here hx rfl (hb hby at_238) rfl ?_
    show Steps p.tables e below (T56.setTop (mkF m 240 #[.val (.long q1), .second, .val (.long q2), .second, .val (.int p3), .val (.int p4), .val (.int p5), .val (.ref b2), .val (.int z8_36), .val (.int z9_37), .val (.int z10_39), .val (.int z11_43), .val (.ref b44), .val (.long (own_bits gB 0 z8_36.toInt.toNat)), .second, .val (.long (own_bits gB (0 + z8_36.toInt.toNat) z9_37.toInt.toNat)), .second, .unset, .unset] [(.int z11_43), (.ref b44)])) _
    exact kt
  refine OwnG.st sg59 ?_
  obtain ⟨cq60, kq60, q60a, q60b, q60c⟩ := isOf hZ rfl Eq56
  obtain ⟨vb60, _, B60, -, Xb60, hb60, sb60⟩ := X56.virtualBack hx (y := (⟨"com/example/ubicacion/ubicacion/lmf/AlignedPer$Reader", "bits", "(I)J"⟩ : MethodName)) (z := (⟨"com/example/ubicacion/ubicacion/lmf/AlignedPer$Reader", "bits", "(I)J"⟩ : MethodName)) hown (mvT hZ (hw _ (List.mem_of_getElem? (i := 16) rfl))) (mvT hZ (hw _ (List.mem_of_getElem? (i := 17) rfl))) (notFace_of_selects (args := #[]) (mvT hZ (hw _ (List.mem_of_getElem? (i := 19) rfl)))) (mvT hZ (hw _ (List.mem_of_getElem? (i := 19) rfl))) (mvT hZ (hw _ (List.mem_of_getElem? (i := 18) rfl))) (by decide) (backOf (W := 0) (rm4 l Z a0 hw [] b44 z11_43 b2 ((0 + z8_36.toInt.toNat) + z9_37.toInt.toNat) 16 gB T56.heap n0 Z56 gb_b44 Eq56 Fe56 Fp56 fA_b2_57 ne44_45 (by have q := hks; omega) (by show ((0 + z8_36.toInt.toNat) + z9_37.toInt.toNat) + _ ≤ 8 * 16; have q := hks; omega) (by decide)) hZ (hw _ (List.mem_of_getElem? (i := 20) rfl)) (hw _ (List.mem_of_getElem? (i := 7) rfl)) (by decide) (by decide)) q60a q60c (g := (mkF m 240 #[.val (.long q1), .second, .val (.long q2), .second, .val (.int p3), .val (.int p4), .val (.int p5), .val (.ref b2), .val (.int z8_36), .val (.int z9_37), .val (.int z10_39), .val (.int z11_43), .val (.ref b44), .val (.long (own_bits gB 0 z8_36.toInt.toNat)), .second, .val (.long (own_bits gB (0 + z8_36.toInt.toNat) z9_37.toInt.toNat)), .second, .unset, .unset] [(.int z11_43), (.ref b44)])) rfl (by rw [hml]; rfl) (Steps.refl _) (argsL := [(.int z11_43)]) (rest := []) (lenOf pd_0_2 rfl) rfl (by show 2 * 0 + _ ≤ _; exact Nat.le_of_eq rfl) (hb hby at_240) (fun _ _ => ⟨rfl, rfl, (by decide : 2 + 0 ≤ _), (by decide : 18 + 0 ≤ _)⟩)
  obtain ⟨T60, Lc60, vc60, X60, hQ60, st60⟩ := own_bk (F' := fun v => { ((mkF m 240 #[.val (.long q1), .second, .val (.long q2), .second, .val (.int p3), .val (.int p4), .val (.int p5), .val (.ref b2), .val (.int z8_36), .val (.int z9_37), .val (.int z10_39), .val (.int z11_43), .val (.ref b44), .val (.long (own_bits gB 0 z8_36.toInt.toNat)), .second, .val (.long (own_bits gB (0 + z8_36.toInt.toNat) z9_37.toInt.toNat)), .second, .unset, .unset] [(.int z11_43), (.ref b44)]) : JFrame) with pc := 243, stack := v.toList ++ [] }) (ck := 2) (sn := 18) Xb60 hb60 (fun _ k => sb60.trans k) rfl rfl
  obtain ⟨hv60, N60q, Kq60, Eq60, Fe60, Fp60⟩ := hQ60
  have Z60 : n0 ≤ T60.heap.size := Nat.le_trans Z56 Kq60.1
  have fA_b2_61 := (fA_b2_57.keep Kq60 (ninS ne44_45 nin0))
  have fE_b44_62 := (Exa.keep Eq56 Kq60)
  have N60 := Fr.app N56 N60q
  refine OwnG.st (F' := (mkF m 243 #[.val (.long q1), .second, .val (.long q2), .second, .val (.int p3), .val (.int p4), .val (.int p5), .val (.ref b2), .val (.int z8_36), .val (.int z9_37), .val (.int z10_39), .val (.int z11_43), .val (.ref b44), .val (.long (own_bits gB 0 z8_36.toInt.toNat)), .second, .val (.long (own_bits gB (0 + z8_36.toInt.toNat) z9_37.toInt.toNat)), .second, .unset, .unset] [(.long (own_bits gB ((0 + z8_36.toInt.toNat) + z9_37.toInt.toNat) z11_43.toInt.toNat))])) (fun t k => st60 t (by rw [hv60]; exact k)) ?_
  clear Xb60 hb60 sb60 st60 hv60
  have sg63 : ∀ tgt, Steps p.tables e below (T60.setTop (mkF m 252 #[.val (.long q1), .second, .val (.long q2), .second, .val (.int p3), .val (.int p4), .val (.int p5), .val (.ref b2), .val (.int z8_36), .val (.int z9_37), .val (.int z10_39), .val (.int z11_43), .val (.ref b44), .val (.long (own_bits gB 0 z8_36.toInt.toNat)), .second, .val (.long (own_bits gB (0 + z8_36.toInt.toNat) z9_37.toInt.toNat)), .second, .val (.long (own_bits gB ((0 + z8_36.toInt.toNat) + z9_37.toInt.toNat) z11_43.toInt.toNat)), .second] [(.int z8_36), (.int (0 : Int32)), (.long q2), (.long q1), (.long (own_bits gB 0 z8_36.toInt.toNat))])) tgt → Steps p.tables e below (T60.setTop (mkF m 243 #[.val (.long q1), .second, .val (.long q2), .second, .val (.int p3), .val (.int p4), .val (.int p5), .val (.ref b2), .val (.int z8_36), .val (.int z9_37), .val (.int z10_39), .val (.int z11_43), .val (.ref b44), .val (.long (own_bits gB 0 z8_36.toInt.toNat)), .second, .val (.long (own_bits gB (0 + z8_36.toInt.toNat) z9_37.toInt.toNat)), .second, .unset, .unset] [(.long (own_bits gB ((0 + z8_36.toInt.toNat) + z9_37.toInt.toNat) z11_43.toInt.toNat))])) tgt := by
    intro tgt kt
    refine XS.lstore X60.here hx rfl (hb hby at_243) rfl (l' := #[.val (.long q1), .second, .val (.long q2), .second, .val (.int p3), .val (.int p4), .val (.int p5), .val (.ref b2), .val (.int z8_36), .val (.int z9_37), .val (.int z10_39), .val (.int z11_43), .val (.ref b44), .val (.long (own_bits gB 0 z8_36.toInt.toNat)), .second, .val (.long (own_bits gB (0 + z8_36.toInt.toNat) z9_37.toInt.toNat)), .second, .val (.long (own_bits gB ((0 + z8_36.toInt.toNat) + z9_37.toInt.toNat) z11_43.toInt.toNat)), .second]) rfl ?_
    show Steps p.tables e below (T60.setTop (mkF m 245 #[.val (.long q1), .second, .val (.long q2), .second, .val (.int p3), .val (.int p4), .val (.int p5), .val (.ref b2), .val (.int z8_36), .val (.int z9_37), .val (.int z10_39), .val (.int z11_43), .val (.ref b44), .val (.long (own_bits gB 0 z8_36.toInt.toNat)), .second, .val (.long (own_bits gB (0 + z8_36.toInt.toNat) z9_37.toInt.toNat)), .second, .val (.long (own_bits gB ((0 + z8_36.toInt.toNat) + z9_37.toInt.toNat) z11_43.toInt.toNat)), .second] [])) _
    refine XS.lload X60.here hx rfl (hb hby at_245) rfl ?_
    show Steps p.tables e below (T60.setTop (mkF m 247 #[.val (.long q1), .second, .val (.long q2), .second, .val (.int p3), .val (.int p4), .val (.int p5), .val (.ref b2), .val (.int z8_36), .val (.int z9_37), .val (.int z10_39), .val (.int z11_43), .val (.ref b44), .val (.long (own_bits gB 0 z8_36.toInt.toNat)), .second, .val (.long (own_bits gB (0 + z8_36.toInt.toNat) z9_37.toInt.toNat)), .second, .val (.long (own_bits gB ((0 + z8_36.toInt.toNat) + z9_37.toInt.toNat) z11_43.toInt.toNat)), .second] [(.long (own_bits gB 0 z8_36.toInt.toNat))])) _
    refine XS.lloadN X60.here hx rfl (hb hby at_247) rfl ?_
    show Steps p.tables e below (T60.setTop (mkF m 248 #[.val (.long q1), .second, .val (.long q2), .second, .val (.int p3), .val (.int p4), .val (.int p5), .val (.ref b2), .val (.int z8_36), .val (.int z9_37), .val (.int z10_39), .val (.int z11_43), .val (.ref b44), .val (.long (own_bits gB 0 z8_36.toInt.toNat)), .second, .val (.long (own_bits gB (0 + z8_36.toInt.toNat) z9_37.toInt.toNat)), .second, .val (.long (own_bits gB ((0 + z8_36.toInt.toNat) + z9_37.toInt.toNat) z11_43.toInt.toNat)), .second] [(.long q1), (.long (own_bits gB 0 z8_36.toInt.toNat))])) _
    refine XS.lloadN X60.here hx rfl (hb hby at_248) rfl ?_
    show Steps p.tables e below (T60.setTop (mkF m 249 #[.val (.long q1), .second, .val (.long q2), .second, .val (.int p3), .val (.int p4), .val (.int p5), .val (.ref b2), .val (.int z8_36), .val (.int z9_37), .val (.int z10_39), .val (.int z11_43), .val (.ref b44), .val (.long (own_bits gB 0 z8_36.toInt.toNat)), .second, .val (.long (own_bits gB (0 + z8_36.toInt.toNat) z9_37.toInt.toNat)), .second, .val (.long (own_bits gB ((0 + z8_36.toInt.toNat) + z9_37.toInt.toNat) z11_43.toInt.toNat)), .second] [(.long q2), (.long q1), (.long (own_bits gB 0 z8_36.toInt.toNat))])) _
    refine XS.iconst X60.here hx rfl (hb hby at_249) ?_
    show Steps p.tables e below (T60.setTop (mkF m 250 #[.val (.long q1), .second, .val (.long q2), .second, .val (.int p3), .val (.int p4), .val (.int p5), .val (.ref b2), .val (.int z8_36), .val (.int z9_37), .val (.int z10_39), .val (.int z11_43), .val (.ref b44), .val (.long (own_bits gB 0 z8_36.toInt.toNat)), .second, .val (.long (own_bits gB (0 + z8_36.toInt.toNat) z9_37.toInt.toNat)), .second, .val (.long (own_bits gB ((0 + z8_36.toInt.toNat) + z9_37.toInt.toNat) z11_43.toInt.toNat)), .second] [(.int (0 : Int32)), (.long q2), (.long q1), (.long (own_bits gB 0 z8_36.toInt.toNat))])) _
    refine XS.iload X60.here hx rfl (hb hby at_250) rfl ?_
    show Steps p.tables e below (T60.setTop (mkF m 252 #[.val (.long q1), .second, .val (.long q2), .second, .val (.int p3), .val (.int p4), .val (.int p5), .val (.ref b2), .val (.int z8_36), .val (.int z9_37), .val (.int z10_39), .val (.int z11_43), .val (.ref b44), .val (.long (own_bits gB 0 z8_36.toInt.toNat)), .second, .val (.long (own_bits gB (0 + z8_36.toInt.toNat) z9_37.toInt.toNat)), .second, .val (.long (own_bits gB ((0 + z8_36.toInt.toNat) + z9_37.toInt.toNat) z11_43.toInt.toNat)), .second] [(.int z8_36), (.int (0 : Int32)), (.long q2), (.long q1), (.long (own_bits gB 0 z8_36.toInt.toNat))])) _
    exact kt
  refine OwnG.st sg63 ?_
  obtain ⟨vb64, _, B64, -, Xb64, hb64, sb64⟩ := Jvm.LawKit.callS X60 hx (y := (⟨"com/example/ubicacion/ubicacion/lmf/ReaderBitsPinLaw", "ref", "(JJII)J"⟩ : MethodName)) hown (mvT hZ (hw _ (List.mem_of_getElem? (i := 25) rfl))) (mvT hZ (hw _ (List.mem_of_getElem? (i := 26) rfl))) (mvT hZ (hw _ (List.mem_of_getElem? (i := 27) rfl))) (mvT hZ (hw _ (List.mem_of_getElem? (i := 28) rfl))) (by decide) (backOf (W := 2) (rm5 l Z a0 hw [] q1 q2 (0 : Int32) z8_36  T60.heap n0 Z60 ) hZ (hw _ (List.mem_of_getElem? (i := 28) rfl)) (hw _ (List.mem_of_getElem? (i := 27) rfl)) (by decide) (by decide)) (g := (mkF m 252 #[.val (.long q1), .second, .val (.long q2), .second, .val (.int p3), .val (.int p4), .val (.int p5), .val (.ref b2), .val (.int z8_36), .val (.int z9_37), .val (.int z10_39), .val (.int z11_43), .val (.ref b44), .val (.long (own_bits gB 0 z8_36.toInt.toNat)), .second, .val (.long (own_bits gB (0 + z8_36.toInt.toNat) z9_37.toInt.toNat)), .second, .val (.long (own_bits gB ((0 + z8_36.toInt.toNat) + z9_37.toInt.toNat) z11_43.toInt.toNat)), .second] [(.int z8_36), (.int (0 : Int32)), (.long q2), (.long q1), (.long (own_bits gB 0 z8_36.toInt.toNat))])) rfl (by rw [hml]; rfl) (argsL := [(.long q1), (.long q2), (.int (0 : Int32)), (.int z8_36)]) (rest := [(.long (own_bits gB 0 z8_36.toInt.toNat))]) (lenOf pd_0_3 rfl) rfl (by show 2 * 0 + _ ≤ _; exact Nat.le_of_eq rfl) (hb hby at_252) (fun _ _ => ⟨rfl, rfl, (by decide : 2 + 0 ≤ _), (by decide : 18 + 0 ≤ _)⟩)
  obtain ⟨T64, Lc64, vc64, X64, hQ64, st64⟩ := own_bk (F' := fun v => { ((mkF m 252 #[.val (.long q1), .second, .val (.long q2), .second, .val (.int p3), .val (.int p4), .val (.int p5), .val (.ref b2), .val (.int z8_36), .val (.int z9_37), .val (.int z10_39), .val (.int z11_43), .val (.ref b44), .val (.long (own_bits gB 0 z8_36.toInt.toNat)), .second, .val (.long (own_bits gB (0 + z8_36.toInt.toNat) z9_37.toInt.toNat)), .second, .val (.long (own_bits gB ((0 + z8_36.toInt.toNat) + z9_37.toInt.toNat) z11_43.toInt.toNat)), .second] [(.int z8_36), (.int (0 : Int32)), (.long q2), (.long q1), (.long (own_bits gB 0 z8_36.toInt.toNat))]) : JFrame) with pc := 255, stack := v.toList ++ [(.long (own_bits gB 0 z8_36.toInt.toNat))] }) (ck := 2) (sn := 18) Xb64 hb64 sb64 rfl rfl
  obtain ⟨hv64, N64q, e64⟩ := hQ64
  have N64 := Fr.app N60 N64q
  refine OwnG.st (F' := (mkF m 255 #[.val (.long q1), .second, .val (.long q2), .second, .val (.int p3), .val (.int p4), .val (.int p5), .val (.ref b2), .val (.int z8_36), .val (.int z9_37), .val (.int z10_39), .val (.int z11_43), .val (.ref b44), .val (.long (own_bits gB 0 z8_36.toInt.toNat)), .second, .val (.long (own_bits gB (0 + z8_36.toInt.toNat) z9_37.toInt.toNat)), .second, .val (.long (own_bits gB ((0 + z8_36.toInt.toNat) + z9_37.toInt.toNat) z11_43.toInt.toNat)), .second] [(.long (F5 q1 q2 (0 : Int32) z8_36)), (.long (own_bits gB 0 z8_36.toInt.toNat))])) (fun t k => st64 t (by rw [hv64]; exact k)) ?_
  clear Xb64 hb64 sb64 st64 hv64
  have hc256_65 : (own_bits gB 0 z8_36.toInt.toNat) = (F5 q1 q2 (0 : Int32) z8_36) := own_ref gB _ _ _ _ _ _ (by first | rfl | (show _ = ((0 + _ : Nat) : Int); omega) | (show _ = ((0 + _ + _ : Nat) : Int); omega)) (by omega) (by omega) (by omega) hgg
  have sg66 : ∀ tgt, Steps p.tables e below (T64.setTop (mkF m 267 #[.val (.long q1), .second, .val (.long q2), .second, .val (.int p3), .val (.int p4), .val (.int p5), .val (.ref b2), .val (.int z8_36), .val (.int z9_37), .val (.int z10_39), .val (.int z11_43), .val (.ref b44), .val (.long (own_bits gB 0 z8_36.toInt.toNat)), .second, .val (.long (own_bits gB (0 + z8_36.toInt.toNat) z9_37.toInt.toNat)), .second, .val (.long (own_bits gB ((0 + z8_36.toInt.toNat) + z9_37.toInt.toNat) z11_43.toInt.toNat)), .second] [(.int z9_37), (.int z8_36), (.long q2), (.long q1), (.long (own_bits gB (0 + z8_36.toInt.toNat) z9_37.toInt.toNat))])) tgt → Steps p.tables e below (T64.setTop (mkF m 255 #[.val (.long q1), .second, .val (.long q2), .second, .val (.int p3), .val (.int p4), .val (.int p5), .val (.ref b2), .val (.int z8_36), .val (.int z9_37), .val (.int z10_39), .val (.int z11_43), .val (.ref b44), .val (.long (own_bits gB 0 z8_36.toInt.toNat)), .second, .val (.long (own_bits gB (0 + z8_36.toInt.toNat) z9_37.toInt.toNat)), .second, .val (.long (own_bits gB ((0 + z8_36.toInt.toNat) + z9_37.toInt.toNat) z11_43.toInt.toNat)), .second] [(.long (F5 q1 q2 (0 : Int32) z8_36)), (.long (own_bits gB 0 z8_36.toInt.toNat))])) tgt := by
    intro tgt kt
    refine XS.lcmp X64.here hx rfl (hb hby at_255) rfl ?_
    show Steps p.tables e below (T64.setTop (mkF m 256 #[.val (.long q1), .second, .val (.long q2), .second, .val (.int p3), .val (.int p4), .val (.int p5), .val (.ref b2), .val (.int z8_36), .val (.int z9_37), .val (.int z10_39), .val (.int z11_43), .val (.ref b44), .val (.long (own_bits gB 0 z8_36.toInt.toNat)), .second, .val (.long (own_bits gB (0 + z8_36.toInt.toNat) z9_37.toInt.toNat)), .second, .val (.long (own_bits gB ((0 + z8_36.toInt.toNat) + z9_37.toInt.toNat) z11_43.toInt.toNat)), .second] [(.int (lcmpW (own_bits gB 0 z8_36.toInt.toNat) (F5 q1 q2 (0 : Int32) z8_36)))])) _
    refine XS.ifNo X64.here hx rfl (hb hby at_256) rfl ((if0 _ _).trans (teq ((lw_eq (own_bits gB 0 z8_36.toInt.toNat) (F5 q1 q2 (0 : Int32) z8_36)).mpr hc256_65)).2) ?_
    show Steps p.tables e below (T64.setTop (mkF m 259 #[.val (.long q1), .second, .val (.long q2), .second, .val (.int p3), .val (.int p4), .val (.int p5), .val (.ref b2), .val (.int z8_36), .val (.int z9_37), .val (.int z10_39), .val (.int z11_43), .val (.ref b44), .val (.long (own_bits gB 0 z8_36.toInt.toNat)), .second, .val (.long (own_bits gB (0 + z8_36.toInt.toNat) z9_37.toInt.toNat)), .second, .val (.long (own_bits gB ((0 + z8_36.toInt.toNat) + z9_37.toInt.toNat) z11_43.toInt.toNat)), .second] [])) _
    refine XS.lload X64.here hx rfl (hb hby at_259) rfl ?_
    show Steps p.tables e below (T64.setTop (mkF m 261 #[.val (.long q1), .second, .val (.long q2), .second, .val (.int p3), .val (.int p4), .val (.int p5), .val (.ref b2), .val (.int z8_36), .val (.int z9_37), .val (.int z10_39), .val (.int z11_43), .val (.ref b44), .val (.long (own_bits gB 0 z8_36.toInt.toNat)), .second, .val (.long (own_bits gB (0 + z8_36.toInt.toNat) z9_37.toInt.toNat)), .second, .val (.long (own_bits gB ((0 + z8_36.toInt.toNat) + z9_37.toInt.toNat) z11_43.toInt.toNat)), .second] [(.long (own_bits gB (0 + z8_36.toInt.toNat) z9_37.toInt.toNat))])) _
    refine XS.lloadN X64.here hx rfl (hb hby at_261) rfl ?_
    show Steps p.tables e below (T64.setTop (mkF m 262 #[.val (.long q1), .second, .val (.long q2), .second, .val (.int p3), .val (.int p4), .val (.int p5), .val (.ref b2), .val (.int z8_36), .val (.int z9_37), .val (.int z10_39), .val (.int z11_43), .val (.ref b44), .val (.long (own_bits gB 0 z8_36.toInt.toNat)), .second, .val (.long (own_bits gB (0 + z8_36.toInt.toNat) z9_37.toInt.toNat)), .second, .val (.long (own_bits gB ((0 + z8_36.toInt.toNat) + z9_37.toInt.toNat) z11_43.toInt.toNat)), .second] [(.long q1), (.long (own_bits gB (0 + z8_36.toInt.toNat) z9_37.toInt.toNat))])) _
    refine XS.lloadN X64.here hx rfl (hb hby at_262) rfl ?_
    show Steps p.tables e below (T64.setTop (mkF m 263 #[.val (.long q1), .second, .val (.long q2), .second, .val (.int p3), .val (.int p4), .val (.int p5), .val (.ref b2), .val (.int z8_36), .val (.int z9_37), .val (.int z10_39), .val (.int z11_43), .val (.ref b44), .val (.long (own_bits gB 0 z8_36.toInt.toNat)), .second, .val (.long (own_bits gB (0 + z8_36.toInt.toNat) z9_37.toInt.toNat)), .second, .val (.long (own_bits gB ((0 + z8_36.toInt.toNat) + z9_37.toInt.toNat) z11_43.toInt.toNat)), .second] [(.long q2), (.long q1), (.long (own_bits gB (0 + z8_36.toInt.toNat) z9_37.toInt.toNat))])) _
    refine XS.iload X64.here hx rfl (hb hby at_263) rfl ?_
    show Steps p.tables e below (T64.setTop (mkF m 265 #[.val (.long q1), .second, .val (.long q2), .second, .val (.int p3), .val (.int p4), .val (.int p5), .val (.ref b2), .val (.int z8_36), .val (.int z9_37), .val (.int z10_39), .val (.int z11_43), .val (.ref b44), .val (.long (own_bits gB 0 z8_36.toInt.toNat)), .second, .val (.long (own_bits gB (0 + z8_36.toInt.toNat) z9_37.toInt.toNat)), .second, .val (.long (own_bits gB ((0 + z8_36.toInt.toNat) + z9_37.toInt.toNat) z11_43.toInt.toNat)), .second] [(.int z8_36), (.long q2), (.long q1), (.long (own_bits gB (0 + z8_36.toInt.toNat) z9_37.toInt.toNat))])) _
    refine XS.iload X64.here hx rfl (hb hby at_265) rfl ?_
    show Steps p.tables e below (T64.setTop (mkF m 267 #[.val (.long q1), .second, .val (.long q2), .second, .val (.int p3), .val (.int p4), .val (.int p5), .val (.ref b2), .val (.int z8_36), .val (.int z9_37), .val (.int z10_39), .val (.int z11_43), .val (.ref b44), .val (.long (own_bits gB 0 z8_36.toInt.toNat)), .second, .val (.long (own_bits gB (0 + z8_36.toInt.toNat) z9_37.toInt.toNat)), .second, .val (.long (own_bits gB ((0 + z8_36.toInt.toNat) + z9_37.toInt.toNat) z11_43.toInt.toNat)), .second] [(.int z9_37), (.int z8_36), (.long q2), (.long q1), (.long (own_bits gB (0 + z8_36.toInt.toNat) z9_37.toInt.toNat))])) _
    exact kt
  refine OwnG.st sg66 ?_
  obtain ⟨vb67, _, B67, -, Xb67, hb67, sb67⟩ := Jvm.LawKit.callS X64 hx (y := (⟨"com/example/ubicacion/ubicacion/lmf/ReaderBitsPinLaw", "ref", "(JJII)J"⟩ : MethodName)) hown (mvT hZ (hw _ (List.mem_of_getElem? (i := 25) rfl))) (mvT hZ (hw _ (List.mem_of_getElem? (i := 26) rfl))) (mvT hZ (hw _ (List.mem_of_getElem? (i := 27) rfl))) (mvT hZ (hw _ (List.mem_of_getElem? (i := 28) rfl))) (by decide) (backOf (W := 2) (rm5 l Z a0 hw [] q1 q2 z8_36 z9_37  T60.heap n0 Z60 ) hZ (hw _ (List.mem_of_getElem? (i := 28) rfl)) (hw _ (List.mem_of_getElem? (i := 27) rfl)) (by decide) (by decide)) (g := (mkF m 267 #[.val (.long q1), .second, .val (.long q2), .second, .val (.int p3), .val (.int p4), .val (.int p5), .val (.ref b2), .val (.int z8_36), .val (.int z9_37), .val (.int z10_39), .val (.int z11_43), .val (.ref b44), .val (.long (own_bits gB 0 z8_36.toInt.toNat)), .second, .val (.long (own_bits gB (0 + z8_36.toInt.toNat) z9_37.toInt.toNat)), .second, .val (.long (own_bits gB ((0 + z8_36.toInt.toNat) + z9_37.toInt.toNat) z11_43.toInt.toNat)), .second] [(.int z9_37), (.int z8_36), (.long q2), (.long q1), (.long (own_bits gB (0 + z8_36.toInt.toNat) z9_37.toInt.toNat))])) rfl (by rw [hml]; rfl) (argsL := [(.long q1), (.long q2), (.int z8_36), (.int z9_37)]) (rest := [(.long (own_bits gB (0 + z8_36.toInt.toNat) z9_37.toInt.toNat))]) (lenOf pd_0_3 rfl) rfl (by show 2 * 0 + _ ≤ _; exact Nat.le_of_eq rfl) (hb hby at_267) (fun _ _ => ⟨rfl, e64, (by decide : 2 + 0 ≤ _), (by decide : 18 + 0 ≤ _)⟩)
  obtain ⟨T67, Lc67, vc67, X67, hQ67, st67⟩ := own_bk (F' := fun v => { ((mkF m 267 #[.val (.long q1), .second, .val (.long q2), .second, .val (.int p3), .val (.int p4), .val (.int p5), .val (.ref b2), .val (.int z8_36), .val (.int z9_37), .val (.int z10_39), .val (.int z11_43), .val (.ref b44), .val (.long (own_bits gB 0 z8_36.toInt.toNat)), .second, .val (.long (own_bits gB (0 + z8_36.toInt.toNat) z9_37.toInt.toNat)), .second, .val (.long (own_bits gB ((0 + z8_36.toInt.toNat) + z9_37.toInt.toNat) z11_43.toInt.toNat)), .second] [(.int z9_37), (.int z8_36), (.long q2), (.long q1), (.long (own_bits gB (0 + z8_36.toInt.toNat) z9_37.toInt.toNat))]) : JFrame) with pc := 270, stack := v.toList ++ [(.long (own_bits gB (0 + z8_36.toInt.toNat) z9_37.toInt.toNat))] }) (ck := 2) (sn := 18) Xb67 hb67 sb67 rfl rfl
  obtain ⟨hv67, N67q, e67⟩ := hQ67
  have N67 := Fr.app N64 N67q
  refine OwnG.st (F' := (mkF m 270 #[.val (.long q1), .second, .val (.long q2), .second, .val (.int p3), .val (.int p4), .val (.int p5), .val (.ref b2), .val (.int z8_36), .val (.int z9_37), .val (.int z10_39), .val (.int z11_43), .val (.ref b44), .val (.long (own_bits gB 0 z8_36.toInt.toNat)), .second, .val (.long (own_bits gB (0 + z8_36.toInt.toNat) z9_37.toInt.toNat)), .second, .val (.long (own_bits gB ((0 + z8_36.toInt.toNat) + z9_37.toInt.toNat) z11_43.toInt.toNat)), .second] [(.long (F5 q1 q2 z8_36 z9_37)), (.long (own_bits gB (0 + z8_36.toInt.toNat) z9_37.toInt.toNat))])) (fun t k => st67 t (by rw [hv67]; exact k)) ?_
  clear Xb67 hb67 sb67 st67 hv67
  have hc271_68 : (own_bits gB (0 + z8_36.toInt.toNat) z9_37.toInt.toNat) = (F5 q1 q2 z8_36 z9_37) := own_ref gB _ _ _ _ _ _ (by first | rfl | (show _ = ((0 + _ : Nat) : Int); omega) | (show _ = ((0 + _ + _ : Nat) : Int); omega)) (by omega) (by omega) (by omega) hgg
  have sg69 : ∀ tgt, Steps p.tables e below (T67.setTop (mkF m 282 #[.val (.long q1), .second, .val (.long q2), .second, .val (.int p3), .val (.int p4), .val (.int p5), .val (.ref b2), .val (.int z8_36), .val (.int z9_37), .val (.int z10_39), .val (.int z11_43), .val (.ref b44), .val (.long (own_bits gB 0 z8_36.toInt.toNat)), .second, .val (.long (own_bits gB (0 + z8_36.toInt.toNat) z9_37.toInt.toNat)), .second, .val (.long (own_bits gB ((0 + z8_36.toInt.toNat) + z9_37.toInt.toNat) z11_43.toInt.toNat)), .second] [(.int z11_43), (.int z10_39), (.long q2), (.long q1), (.long (own_bits gB ((0 + z8_36.toInt.toNat) + z9_37.toInt.toNat) z11_43.toInt.toNat))])) tgt → Steps p.tables e below (T67.setTop (mkF m 270 #[.val (.long q1), .second, .val (.long q2), .second, .val (.int p3), .val (.int p4), .val (.int p5), .val (.ref b2), .val (.int z8_36), .val (.int z9_37), .val (.int z10_39), .val (.int z11_43), .val (.ref b44), .val (.long (own_bits gB 0 z8_36.toInt.toNat)), .second, .val (.long (own_bits gB (0 + z8_36.toInt.toNat) z9_37.toInt.toNat)), .second, .val (.long (own_bits gB ((0 + z8_36.toInt.toNat) + z9_37.toInt.toNat) z11_43.toInt.toNat)), .second] [(.long (F5 q1 q2 z8_36 z9_37)), (.long (own_bits gB (0 + z8_36.toInt.toNat) z9_37.toInt.toNat))])) tgt := by
    intro tgt kt
    refine XS.lcmp X67.here hx rfl (hb hby at_270) rfl ?_
    show Steps p.tables e below (T67.setTop (mkF m 271 #[.val (.long q1), .second, .val (.long q2), .second, .val (.int p3), .val (.int p4), .val (.int p5), .val (.ref b2), .val (.int z8_36), .val (.int z9_37), .val (.int z10_39), .val (.int z11_43), .val (.ref b44), .val (.long (own_bits gB 0 z8_36.toInt.toNat)), .second, .val (.long (own_bits gB (0 + z8_36.toInt.toNat) z9_37.toInt.toNat)), .second, .val (.long (own_bits gB ((0 + z8_36.toInt.toNat) + z9_37.toInt.toNat) z11_43.toInt.toNat)), .second] [(.int (lcmpW (own_bits gB (0 + z8_36.toInt.toNat) z9_37.toInt.toNat) (F5 q1 q2 z8_36 z9_37)))])) _
    refine XS.ifNo X67.here hx rfl (hb hby at_271) rfl ((if0 _ _).trans (teq ((lw_eq (own_bits gB (0 + z8_36.toInt.toNat) z9_37.toInt.toNat) (F5 q1 q2 z8_36 z9_37)).mpr hc271_68)).2) ?_
    show Steps p.tables e below (T67.setTop (mkF m 274 #[.val (.long q1), .second, .val (.long q2), .second, .val (.int p3), .val (.int p4), .val (.int p5), .val (.ref b2), .val (.int z8_36), .val (.int z9_37), .val (.int z10_39), .val (.int z11_43), .val (.ref b44), .val (.long (own_bits gB 0 z8_36.toInt.toNat)), .second, .val (.long (own_bits gB (0 + z8_36.toInt.toNat) z9_37.toInt.toNat)), .second, .val (.long (own_bits gB ((0 + z8_36.toInt.toNat) + z9_37.toInt.toNat) z11_43.toInt.toNat)), .second] [])) _
    refine XS.lload X67.here hx rfl (hb hby at_274) rfl ?_
    show Steps p.tables e below (T67.setTop (mkF m 276 #[.val (.long q1), .second, .val (.long q2), .second, .val (.int p3), .val (.int p4), .val (.int p5), .val (.ref b2), .val (.int z8_36), .val (.int z9_37), .val (.int z10_39), .val (.int z11_43), .val (.ref b44), .val (.long (own_bits gB 0 z8_36.toInt.toNat)), .second, .val (.long (own_bits gB (0 + z8_36.toInt.toNat) z9_37.toInt.toNat)), .second, .val (.long (own_bits gB ((0 + z8_36.toInt.toNat) + z9_37.toInt.toNat) z11_43.toInt.toNat)), .second] [(.long (own_bits gB ((0 + z8_36.toInt.toNat) + z9_37.toInt.toNat) z11_43.toInt.toNat))])) _
    refine XS.lloadN X67.here hx rfl (hb hby at_276) rfl ?_
    show Steps p.tables e below (T67.setTop (mkF m 277 #[.val (.long q1), .second, .val (.long q2), .second, .val (.int p3), .val (.int p4), .val (.int p5), .val (.ref b2), .val (.int z8_36), .val (.int z9_37), .val (.int z10_39), .val (.int z11_43), .val (.ref b44), .val (.long (own_bits gB 0 z8_36.toInt.toNat)), .second, .val (.long (own_bits gB (0 + z8_36.toInt.toNat) z9_37.toInt.toNat)), .second, .val (.long (own_bits gB ((0 + z8_36.toInt.toNat) + z9_37.toInt.toNat) z11_43.toInt.toNat)), .second] [(.long q1), (.long (own_bits gB ((0 + z8_36.toInt.toNat) + z9_37.toInt.toNat) z11_43.toInt.toNat))])) _
    refine XS.lloadN X67.here hx rfl (hb hby at_277) rfl ?_
    show Steps p.tables e below (T67.setTop (mkF m 278 #[.val (.long q1), .second, .val (.long q2), .second, .val (.int p3), .val (.int p4), .val (.int p5), .val (.ref b2), .val (.int z8_36), .val (.int z9_37), .val (.int z10_39), .val (.int z11_43), .val (.ref b44), .val (.long (own_bits gB 0 z8_36.toInt.toNat)), .second, .val (.long (own_bits gB (0 + z8_36.toInt.toNat) z9_37.toInt.toNat)), .second, .val (.long (own_bits gB ((0 + z8_36.toInt.toNat) + z9_37.toInt.toNat) z11_43.toInt.toNat)), .second] [(.long q2), (.long q1), (.long (own_bits gB ((0 + z8_36.toInt.toNat) + z9_37.toInt.toNat) z11_43.toInt.toNat))])) _
    refine XS.iload X67.here hx rfl (hb hby at_278) rfl ?_
    show Steps p.tables e below (T67.setTop (mkF m 280 #[.val (.long q1), .second, .val (.long q2), .second, .val (.int p3), .val (.int p4), .val (.int p5), .val (.ref b2), .val (.int z8_36), .val (.int z9_37), .val (.int z10_39), .val (.int z11_43), .val (.ref b44), .val (.long (own_bits gB 0 z8_36.toInt.toNat)), .second, .val (.long (own_bits gB (0 + z8_36.toInt.toNat) z9_37.toInt.toNat)), .second, .val (.long (own_bits gB ((0 + z8_36.toInt.toNat) + z9_37.toInt.toNat) z11_43.toInt.toNat)), .second] [(.int z10_39), (.long q2), (.long q1), (.long (own_bits gB ((0 + z8_36.toInt.toNat) + z9_37.toInt.toNat) z11_43.toInt.toNat))])) _
    refine XS.iload X67.here hx rfl (hb hby at_280) rfl ?_
    show Steps p.tables e below (T67.setTop (mkF m 282 #[.val (.long q1), .second, .val (.long q2), .second, .val (.int p3), .val (.int p4), .val (.int p5), .val (.ref b2), .val (.int z8_36), .val (.int z9_37), .val (.int z10_39), .val (.int z11_43), .val (.ref b44), .val (.long (own_bits gB 0 z8_36.toInt.toNat)), .second, .val (.long (own_bits gB (0 + z8_36.toInt.toNat) z9_37.toInt.toNat)), .second, .val (.long (own_bits gB ((0 + z8_36.toInt.toNat) + z9_37.toInt.toNat) z11_43.toInt.toNat)), .second] [(.int z11_43), (.int z10_39), (.long q2), (.long q1), (.long (own_bits gB ((0 + z8_36.toInt.toNat) + z9_37.toInt.toNat) z11_43.toInt.toNat))])) _
    exact kt
  refine OwnG.st sg69 ?_
  obtain ⟨vb70, _, B70, -, Xb70, hb70, sb70⟩ := Jvm.LawKit.callS X67 hx (y := (⟨"com/example/ubicacion/ubicacion/lmf/ReaderBitsPinLaw", "ref", "(JJII)J"⟩ : MethodName)) hown (mvT hZ (hw _ (List.mem_of_getElem? (i := 25) rfl))) (mvT hZ (hw _ (List.mem_of_getElem? (i := 26) rfl))) (mvT hZ (hw _ (List.mem_of_getElem? (i := 27) rfl))) (mvT hZ (hw _ (List.mem_of_getElem? (i := 28) rfl))) (by decide) (backOf (W := 2) (rm5 l Z a0 hw [] q1 q2 z10_39 z11_43  T60.heap n0 Z60 ) hZ (hw _ (List.mem_of_getElem? (i := 28) rfl)) (hw _ (List.mem_of_getElem? (i := 27) rfl)) (by decide) (by decide)) (g := (mkF m 282 #[.val (.long q1), .second, .val (.long q2), .second, .val (.int p3), .val (.int p4), .val (.int p5), .val (.ref b2), .val (.int z8_36), .val (.int z9_37), .val (.int z10_39), .val (.int z11_43), .val (.ref b44), .val (.long (own_bits gB 0 z8_36.toInt.toNat)), .second, .val (.long (own_bits gB (0 + z8_36.toInt.toNat) z9_37.toInt.toNat)), .second, .val (.long (own_bits gB ((0 + z8_36.toInt.toNat) + z9_37.toInt.toNat) z11_43.toInt.toNat)), .second] [(.int z11_43), (.int z10_39), (.long q2), (.long q1), (.long (own_bits gB ((0 + z8_36.toInt.toNat) + z9_37.toInt.toNat) z11_43.toInt.toNat))])) rfl (by rw [hml]; rfl) (argsL := [(.long q1), (.long q2), (.int z10_39), (.int z11_43)]) (rest := [(.long (own_bits gB ((0 + z8_36.toInt.toNat) + z9_37.toInt.toNat) z11_43.toInt.toNat))]) (lenOf pd_0_3 rfl) rfl (by show 2 * 0 + _ ≤ _; exact Nat.le_of_eq rfl) (hb hby at_282) (fun _ _ => ⟨rfl, e67, (by decide : 2 + 0 ≤ _), (by decide : 18 + 0 ≤ _)⟩)
  obtain ⟨T70, Lc70, vc70, X70, hQ70, st70⟩ := own_bk (F' := fun v => { ((mkF m 282 #[.val (.long q1), .second, .val (.long q2), .second, .val (.int p3), .val (.int p4), .val (.int p5), .val (.ref b2), .val (.int z8_36), .val (.int z9_37), .val (.int z10_39), .val (.int z11_43), .val (.ref b44), .val (.long (own_bits gB 0 z8_36.toInt.toNat)), .second, .val (.long (own_bits gB (0 + z8_36.toInt.toNat) z9_37.toInt.toNat)), .second, .val (.long (own_bits gB ((0 + z8_36.toInt.toNat) + z9_37.toInt.toNat) z11_43.toInt.toNat)), .second] [(.int z11_43), (.int z10_39), (.long q2), (.long q1), (.long (own_bits gB ((0 + z8_36.toInt.toNat) + z9_37.toInt.toNat) z11_43.toInt.toNat))]) : JFrame) with pc := 285, stack := v.toList ++ [(.long (own_bits gB ((0 + z8_36.toInt.toNat) + z9_37.toInt.toNat) z11_43.toInt.toNat))] }) (ck := 2) (sn := 18) Xb70 hb70 sb70 rfl rfl
  obtain ⟨hv70, N70q, e70⟩ := hQ70
  have N70 := Fr.app N67 N70q
  refine OwnG.st (F' := (mkF m 285 #[.val (.long q1), .second, .val (.long q2), .second, .val (.int p3), .val (.int p4), .val (.int p5), .val (.ref b2), .val (.int z8_36), .val (.int z9_37), .val (.int z10_39), .val (.int z11_43), .val (.ref b44), .val (.long (own_bits gB 0 z8_36.toInt.toNat)), .second, .val (.long (own_bits gB (0 + z8_36.toInt.toNat) z9_37.toInt.toNat)), .second, .val (.long (own_bits gB ((0 + z8_36.toInt.toNat) + z9_37.toInt.toNat) z11_43.toInt.toNat)), .second] [(.long (F5 q1 q2 z10_39 z11_43)), (.long (own_bits gB ((0 + z8_36.toInt.toNat) + z9_37.toInt.toNat) z11_43.toInt.toNat))])) (fun t k => st70 t (by rw [hv70]; exact k)) ?_
  clear Xb70 hb70 sb70 st70 hv70
  have hc286_71 : (own_bits gB ((0 + z8_36.toInt.toNat) + z9_37.toInt.toNat) z11_43.toInt.toNat) = (F5 q1 q2 z10_39 z11_43) := own_ref gB _ _ _ _ _ _ (by first | rfl | (show _ = ((0 + _ : Nat) : Int); omega) | (show _ = ((0 + _ + _ : Nat) : Int); omega)) (by omega) (by omega) (by omega) hgg
  have sg72 : ∀ tgt, Steps p.tables e below (T70.setTop (mkF m 294 #[.val (.long q1), .second, .val (.long q2), .second, .val (.int p3), .val (.int p4), .val (.int p5), .val (.ref b2), .val (.int z8_36), .val (.int z9_37), .val (.int z10_39), .val (.int z11_43), .val (.ref b44), .val (.long (own_bits gB 0 z8_36.toInt.toNat)), .second, .val (.long (own_bits gB (0 + z8_36.toInt.toNat) z9_37.toInt.toNat)), .second, .val (.long (own_bits gB ((0 + z8_36.toInt.toNat) + z9_37.toInt.toNat) z11_43.toInt.toNat)), .second] [(.int (1 : Int32))])) tgt → Steps p.tables e below (T70.setTop (mkF m 285 #[.val (.long q1), .second, .val (.long q2), .second, .val (.int p3), .val (.int p4), .val (.int p5), .val (.ref b2), .val (.int z8_36), .val (.int z9_37), .val (.int z10_39), .val (.int z11_43), .val (.ref b44), .val (.long (own_bits gB 0 z8_36.toInt.toNat)), .second, .val (.long (own_bits gB (0 + z8_36.toInt.toNat) z9_37.toInt.toNat)), .second, .val (.long (own_bits gB ((0 + z8_36.toInt.toNat) + z9_37.toInt.toNat) z11_43.toInt.toNat)), .second] [(.long (F5 q1 q2 z10_39 z11_43)), (.long (own_bits gB ((0 + z8_36.toInt.toNat) + z9_37.toInt.toNat) z11_43.toInt.toNat))])) tgt := by
    intro tgt kt
    refine XS.lcmp X70.here hx rfl (hb hby at_285) rfl ?_
    show Steps p.tables e below (T70.setTop (mkF m 286 #[.val (.long q1), .second, .val (.long q2), .second, .val (.int p3), .val (.int p4), .val (.int p5), .val (.ref b2), .val (.int z8_36), .val (.int z9_37), .val (.int z10_39), .val (.int z11_43), .val (.ref b44), .val (.long (own_bits gB 0 z8_36.toInt.toNat)), .second, .val (.long (own_bits gB (0 + z8_36.toInt.toNat) z9_37.toInt.toNat)), .second, .val (.long (own_bits gB ((0 + z8_36.toInt.toNat) + z9_37.toInt.toNat) z11_43.toInt.toNat)), .second] [(.int (lcmpW (own_bits gB ((0 + z8_36.toInt.toNat) + z9_37.toInt.toNat) z11_43.toInt.toNat) (F5 q1 q2 z10_39 z11_43)))])) _
    refine XS.ifNo X70.here hx rfl (hb hby at_286) rfl ((if0 _ _).trans (teq ((lw_eq (own_bits gB ((0 + z8_36.toInt.toNat) + z9_37.toInt.toNat) z11_43.toInt.toNat) (F5 q1 q2 z10_39 z11_43)).mpr hc286_71)).2) ?_
    show Steps p.tables e below (T70.setTop (mkF m 289 #[.val (.long q1), .second, .val (.long q2), .second, .val (.int p3), .val (.int p4), .val (.int p5), .val (.ref b2), .val (.int z8_36), .val (.int z9_37), .val (.int z10_39), .val (.int z11_43), .val (.ref b44), .val (.long (own_bits gB 0 z8_36.toInt.toNat)), .second, .val (.long (own_bits gB (0 + z8_36.toInt.toNat) z9_37.toInt.toNat)), .second, .val (.long (own_bits gB ((0 + z8_36.toInt.toNat) + z9_37.toInt.toNat) z11_43.toInt.toNat)), .second] [])) _
    refine XS.iconst X70.here hx rfl (hb hby at_289) ?_
    show Steps p.tables e below (T70.setTop (mkF m 290 #[.val (.long q1), .second, .val (.long q2), .second, .val (.int p3), .val (.int p4), .val (.int p5), .val (.ref b2), .val (.int z8_36), .val (.int z9_37), .val (.int z10_39), .val (.int z11_43), .val (.ref b44), .val (.long (own_bits gB 0 z8_36.toInt.toNat)), .second, .val (.long (own_bits gB (0 + z8_36.toInt.toNat) z9_37.toInt.toNat)), .second, .val (.long (own_bits gB ((0 + z8_36.toInt.toNat) + z9_37.toInt.toNat) z11_43.toInt.toNat)), .second] [(.int (1 : Int32))])) _
    refine XS.goto X70.here hx rfl (pc0 := 290) (pc' := 294) rfl (hb hby at_290) (by decide) (by decide) ?_
    show Steps p.tables e below (T70.setTop (mkF m 294 #[.val (.long q1), .second, .val (.long q2), .second, .val (.int p3), .val (.int p4), .val (.int p5), .val (.ref b2), .val (.int z8_36), .val (.int z9_37), .val (.int z10_39), .val (.int z11_43), .val (.ref b44), .val (.long (own_bits gB 0 z8_36.toInt.toNat)), .second, .val (.long (own_bits gB (0 + z8_36.toInt.toNat) z9_37.toInt.toNat)), .second, .val (.long (own_bits gB ((0 + z8_36.toInt.toNat) + z9_37.toInt.toNat) z11_43.toInt.toNat)), .second] [(.int (1 : Int32))])) _
    exact kt
  refine OwnG.st sg72 ?_
  have hv : (1 : Int32) = 1 := rfl
  exact OwnG.retN X70 hx (t := .boolean) (by simp) Bd.returns (BodyLoose.notSynchronized Bd) (hb hby at_294) ⟨congrArg (fun w => some (Value.int (nar .boolean w))) hv, N70⟩ (by decide) (by decide)
set_option maxRecDepth 65536 in
set_option maxHeartbeats 40000000 in
theorem comes_1 {Post : Tables → Env → Array Value → State → Outcome → State → Prop} (hpost : ∀ tb e args s v u, (limb_1_1.after args s (.returned v) u = true ∧ limb_1_2.after args s (.returned v) u = true ∧ True) → FrameEnd s (.returned v) u (Jvm.fieldLocs frame_1_writes args s ++ Jvm.arrayLocs frame_1_arrays args s ++ Jvm.staticLocs frame_1_statics s) 16 128 → Post tb e args s (.returned v) u) :
    ArmFor flags0 classFile x code maxLocals ret World_1 tables_1 room_1 Calls_1 rest_1 Pre_1 Post := by
  intro l hfl _ _ p e ha hc hk s m args below hf hA hF happ hP
  obtain ⟨hcalls, hrest, hpre⟩ := hP
  obtain ⟨-, -, -, hnamed, -, -, -, hat⟩ := (Spec.applies_iff hf).mp happ
  obtain ⟨hg, hn⟩ := and_e (Cond.before_iff.mp (show (Jvm.Cond.and given_1 narrow_1).before args s = true from hpre))
  obtain ⟨g1, g2⟩ := and_e hg
  obtain ⟨g3, g4⟩ := and_e g2
  obtain ⟨g5, g6⟩ := and_e g4
  obtain ⟨g7, g8⟩ := and_e g6
  obtain ⟨g9, g10⟩ := and_e g8
  obtain ⟨w0, w1, w2, w3, w4, rfl⟩ : ∃ w0 w1 w2 w3 w4 : Value, args = #[w0, w1, w2, w3, w4] := by
    have hs : args.size = 5 := by simpa [Cond.value, given_1] using g1
    obtain ⟨L⟩ := args
    match L, hs with
    | [w0, w1, w2, w3, w4], _ => exact ⟨w0, w1, w2, w3, w4, rfl⟩
  have hw := fun d (hd : d ∈ tables_1) => atoms_spec (ws := Jvm.Cond.code x code maxLocals ret :: tables_1) hat d (List.mem_cons_of_mem _ hd)
  obtain ⟨i0, ei0⟩ := isL_v g3
  obtain rfl : w0 = (.long i0) := Option.some.inj ei0
  obtain ⟨i1, ei1⟩ := isL_v g5
  obtain rfl : w1 = (.long i1) := Option.some.inj ei1
  obtain ⟨i2, ei2⟩ := is_v g7
  obtain rfl : w2 = (.int i2) := Option.some.inj ei2
  obtain ⟨i3, ei3⟩ := is_v g9
  obtain rfl : w3 = (.int i3) := Option.some.inj ei3
  obtain ⟨i4, ei4⟩ := is_v g10
  obtain rfl : w4 = (.int i4) := Option.some.inj ei4
  obtain ⟨n, o, h1, h2, h3, _, L, rfl, ⟨rfl, N⟩, hq⟩ := rm0 l s _ hw tables_1 i0 i1 i2 i3 i4  s.heap s.heap.size (Nat.le_refl _)  p e ha hc hk s m _ below hf ((Spec.applies_iff_loose hf).mp happ).1 ⟨rfl, State.Warmed39.refl s, rfl⟩ trivial
  refine ⟨n, _, h1, h2, h3, hpost _ _ _ _ _ _ ⟨Cond.after_iff.mpr rfl, Cond.after_iff.mpr (eq_i res_at (Term.int_eval (1)) rfl), trivial⟩ ⟨hq.1, hq.2.1, (hq.2.2.sift fun y hy => Or.inr (N y hy)).mono (by decide) (by decide)⟩⟩
theorem main_1_1 : Claimed_1_1 := comes_1 fun _ _ _ _ _ _ h hF => ⟨h.1, hF⟩
theorem main_1_2 : Claimed_1_2 := comes_1 fun _ _ _ _ _ _ h hF => ⟨h.2.1, hF⟩
end Jvm.Pilot.@@N@@
namespace Jvm.Pilot.@@N@@
open Jvm Jvm.ClassFile Sem Op Lib Jvm.Free Jvm.Stand Jvm.Pilot.@@N@@.Jvm.D
/-! MADE BY PROGRAM (witnessworld.py) out of the Statement's table words and the real class files: 10 classes; the members and pool entries that the words name. The judged class is class 1, her method 2. -/
namespace start1
open Jvm.ClassFile
def u (s : String) : CpInfo := .utf8 (stringToUtf16 s)
/-- a pool by its gaps: so many unusable entries, then the entry; so many at the end -/
def gap : Nat → List CpInfo → List CpInfo
  | 0, r => r
  | n + 1, r => .unusable :: gap n r
def poolList (es : List (Nat × CpInfo)) (last : Nat) : List CpInfo := es.foldr (fun e r => gap e.1 (e.2 :: r)) (gap last [])
def pool (es : List (Nat × CpInfo)) (last : Nat) : Array CpInfo := ⟨poolList es last⟩
def fileOf (pool : Array CpInfo) (this : Nat) (attrs : Array Attribute := #[]) (ms : Array MethodInfo := #[]) (fl : Nat := 33) (sup : Nat := 0) (ifs : Array Nat := #[]) (fds : Array FieldInfo := #[]) : ClassFile where
  minorVersion := 0
  majorVersion := 65
  constantPool := pool
  accessFlags := fl
  thisClass := this
  superClass := sup
  interfaces := ifs
  fields := fds
  methods := ms
  attributes := attrs
def plain (name : String) (sup : Option ClassId) : Class where
  name := name
  kind := .ordinary
  loader := none
  accessFlags := 33
  super := sup
  interfaces := #[]
  cf := none
  fields := #[]
  methods := #[]
  instanceTypes := #[]
  staticTypes := #[]
  resolved := #[]
  callSites := []
  init := .initialized
  statics := none
  mirror := none

def pool0 : Array CpInfo := pool [(5, u "<init>"), (0, u "()V"), (1, .class_ 10), (1, u "java/lang/Object")] 113

def k0c0 : Code := { maxStack := 0, maxLocals := 1, code := object_method_1_code, exceptionTable := #[], attributes := #[] }
def k0m0 : Method := { name := "<init>", desc := "()V", sig := { parameters := [], returnType := none }, accessFlags := 1, code := some k0c0 }
/-- java/lang/Object -/
def k0 : Class := { plain "java/lang/Object" none with
  accessFlags := 33
  interfaces := #[]
  cf := some (fileOf pool0 8 #[] #[{ accessFlags := 1, nameIndex := 5, descriptorIndex := 6, attributes := #[] }] 33 0 #[] #[])
  fields := #[]
  methods := #[k0m0]
  instanceTypes := #[]
  staticTypes := #[]
  resolved := Array.replicate 124 none
  statics := none }

def pool1 : Array CpInfo := pool [(2, .class_ 4), (1, u "java/lang/Object"), (0, u "<init>"), (0, u "()V"), (0, .methodref 8 9), (0, .class_ 10), (0, .nameAndType 11 12), (0, u "java/lang/Math"), (0, u "min"), (0, u "(II)I"), (0, .class_ 14), (0, u "com/example/ubicacion/ubicacion/lmf/AlignedPer$Reader"), (0, .methodref 13 16), (0, .nameAndType 5 17), (0, u "([B)V"), (0, .methodref 13 19), (0, .nameAndType 20 21), (0, u "bits"), (0, u "(I)J"), (0, .methodref 23 24), (0, .class_ 25), (0, .nameAndType 26 27), (0, u "com/example/ubicacion/ubicacion/lmf/ReaderBitsPinLaw"), (0, u "ref"), (0, u "(JJII)J"), (3, u "law"), (0, u "(JJIII)Z")] 11

def k1m0 : Method := { name := "<init>", desc := "()V", sig := { parameters := [], returnType := none }, accessFlags := 2, code := none }
def k1c1 : Code := { maxStack := 6, maxLocals := 10, code := method_2_code, exceptionTable := #[], attributes := #[] }
def k1m1 : Method := { name := "ref", desc := "(JJII)J", sig := { parameters := [.long, .long, .int, .int], returnType := some .long }, accessFlags := 10, code := some k1c1 }
def k1c2 : Code := { maxStack := 8, maxLocals := 19, code := code, exceptionTable := #[], attributes := #[] }
def k1m2 : Method := { name := "law", desc := "(JJIII)Z", sig := { parameters := [.long, .long, .int, .int, .int], returnType := some .boolean }, accessFlags := 9, code := some k1c2 }
/-- com/example/ubicacion/ubicacion/lmf/ReaderBitsPinLaw -/
def k1 : Class := { plain "com/example/ubicacion/ubicacion/lmf/ReaderBitsPinLaw" (some 0) with
  accessFlags := 49
  interfaces := #[]
  cf := some (fileOf pool1 23 #[] #[{ accessFlags := 2, nameIndex := 5, descriptorIndex := 6, attributes := #[] }, { accessFlags := 10, nameIndex := 26, descriptorIndex := 27, attributes := #[] }, { accessFlags := 9, nameIndex := 31, descriptorIndex := 32, attributes := #[] }] 49 2 #[] #[])
  fields := #[]
  methods := #[k1m0, k1m1, k1m2]
  instanceTypes := #[]
  staticTypes := #[]
  resolved := Array.replicate 44 none
  statics := none }

def pool2 : Array CpInfo := pool [(1, .class_ 2), (0, u "java/lang/Math"), (1, .class_ 6), (1, u "java/lang/Object"), (0, u "<init>"), (0, u "()V"), (89, .class_ 100), (1, u "java/lang/Math$RandomNumberGeneratorHolder"), (71, u "negativeZeroFloatBits"), (0, u "J"), (2, u "negativeZeroDoubleBits"), (24, u "min"), (43, u "$assertionsDisabled"), (0, u "Z"), (88, u "(II)I"), (2, u "twoToTheDoubleScaleDown"), (0, u "D"), (4, u "twoToTheDoubleScaleUp"), (9, u "E"), (3, u "PI"), (2, u "TAU"), (2, u "DEGREES_TO_RADIANS"), (0, u "RADIANS_TO_DEGREES")] 94

def k2m0 : Method := { name := "<init>", desc := "()V", sig := { parameters := [], returnType := none }, accessFlags := 2, code := none }
def k2c1 : Code := { maxStack := 2, maxLocals := 2, code := jdk_29_method_69_code, exceptionTable := #[], attributes := #[] }
def k2m1 : Method := { name := "min", desc := "(II)I", sig := { parameters := [.int, .int], returnType := some .int }, accessFlags := 9, code := some k2c1 }
/-- java/lang/Math -/
def k2 : Class := { plain "java/lang/Math" (some 0) with
  accessFlags := 49
  interfaces := #[]
  cf := some (fileOf pool2 1 #[.nestMembers #[98]] #[{ accessFlags := 2, nameIndex := 7, descriptorIndex := 8, attributes := #[] }, { accessFlags := 9, nameIndex := 201, descriptorIndex := 335, attributes := #[] }] 49 4 #[] #[{ accessFlags := 25, nameIndex := 354, descriptorIndex := 339, attributes := #[] }, { accessFlags := 25, nameIndex := 358, descriptorIndex := 339, attributes := #[] }, { accessFlags := 25, nameIndex := 361, descriptorIndex := 339, attributes := #[] }, { accessFlags := 26, nameIndex := 364, descriptorIndex := 339, attributes := #[] }, { accessFlags := 26, nameIndex := 365, descriptorIndex := 339, attributes := #[] }, { accessFlags := 26, nameIndex := 172, descriptorIndex := 173, attributes := #[] }, { accessFlags := 26, nameIndex := 176, descriptorIndex := 173, attributes := #[] }, { accessFlags := 8, nameIndex := 344, descriptorIndex := 339, attributes := #[] }, { accessFlags := 8, nameIndex := 338, descriptorIndex := 339, attributes := #[] }, { accessFlags := 4120, nameIndex := 245, descriptorIndex := 246, attributes := #[] }])
  fields := #[{ name := "E", type := .double, accessFlags := 25, slot := 0, constantValue := 0 }, { name := "PI", type := .double, accessFlags := 25, slot := 1, constantValue := 0 }, { name := "TAU", type := .double, accessFlags := 25, slot := 2, constantValue := 0 }, { name := "DEGREES_TO_RADIANS", type := .double, accessFlags := 26, slot := 3, constantValue := 0 }, { name := "RADIANS_TO_DEGREES", type := .double, accessFlags := 26, slot := 4, constantValue := 0 }, { name := "negativeZeroFloatBits", type := .long, accessFlags := 26, slot := 5, constantValue := 0 }, { name := "negativeZeroDoubleBits", type := .long, accessFlags := 26, slot := 6, constantValue := 0 }, { name := "twoToTheDoubleScaleUp", type := .double, accessFlags := 8, slot := 7, constantValue := 0 }, { name := "twoToTheDoubleScaleDown", type := .double, accessFlags := 8, slot := 8, constantValue := 0 }, { name := "$assertionsDisabled", type := .boolean, accessFlags := 4120, slot := 9, constantValue := 0 }]
  methods := #[k2m0, k2m1]
  instanceTypes := #[]
  staticTypes := #[.double, .double, .double, .double, .double, .long, .long, .double, .double, .boolean]
  resolved := Array.replicate 460 none
  statics := none }

def pool3 : Array CpInfo := pool [(1, .methodref 2 3), (0, .class_ 4), (0, .nameAndType 5 6), (0, u "java/lang/Object"), (0, u "<init>"), (0, u "()V"), (0, .fieldref 8 9), (0, .class_ 10), (0, .nameAndType 11 12), (0, u "com/example/ubicacion/ubicacion/lmf/AlignedPer$Reader"), (0, u "encoding"), (0, u "[B"), (2, u "bits"), (0, u "(I)J"), (0, .fieldref 8 18), (0, .nameAndType 19 20), (0, u "position"), (0, u "J"), (0, .long 8), (10, .long 7), (6, .class_ 41), (1, u "com/example/ubicacion/ubicacion/lmf/AlignedPer"), (51, u "([B)V")] 51

def k3c0 : Code := { maxStack := 2, maxLocals := 2, code := prog_10_method_1_code, exceptionTable := #[], attributes := #[] }
def k3m0 : Method := { name := "<init>", desc := "([B)V", sig := { parameters := [(.array .byte)], returnType := none }, accessFlags := 0, code := some k3c0 }
def k3c1 : Code := { maxStack := 9, maxLocals := 6, code := prog_10_method_3_code, exceptionTable := #[], attributes := #[] }
def k3m1 : Method := { name := "bits", desc := "(I)J", sig := { parameters := [.int], returnType := some .long }, accessFlags := 0, code := some k3c1 }
/-- com/example/ubicacion/ubicacion/lmf/AlignedPer$Reader -/
def k3 : Class := { plain "com/example/ubicacion/ubicacion/lmf/AlignedPer$Reader" (some 0) with
  accessFlags := 32
  interfaces := #[]
  cf := some (fileOf pool3 8 #[.nestHost 39] #[{ accessFlags := 0, nameIndex := 5, descriptorIndex := 93, attributes := #[] }, { accessFlags := 0, nameIndex := 15, descriptorIndex := 16, attributes := #[] }] 32 2 #[] #[{ accessFlags := 18, nameIndex := 11, descriptorIndex := 12, attributes := #[] }, { accessFlags := 2, nameIndex := 19, descriptorIndex := 20, attributes := #[] }])
  fields := #[{ name := "encoding", type := (.array .byte), accessFlags := 18, slot := 0, constantValue := 0 }, { name := "position", type := .long, accessFlags := 2, slot := 1, constantValue := 0 }]
  methods := #[k3m0, k3m1]
  instanceTypes := #[(.array .byte), .long]
  staticTypes := #[]
  resolved := Array.replicate 145 none
  statics := none }

def pool4 : Array CpInfo := pool [(1, u "java/lang/Cloneable"), (0, .class_ 1), (0, u "java/lang/Object"), (0, .class_ 3)] 3

/-- java/lang/Cloneable -/
def k4 : Class := { plain "java/lang/Cloneable" (some 0) with
  accessFlags := 1537
  interfaces := #[]
  cf := some (fileOf pool4 2 #[] #[] 1537 4 #[] #[])
  fields := #[]
  methods := #[]
  instanceTypes := #[]
  staticTypes := #[]
  resolved := Array.replicate 8 none
  statics := none }

def pool5 : Array CpInfo := pool [(1, u "java/io/Serializable"), (0, .class_ 1), (0, u "java/lang/Object"), (0, .class_ 3)] 3

/-- java/io/Serializable -/
def k5 : Class := { plain "java/io/Serializable" (some 0) with
  accessFlags := 1537
  interfaces := #[]
  cf := some (fileOf pool5 2 #[] #[] 1537 4 #[] #[])
  fields := #[]
  methods := #[]
  instanceTypes := #[]
  staticTypes := #[]
  resolved := Array.replicate 8 none
  statics := none }

/-- the primitive byte -/
def k6 : Class := { plain "byte" none with kind := .primitive 'B', accessFlags := 0x411 }
/-- [B -/
def k7 : Class := { plain "[B" (some 0) with kind := .array 6 .byte, interfaces := #[4, 5], accessFlags := 1041 }

/-- the primitive int -/
def k8 : Class := { plain "int" none with kind := .primitive 'I', accessFlags := 0x411 }
/-- [I -/
def k9 : Class := { plain "[I" (some 0) with kind := .array 8 .int, interfaces := #[4, 5], accessFlags := 1041 }

def heap : Heap := #[]
def classes : Array Class := #[k0, k1, k2, k3, k4, k5, k6, k7, k8, k9]
def interned : List (Array UInt16 × Addr) := []
def slotsUsed : Nat := 0
def theMethod : MethodId := ⟨1, 2⟩
def args0 : Array Value := #[.long 5, .long 5, .int 5, .int 5, .int 5]
def aboutOver (below : List Frame) : State where
  vm := { classes := classes, interned := interned.toArray }
  heap := heap
  slotsUsed := slotsUsed
  threads := #[{ frames := .invoking theMethod args0 :: below }]
def below0 : List Frame := [.native { method := ⟨0, 0⟩, args := #[] }]
def about1 : State := aboutOver below0
def p0 : Program := .bare "" "" ""
def e0 : Env := launch0.env 0 0 0
theorem w_frames : about1.frames = Frame.invoking theMethod args0 :: below0 := rfl
set_option maxRecDepth 65536 in
theorem w_args : argsFit about1.vm theMethod args0 = true := by decide +kernel
set_option maxRecDepth 65536 in
theorem w_heap : heapFits about1 = true := by decide +kernel
set_option maxRecDepth 65536 in
theorem w_runnable : about1.curStatus? = some .runnable := by decide +kernel
set_option maxRecDepth 65536 in
theorem w_alone : about1.alone = true := by decide +kernel
set_option maxRecDepth 65536 in
theorem w_named : about1.methodNamed? x = some theMethod := by decide +kernel
set_option maxRecDepth 65536 in
theorem w_hears : about1.hears theMethod below0 = true := by decide +kernel
set_option maxRecDepth 65536 in
theorem w_ripe : about1.ripe theMethod args0 below0 = true := by decide +kernel
theorem w_running : about1.status = .running := rfl
set_option maxRecDepth 65536 in
theorem w_room : about1.hasRoom e0.platform room_1 = true :=
  launch0.hasRoom_least _ room_1 (by decide +kernel) (by decide +kernel) (by decide +kernel) (by decide +kernel) (by decide +kernel) (by decide +kernel)
theorem allAtoms_all (ts : List Jvm.Cond) (a : Array Jvm.Value) (st : Jvm.State) : (allAtoms ts).before a st = ts.all (fun c => c.before a st) := by
  induction ts with
  | nil => rfl
  | cons c t ih =>
    show (Jvm.Cond.and c (allAtoms t)).before a st = _
    rw [Jvm.Cond.before_and, ih, List.all_cons]
def words1 : List Jvm.Cond := Jvm.Cond.code x code maxLocals ret :: tables_1
/-- a 'code' word, met by the world's own term for the bytes: nothing is compared byte by byte -/
theorem code_word {y : MethodName} {bytes : ByteArray} {mx : Nat} {rt : Option FieldType} {a : Array Value} {s : State} {m : MethodId} {meth : Method} {c : Code} (h1 : s.methodNamed? y = some m) (h2 : s.vm.method? m = some meth) (h3 : meth.code = some c) (h4 : c.code = bytes)
    (h5 : (c.maxLocals == mx && c.exceptionTable.isEmpty && decide (c.maxStack ≤ mostOperands) && decide (meth.sig.returnType = rt) && !meth.locks && decide (parseMethodDescriptor y.desc = some meth.sig)) = true) : (Jvm.Cond.code y bytes mx rt).before a s = true := by
  simp only [Bool.and_eq_true, beq_iff_eq, Bool.not_eq_true', decide_eq_true_eq] at h5
  obtain ⟨⟨⟨⟨⟨g1, g2⟩, g3⟩, g4⟩, g5⟩, g6⟩ := h5
  simp [Cond.before, Cond.holds, Cond.value, h1, h2, h3, h4, g1, g2, g3, g4, g5, g6]
def isCode : Jvm.Cond → Bool
  | .code _ _ _ _ => true
  | _ => false
theorem all_split {L : List Jvm.Cond} {P : Jvm.Cond → Bool} (h1 : L.all (fun c => isCode c || P c) = true) (h2 : ∀ c ∈ L.filter isCode, P c = true) : L.all P = true := by
  refine List.all_eq_true.mpr fun c hc => ?_
  have h := List.all_eq_true.mp h1 c hc
  rcases Bool.eq_false_or_eq_true (isCode c) with hi | hi
  · exact h2 c (List.mem_filter.mpr ⟨hc, hi⟩)
  · simpa [hi] using h
set_option maxRecDepth 65536 in
theorem w_c0 : (Jvm.Cond.code x code maxLocals ret).before args0 about1 = true := code_word (m := ⟨1, 2⟩) (meth := k1m2) (c := k1c2) (by decide +kernel) rfl rfl rfl (by decide +kernel)
set_option maxRecDepth 65536 in
theorem w_c1 : (Jvm.Cond.code ({ cls := "java/lang/Math", name := "min", desc := "(II)I" } : Jvm.MethodName) jdk_29_method_69_code (2 : Nat) (Option.some Jvm.ClassFile.FieldType.int)).before args0 about1 = true := code_word (m := ⟨2, 1⟩) (meth := k2m1) (c := k2c1) (by decide +kernel) rfl rfl rfl (by decide +kernel)
set_option maxRecDepth 65536 in
theorem w_c2 : (Jvm.Cond.code ({ cls := "com/example/ubicacion/ubicacion/lmf/AlignedPer$Reader", name := "<init>", desc := "([B)V" } : Jvm.MethodName) prog_10_method_1_code (2 : Nat) (Option.none : Option Jvm.ClassFile.FieldType)).before args0 about1 = true := code_word (m := ⟨3, 0⟩) (meth := k3m0) (c := k3c0) (by decide +kernel) rfl rfl rfl (by decide +kernel)
set_option maxRecDepth 65536 in
theorem w_c3 : (Jvm.Cond.code ({ cls := "java/lang/Object", name := "<init>", desc := "()V" } : Jvm.MethodName) object_method_1_code (1 : Nat) (Option.none : Option Jvm.ClassFile.FieldType)).before args0 about1 = true := code_word (m := ⟨0, 0⟩) (meth := k0m0) (c := k0c0) (by decide +kernel) rfl rfl rfl (by decide +kernel)
set_option maxRecDepth 65536 in
theorem w_c4 : (Jvm.Cond.code ({ cls := "com/example/ubicacion/ubicacion/lmf/AlignedPer$Reader", name := "bits", desc := "(I)J" } : Jvm.MethodName) prog_10_method_3_code (6 : Nat) (Option.some Jvm.ClassFile.FieldType.long)).before args0 about1 = true := code_word (m := ⟨3, 1⟩) (meth := k3m1) (c := k3c1) (by decide +kernel) rfl rfl rfl (by decide +kernel)
set_option maxRecDepth 65536 in
theorem w_c5 : (Jvm.Cond.code ({ cls := "com/example/ubicacion/ubicacion/lmf/ReaderBitsPinLaw", name := "ref", desc := "(JJII)J" } : Jvm.MethodName) method_2_code (10 : Nat) (Option.some Jvm.ClassFile.FieldType.long)).before args0 about1 = true := code_word (m := ⟨1, 1⟩) (meth := k1m1) (c := k1c1) (by decide +kernel) rfl rfl rfl (by decide +kernel)
def codes1 : List Jvm.Cond := [Jvm.Cond.code x code maxLocals ret, Jvm.Cond.code ({ cls := "java/lang/Math", name := "min", desc := "(II)I" } : Jvm.MethodName) jdk_29_method_69_code (2 : Nat) (Option.some Jvm.ClassFile.FieldType.int), Jvm.Cond.code ({ cls := "com/example/ubicacion/ubicacion/lmf/AlignedPer$Reader", name := "<init>", desc := "([B)V" } : Jvm.MethodName) prog_10_method_1_code (2 : Nat) (Option.none : Option Jvm.ClassFile.FieldType), Jvm.Cond.code ({ cls := "java/lang/Object", name := "<init>", desc := "()V" } : Jvm.MethodName) object_method_1_code (1 : Nat) (Option.none : Option Jvm.ClassFile.FieldType), Jvm.Cond.code ({ cls := "com/example/ubicacion/ubicacion/lmf/AlignedPer$Reader", name := "bits", desc := "(I)J" } : Jvm.MethodName) prog_10_method_3_code (6 : Nat) (Option.some Jvm.ClassFile.FieldType.long), Jvm.Cond.code ({ cls := "com/example/ubicacion/ubicacion/lmf/ReaderBitsPinLaw", name := "ref", desc := "(JJII)J" } : Jvm.MethodName) method_2_code (10 : Nat) (Option.some Jvm.ClassFile.FieldType.long)]
set_option maxRecDepth 65536 in
theorem codes_eq : words1.filter isCode = codes1 := rfl
theorem w_codes : ∀ c ∈ words1.filter isCode, c.before args0 about1 = true := by
  rw [codes_eq]
  intro c hc
  simp only [codes1, List.mem_cons, List.not_mem_nil, or_false] at hc
  rcases hc with rfl | rfl | rfl | rfl | rfl | rfl
  · exact w_c0
  · exact w_c1
  · exact w_c2
  · exact w_c3
  · exact w_c4
  · exact w_c5
set_option maxRecDepth 65536 in
theorem w_t1 : (words1.take 24).all (fun c => isCode c || c.before args0 about1) = true := by decide +kernel
set_option maxRecDepth 65536 in
theorem w_t2 : (words1.drop 24).all (fun c => isCode c || c.before args0 about1) = true := by decide +kernel
theorem w_tables : (allAtoms (Jvm.Cond.code x code maxLocals ret :: tables_1)).before args0 about1 = true := by
  rw [allAtoms_all]
  show words1.all (fun c => c.before args0 about1) = true
  refine all_split ?_ w_codes
  rw [← List.take_append_drop 24 words1, List.all_append, w_t1, w_t2]
  rfl
set_option maxRecDepth 65536 in
theorem w_case : (Jvm.Cond.and given_1 narrow_1).before args0 about1 = true := by decide +kernel
theorem w_applies : (headSpec (Jvm.Cond.code x code maxLocals ret :: tables_1) room_1).applies x e0.platform about1 = true :=
  (Spec.applies_iff w_frames).mpr ⟨w_running, w_runnable, w_alone, w_named, w_hears, w_ripe, w_room, w_tables⟩
theorem atStart : AtStart classFile x code maxLocals ret World_1 tables_1 room_1 Calls_1 rest_1 Pre_1 launch0 p0 e0 about1 theMethod args0 below0 :=
  ⟨lists_1, trivial, launch0.admits_env _ _ _, launch0.least_env, fairChoices_fair.cas, fairChoices_fair.clock, w_frames, w_args, w_heap, w_applies, trivial, trivial, w_case⟩
end start1
theorem witness_1 : WitnessClaimed_1 := ⟨start1.p0, start1.e0, start1.about1, start1.theMethod, start1.args0, start1.below0, start1.atStart⟩
end Jvm.Pilot.@@N@@
