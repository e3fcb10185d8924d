import JvmDerived
import JvmDerived.Pilot.@@N@@Statement
import JvmDerived.Pilot.@@N@@Code
set_option linter.unusedVariables false
set_option linter.unusedSimpArgs false
set_option maxHeartbeats 4000000
set_option maxRecDepth 8192
namespace Jvm.OwnKit
open Sem ClassFile Op Lib Jvm.Stand Jvm.Free Jvm.LawKit Jvm.RoadKit
section Own
variable {p : Program} {l : Launch} {e : Env} {R : Room} {s : State} {m : MethodId} {args : Array Value} {below : List Frame} {meth : Method} {c : Code} {T T' : State} {locs : List Loc} {cells slots : Nat}
/-- from the state T with the frame F on top the run comes to the method's end, and what Q says holds there -/
def OwnG (p : Program) (e : Env) (below : List Frame) (s : State) (Q : Option Value → Heap → List Loc → Prop) (k n : Nat) (T : State) (F : JFrame) : Prop :=
  ∃ s₂ o, Steps p.tables e below (T.setTop F) s₂ ∧ s₂.status = .running ∧ Ended s₂ below o ∧ ∃ v L, o = .returned v ∧ Q v s₂.heap L ∧ FrameEnd s o s₂ L k n
theorem OwnG.st {Q : Option Value → Heap → List Loc → Prop} {k n : Nat} {F F' : JFrame} (h : ∀ t, Steps p.tables e below (T'.setTop F') t → Steps p.tables e below (T.setTop F) t) (g : OwnG p e below s Q k n T' F') : OwnG p e below s Q k n T F := by
  obtain ⟨s2, o, h1, r⟩ := g
  exact ⟨s2, o, h _ h1, r⟩
theorem OwnG.leave (X : Stand p l e R s m args below meth c T locs cells slots) {Q : Option Value → Heap → List Loc → Prop} {k n : Nat} {F : JFrame} {v : Option Value} (hv : meth.sig.returnType = none → v = none) (hlk : meth.locks = false)
    (hs : ∀ fs, (∀ (f : JFrame) (acts : List Action), f.method = m → f.locked = none → f.entered = [] → (doReturn e (T.setTop f) acts v).1 = T.setFrames fs) → Steps p.tables e below (T.setTop F) (T.setFrames fs)) (hq : Q v T.heap locs) (hk : cells ≤ k) (hn : slots ≤ n) : OwnG p e below s Q k n T F := by
  obtain ⟨fs, hr, hrun, hended, hW, hsame⟩ := X.leave hv hlk
  exact ⟨_, _, hs fs hr, hrun, hended, _, _, rfl, hq, ⟨_, rfl⟩, hW, hsame.mono hk hn⟩
theorem OwnG.retI (X : Stand p l e R s m args below meth c T locs cells slots) (hx : p.tables.exec = Jvm.exec) {Q : Option Value → Heap → List Loc → Prop} {k n pc : Nat} {Ls : Array Slot} {z : Int32} {rest : List Value} (hret : meth.sig.returnType = some .int) (hlk : meth.locks = false) (hd : decode c.code pc = .ok (.ireturn, 1)) (hq : Q (some (.int z)) T.heap locs) (hk : cells ≤ k) (hn : slots ≤ n) : OwnG p e below s Q k n T (mkF m pc Ls (.int z :: rest)) :=
  OwnG.leave X (fun h => by rw [hret] at h; cases h) hlk (fun fs hr => retOut X hx hret rfl (Or.inl ⟨rfl, Or.inl rfl, z, rfl⟩) hd hr) hq hk hn
theorem OwnG.retJ (X : Stand p l e R s m args below meth c T locs cells slots) (hx : p.tables.exec = Jvm.exec) {Q : Option Value → Heap → List Loc → Prop} {k n pc : Nat} {Ls : Array Slot} {z : Int64} {rest : List Value} (hret : meth.sig.returnType = some .long) (hlk : meth.locks = false) (hd : decode c.code pc = .ok (.lreturn, 1)) (hq : Q (some (.long z)) T.heap locs) (hk : cells ≤ k) (hn : slots ≤ n) : OwnG p e below s Q k n T (mkF m pc Ls (.long z :: rest)) :=
  OwnG.leave X (fun h => by rw [hret] at h; cases h) hlk (fun fs hr => retOut X hx hret rfl (Or.inr (Or.inl ⟨rfl, rfl, z, rfl⟩)) hd hr) hq hk hn
theorem OwnG.retR (X : Stand p l e R s m args below meth c T locs cells slots) (hx : p.tables.exec = Jvm.exec) {Q : Option Value → Heap → List Loc → Prop} {k n pc : Nat} {Ls : Array Slot} {a : Addr} {rest : List Value} {t : FieldType} (hret : meth.sig.returnType = some t) (ht : t.isReference = true) (hnn : narrow t (.ref a) = .ref a) (hlk : meth.locks = false) (hd : decode c.code pc = .ok (.areturn, 1)) (hq : Q (some (.ref a)) T.heap locs) (hk : cells ≤ k) (hn : slots ≤ n) : OwnG p e below s Q k n T (mkF m pc Ls (.ref a :: rest)) :=
  OwnG.leave X (fun h => by rw [hret] at h; cases h) hlk (fun fs hr => retOut X hx hret hnn (Or.inr (Or.inr (Or.inr (Or.inr ⟨rfl, ht, rfl⟩)))) hd hr) hq hk hn
theorem OwnG.retN (X : Stand p l e R s m args below meth c T locs cells slots) (hx : p.tables.exec = Jvm.exec) {Q : Option Value → Heap → List Loc → Prop} {k n pc : Nat} {Ls : Array Slot} {z : Int32} {rest : List Value} {t : FieldType} (ht : t = .boolean ∨ t = .byte ∨ t = .char ∨ t = .short) (hret : meth.sig.returnType = some t) (hlk : meth.locks = false) (hd : decode c.code pc = .ok (.ireturn, 1)) (hq : Q (some (.int (nar t z))) T.heap locs) (hk : cells ≤ k) (hn : slots ≤ n) : OwnG p e below s Q k n T (mkF m pc Ls (.int z :: rest)) :=
  OwnG.leave X (fun h => by rw [hret] at h; cases h) hlk (fun fs hr => Jvm.RoadKit.retN X hx hret ht hd hr) hq hk hn
theorem OwnG.retV (X : Stand p l e R s m args below meth c T locs cells slots) (hx : p.tables.exec = Jvm.exec) {Q : Option Value → Heap → List Loc → Prop} {k n pc : Nat} {Ls : Array Slot} (hret : meth.sig.returnType = none) (hlk : meth.locks = false) (hd : decode c.code pc = .ok (.return_, 1)) (hq : Q none T.heap locs) (hk : cells ≤ k) (hn : slots ≤ n) : OwnG p e below s Q k n T (mkF m pc Ls []) :=
  OwnG.leave X (fun _ => rfl) hlk (fun fs hr => X.returnOut hx hret hd hr) hq hk hn
theorem own_bk {Q : Option Value → Heap → List Loc → Prop} {v : Option Value} {B : Free.Pt} {k n ck sn : Nat} {F : JFrame} {F' : Option Value → JFrame} (X : Stand p l e R s m args below meth c B.U B.locs B.cells B.slots)
    (hp : ∃ L, Q v B.U.heap L ∧ B.locs = locs ++ L ∧ B.cells = cells + k ∧ B.slots = slots + n) (st : ∀ t, Steps p.tables e below (B.U.setTop (F' v)) t → Steps p.tables e below (T.setTop F) t) (hc : cells + k = ck) (hs : slots + n = sn) :
    ∃ T' L v, Stand p l e R s m args below meth c T' (locs ++ L) ck sn ∧ Q v T'.heap L ∧ ∀ t, Steps p.tables e below (T'.setTop (F' v)) t → Steps p.tables e below (T.setTop F) t := by
  obtain ⟨U, L0, k0, n0⟩ := B
  obtain ⟨L, hq, e1, e2, e3⟩ := hp
  subst hc hs e1 e2 e3
  exact ⟨U, L, v, X, hq, st⟩
end Own
end Jvm.OwnKit
namespace Jvm.OwnKit
open Sem ClassFile Op Lib Jvm.Stand Jvm.Free Jvm.LawKit Jvm.RoadKit
section Arrays
variable {p : Program} {l : Launch} {e : Env} {R : Room} {s : State} {m : MethodId} {args : Array Value} {below : List Frame} {meth : Method} {c : Code} {T : State} {locs : List Loc} {cells slots : Nat} {Z : State} {a0 : Array Value} {h h' : Heap} {a b : Addr} {ty : FieldType} {n : Nat} {f f' : Nat → Value}
/-- at a lies an array of kind ty and length n whose components are f 0, f 1, .. -/
def OwnA (Z : State) (h : Heap) (a : Addr) (ty : FieldType) (n : Nat) (f : Nat → Value) : Prop := ∃ c : Cell, Arr Z h a c ty ∧ c.slots.size = n ∧ ∀ i, i < n → c.slots[i]? = some (f i)
def updv {α : Type} (g : Nat → α) (j : Nat) (v : α) : Nat → α := fun i => if i = j then v else g i
abbrev iv' (g : Nat → Int32) : Nat → Value := fun i => .int (g i)
abbrev jv' (g : Nat → Int64) : Nat → Value := fun i => .long (g i)
theorem OwnA.lt (A : OwnA Z h a ty n f) : a < h.size := by obtain ⟨c, A, -⟩ := A; exact A.lt
theorem OwnA.ext (A : OwnA Z h a ty n f) (E : Ext h h') : OwnA Z h' a ty n f := by obtain ⟨c, A, r⟩ := A; exact ⟨c, A.ext E, r⟩
theorem OwnA.other {sl : Nat} {v : Value} (A : OwnA Z h b ty n f) (W : Wr h h' a sl v) (q : b ≠ a) : OwnA Z h' b ty n f := by obtain ⟨c, A, r⟩ := A; exact ⟨c, A.other W q, r⟩
theorem OwnA.keep {ws : List Addr} (A : OwnA Z h a ty n f) (K : Keep h h' ws) (q : a ∉ ws) : OwnA Z h' a ty n f := by obtain ⟨c, A, r⟩ := A; exact ⟨c, ⟨K.2.1 a c A.1 q, A.2⟩, r⟩
theorem OwnA.congr (A : OwnA Z h a ty n f) (q : ∀ i, i < n → f i = f' i) : OwnA Z h a ty n f' := by obtain ⟨c, A, s1, s2⟩ := A; exact ⟨c, A, s1, fun i hi => (s2 i hi).trans (congrArg some (q i hi))⟩
theorem own_in {c : Cell} {j : Int32} (S : c.slots.size = n) (h0 : 0 ≤ j.toInt) (h1 : j.toInt < n) : ¬ (j < 0 ∨ c.slots.size ≤ j.toNatClampNeg) := by
  have e0 : (0 : Int32).toInt = 0 := rfl
  have e1 : j.toNatClampNeg = j.toInt.toNat := rfl
  rw [S, Int32.lt_iff_toInt_lt, e0, e1]; omega
theorem own_slots (c : Cell) (i : Nat) (v : Value) : (c.setSlot i v).slots = c.slots.setIfInBounds i v := rfl
theorem own_set {cl : Cell} {sl : Nat} {v : Value} (A : Arr Z h a cl ty) (S : cl.slots.size = n) (G : ∀ i, i < n → cl.slots[i]? = some (f i)) (W : Wr h h' a sl v) (hs : sl < n) : OwnA Z h' a ty n (updv f sl v) := by
  refine ⟨_, A.same W, by rw [sz_set]; exact S, fun i hi => ?_⟩
  rw [own_slots]
  by_cases u : sl = i
  · subst u; rw [Array.getElem?_setIfInBounds_self_of_lt (by omega)]; exact congrArg some (show v = (if sl = sl then v else f sl) by rw [if_pos rfl])
  · rw [Array.getElem?_setIfInBounds_ne u, G i hi]; exact congrArg some (show f i = (if i = sl then v else f i) by rw [if_neg (fun q => u q.symm)])
theorem own_ldB {g : Nat → Int32} (A : OwnA Z h a .byte n (iv' g)) (X : Stand p l e R s m args below meth c T locs cells slots) (hx : p.tables.exec = Jvm.exec) (hZ : Z.Warmed39 s.vm) (eT : T.heap = h) {j : Int32} (h0 : 0 ≤ j.toInt) (h1 : j.toInt < n) {gf : JFrame} (hg : gf.method = m) {rest : List Value} (hs : gf.stack = .int j :: .ref a :: rest) (hd : decode c.code gf.pc = .ok (.baload, 1)) :
    ∀ target, Steps p.tables e below (T.setTop { gf with pc := gf.pc + 1, stack := .int (g j.toInt.toNat) :: rest }) target → Steps p.tables e below (T.setTop gf) target := by
  obtain ⟨cl, A, S, G⟩ := A
  exact fun t k => X.baloadBytes hx (by rw [eT]; exact A.1) (State.isArrayOf_alike hZ.alike A.2.1) A.2.2 (own_in S h0 h1) (G j.toInt.toNat (by omega)) hg hs hd t k
theorem own_ldI {g : Nat → Int32} (A : OwnA Z h a .int n (iv' g)) (X : Stand p l e R s m args below meth c T locs cells slots) (hx : p.tables.exec = Jvm.exec) (hZ : Z.Warmed39 s.vm) (eT : T.heap = h) {j : Int32} (h0 : 0 ≤ j.toInt) (h1 : j.toInt < n) {gf : JFrame} (hg : gf.method = m) {rest : List Value} (hs : gf.stack = .int j :: .ref a :: rest) (hd : decode c.code gf.pc = .ok (.iaload, 1)) :
    ∀ target, Steps p.tables e below (T.setTop { gf with pc := gf.pc + 1, stack := .int (g j.toInt.toNat) :: rest }) target → Steps p.tables e below (T.setTop gf) target := by
  obtain ⟨cl, A, S, G⟩ := A
  exact fun t k => X.iaload hx (by rw [eT]; exact A.1) (State.isArrayOf_alike hZ.alike A.2.1) A.2.2 (own_in S h0 h1) (G j.toInt.toNat (by omega)) hg hs hd t k
theorem own_ldJ {g : Nat → Int64} (A : OwnA Z h a .long n (jv' g)) (X : Stand p l e R s m args below meth c T locs cells slots) (hx : p.tables.exec = Jvm.exec) (hZ : Z.Warmed39 s.vm) (eT : T.heap = h) {j : Int32} (h0 : 0 ≤ j.toInt) (h1 : j.toInt < n) {gf : JFrame} (hg : gf.method = m) {rest : List Value} (hs : gf.stack = .int j :: .ref a :: rest) (hd : decode c.code gf.pc = .ok (.laload, 1)) :
    ∀ target, Steps p.tables e below (T.setTop { gf with pc := gf.pc + 1, stack := .long (g j.toInt.toNat) :: rest }) target → Steps p.tables e below (T.setTop gf) target := by
  obtain ⟨cl, A, S, G⟩ := A
  exact fun t k => X.laload hx (by rw [eT]; exact A.1) (State.isArrayOf_alike hZ.alike A.2.1) A.2.2 (own_in S h0 h1) (G j.toInt.toNat (by omega)) hg hs hd t k
theorem own_len (A : OwnA Z h a ty n f) (X : Stand p l e R s m args below meth c T locs cells slots) (hx : p.tables.exec = Jvm.exec) (hZ : Z.Warmed39 s.vm) (eT : T.heap = h) {gf : JFrame} (hg : gf.method = m) {rest : List Value} (hs : gf.stack = .ref a :: rest) (hd : decode c.code gf.pc = .ok (.arraylength, 1)) :
    ∀ target, Steps p.tables e below (T.setTop { gf with pc := gf.pc + 1, stack := .int n.toInt32 :: rest }) target → Steps p.tables e below (T.setTop gf) target := by
  obtain ⟨cl, A, S, G⟩ := A
  subst S
  exact fun t k => X.arraylength hx (by rw [eT]; exact A.1) (State.isArrayOf_alike hZ.alike A.2.1) hg hs hd t k
theorem own_stB {g : Nat → Int32} (A : OwnA Z h a .byte n (iv' g)) (X : Stand p l e R s m args below meth c T locs cells slots) (hx : p.tables.exec = Jvm.exec) (hZ : Z.Warmed39 s.vm) (eT : T.heap = h) {j x : Int32} (h0 : 0 ≤ j.toInt) (h1 : j.toInt < n) {gf : JFrame} (hg : gf.method = m) {rest : List Value} (hs : gf.stack = .int x :: .int j :: .ref a :: rest) (hd : decode c.code gf.pc = .ok (.bastore, 1)) :
    ∃ T' h', Stand p l e R s m args below meth c T' (locs ++ [⟨a, j.toNatClampNeg⟩]) cells slots ∧ T'.heap = h' ∧ Wr h h' a j.toNatClampNeg (.int (nar .byte x)) ∧ OwnA Z h' a .byte n (iv' (updv g j.toInt.toNat x.toInt8.toInt32)) ∧ ∀ target, Steps p.tables e below (T'.setTop { gf with pc := gf.pc + 1, stack := rest }) target → Steps p.tables e below (T.setTop gf) target := by
  obtain ⟨cl, A, S, G⟩ := A
  obtain ⟨T', h', X', e', W, st⟩ := stB X hx hZ eT A (own_in S h0 h1) hg hs hd
  refine ⟨T', h', X', e', W, OwnA.congr (own_set A S G W (by show j.toInt.toNat < n; omega)) fun i hi => ?_, st⟩
  show (if i = j.toInt.toNat then Value.int (x.toInt8.toInt32) else .int (g i)) = .int (if i = j.toInt.toNat then x.toInt8.toInt32 else g i)
  by_cases u : i = j.toInt.toNat
  · rw [if_pos u, if_pos u]
  · rw [if_neg u, if_neg u]
theorem own_stI {g : Nat → Int32} (A : OwnA Z h a .int n (iv' g)) (X : Stand p l e R s m args below meth c T locs cells slots) (hx : p.tables.exec = Jvm.exec) (hZ : Z.Warmed39 s.vm) (eT : T.heap = h) {j x : Int32} (h0 : 0 ≤ j.toInt) (h1 : j.toInt < n) {gf : JFrame} (hg : gf.method = m) {rest : List Value} (hs : gf.stack = .int x :: .int j :: .ref a :: rest) (hd : decode c.code gf.pc = .ok (.iastore, 1)) :
    ∃ T' h', Stand p l e R s m args below meth c T' (locs ++ [⟨a, j.toNatClampNeg⟩]) cells slots ∧ T'.heap = h' ∧ Wr h h' a j.toNatClampNeg (.int x) ∧ OwnA Z h' a .int n (iv' (updv g j.toInt.toNat x)) ∧ ∀ target, Steps p.tables e below (T'.setTop { gf with pc := gf.pc + 1, stack := rest }) target → Steps p.tables e below (T.setTop gf) target := by
  obtain ⟨cl, A, S, G⟩ := A
  obtain ⟨T', h', X', e', W, st⟩ := stI X hx hZ eT A (own_in S h0 h1) hg hs hd
  refine ⟨T', h', X', e', W, OwnA.congr (own_set A S G W (by show j.toInt.toNat < n; omega)) fun i hi => ?_, st⟩
  show (if i = j.toInt.toNat then Value.int x else .int (g i)) = .int (if i = j.toInt.toNat then x else g i)
  by_cases u : i = j.toInt.toNat
  · rw [if_pos u, if_pos u]
  · rw [if_neg u, if_neg u]
theorem own_stJ {g : Nat → Int64} (A : OwnA Z h a .long n (jv' g)) (X : Stand p l e R s m args below meth c T locs cells slots) (hx : p.tables.exec = Jvm.exec) (hZ : Z.Warmed39 s.vm) (eT : T.heap = h) {j : Int32} {x : Int64} (h0 : 0 ≤ j.toInt) (h1 : j.toInt < n) {gf : JFrame} (hg : gf.method = m) {rest : List Value} (hs : gf.stack = .long x :: .int j :: .ref a :: rest) (hd : decode c.code gf.pc = .ok (.lastore, 1)) :
    ∃ T' h', Stand p l e R s m args below meth c T' (locs ++ [⟨a, j.toNatClampNeg⟩]) cells slots ∧ T'.heap = h' ∧ Wr h h' a j.toNatClampNeg (.long x) ∧ OwnA Z h' a .long n (jv' (updv g j.toInt.toNat x)) ∧ ∀ target, Steps p.tables e below (T'.setTop { gf with pc := gf.pc + 1, stack := rest }) target → Steps p.tables e below (T.setTop gf) target := by
  obtain ⟨cl, A, S, G⟩ := A
  obtain ⟨T', h', X', e', W, st⟩ := stJ X hx hZ eT A (own_in S h0 h1) hg hs hd
  refine ⟨T', h', X', e', W, OwnA.congr (own_set A S G W (by show j.toInt.toNat < n; omega)) fun i hi => ?_, st⟩
  show (if i = j.toInt.toNat then Value.long x else .long (g i)) = .long (if i = j.toInt.toNat then x else g i)
  by_cases u : i = j.toInt.toNat
  · rw [if_pos u, if_pos u]
  · rw [if_neg u, if_neg u]
theorem own_newA {k : ClassId} {z : Int32} (A : Arr Z h a (newA k ty z) ty) (hn : z.toInt = n) : OwnA Z h a ty n (fun _ => defaultValue ty) := by
  have e1 : z.toNatClampNeg = n := by show z.toInt.toNat = n; omega
  refine ⟨_, A, by rw [sz_new]; exact e1, fun i hi => ?_⟩
  show (Array.replicate z.toNatClampNeg (defaultValue ty))[i]? = _
  rw [e1, Array.getElem?_replicate, if_pos hi]
end Arrays
end Jvm.OwnKit
namespace Jvm.OwnKit
open Jvm.RoadKit
theorem own_split {w : Nat} (x m : BitVec w) : (x &&& ~~~m) + (x &&& m) = x := by
  rw [BitVec.add_eq_or_of_and_eq_zero]
  · ext i hi
    simp only [BitVec.getElem_or, BitVec.getElem_and, BitVec.getElem_not]
    cases x[i] <;> cases m[i] <;> rfl
  · ext i hi
    simp only [BitVec.getElem_and, BitVec.getElem_not, BitVec.getElem_zero]
    cases x[i] <;> cases m[i] <;> rfl
theorem own_hi (x m m' : Int32) (h : m' = ~~~m) : (x &&& m') + (x &&& m) = x := by
  subst h
  exact Int32.toBitVec_inj.mp (own_split x.toBitVec m.toBitVec)
theorem own_irem (x y : Int32) : x - (x / y) * y = x % y := by
  apply Int32.toInt_inj.mp
  have h1 := rng32 (x % y)
  have e := Int.mul_tdiv_add_tmod x.toInt y.toInt
  rw [Int32.toInt_mod] at h1 ⊢
  rw [Int32.toInt_sub, Int32.toInt_mul, Int32.toInt_div, Int.bmod_mul_bmod, Int.sub_bmod_bmod]
  rw [show x.toInt - x.toInt.tdiv y.toInt * y.toInt = x.toInt.tmod y.toInt by rw [Int.mul_comm]; omega]
  exact Int.bmod_eq_of_le_mul_two (by omega) (by omega)
end Jvm.OwnKit
namespace Jvm.OwnKit
open Jvm.RoadKit
theorem own_lushr (x : Int64) (q : Int32) (k : Nat) (hk : q.toBitVec.toNat % 64 = k) : ((x.toUInt64 >>> (q &&& 0x3f).toInt64.toUInt64).toInt64).toBitVec = x.toBitVec >>> k := by
  have h5 := (sm64 q k hk).2
  show x.toBitVec >>> ((q &&& 0x3f).toInt64.toBitVec % 64) = _
  rw [BitVec.ushiftRight_eq', BitVec.toNat_umod, (sm64 q k hk).1, BitVec.toNat_ofNat]
  congr 1
  show k % 2 ^ 64 % 64 = k
  omega
theorem own_lshl (x : Int64) (q : Int32) (k : Nat) (hk : q.toBitVec.toNat % 64 = k) : (x <<< (q &&& 0x3f).toInt64).toBitVec = x.toBitVec <<< k := by
  have h5 := (sm64 q k hk).2
  show x.toBitVec <<< ((q &&& 0x3f).toInt64.toBitVec.smod 64) = _
  rw [BitVec.shiftLeft_eq', (sm64 q k hk).1, smod64 k h5]
end Jvm.OwnKit
namespace Jvm.OwnKit
open Jvm.RoadKit
theorem x_iadd (x y : Int32) (h : -2147483648 ≤ x.toInt + y.toInt ∧ x.toInt + y.toInt < 2147483648) : (x + y).toInt = x.toInt + y.toInt := by
  have a := c_iadd x y
  have b := rng32 (x + y)
  omega
theorem x_isub (x y : Int32) (h : -2147483648 ≤ x.toInt - y.toInt ∧ x.toInt - y.toInt < 2147483648) : (x - y).toInt = x.toInt - y.toInt := by
  have a := c_isub x y
  have b := rng32 (x - y)
  omega
theorem x_imul (x y : Int32) (z : Int) (hz : x.toInt * y.toInt = z) (h : -2147483648 ≤ z ∧ z < 2147483648) : (x * y).toInt = z := by
  have a := c_imul x y
  have b := rng32 (x * y)
  rw [hz] at a
  omega
theorem x_ladd (x y : Int64) (h : -9223372036854775808 ≤ x.toInt + y.toInt ∧ x.toInt + y.toInt < 9223372036854775808) : (x + y).toInt = x.toInt + y.toInt := by
  have a := c_ladd x y
  have b := rng64 (x + y)
  omega
theorem x_lsub (x y : Int64) (h : -9223372036854775808 ≤ x.toInt - y.toInt ∧ x.toInt - y.toInt < 9223372036854775808) : (x - y).toInt = x.toInt - y.toInt := by
  have a := c_lsub x y
  have b := rng64 (x - y)
  omega
theorem x_lmul (x y : Int64) (z : Int) (hz : x.toInt * y.toInt = z) (h : -9223372036854775808 ≤ z ∧ z < 9223372036854775808) : (x * y).toInt = z := by
  have a := c_lmul x y
  have b := rng64 (x * y)
  rw [hz] at a
  omega
theorem x_l2i (x : Int64) (h : -2147483648 ≤ x.toInt ∧ x.toInt < 2147483648) : x.toInt32.toInt = x.toInt := by
  have a := c_l2i x
  have b := rng32 x.toInt32
  omega
end Jvm.OwnKit
namespace Jvm.OwnKit
open Jvm.RoadKit Jvm.LawKit
/-- what is left of v behind j octets -/
def own_rs (v : Int64) : Nat → Int64
  | 0 => v
  | j + 1 => ((own_rs v j).toUInt64 >>> ((7 : Int32) &&& 0x3f).toInt64.toUInt64).toInt64
theorem own_rss (v : Int64) (j : Nat) : own_rs v (j + 1) = ((own_rs v j).toUInt64 >>> ((7 : Int32) &&& 0x3f).toInt64.toUInt64).toInt64 := rfl
def own_w (g : Nat → Int32) (a : Nat) (v : Int64) : Nat → (Nat → Int32)
  | 0 => g
  | j + 1 => updv (own_w g a v j) (a + j) ((own_rs v j ||| (128 : Int64)).toInt32.toInt8.toInt32)
def own_wf (g : Nat → Int32) (a : Nat) (v : Int64) (M : Nat) : Nat → Int32 := updv (own_w g a v (M - 1)) (a + (M - 1)) ((own_rs v (M - 1)).toInt32.toInt8.toInt32)
def own_acc (g : Nat → Int32) (a : Nat) : Nat → Int64
  | 0 => 0
  | j + 1 => own_acc g a j ||| (((g (a + j)) &&& (127 : Int32)).toInt64 <<< ((Int32.ofNat (7 * j)) &&& 0x3f).toInt64)
theorem own_as (g : Nat → Int32) (a j : Nat) : own_acc g a (j + 1) = own_acc g a j ||| (((g (a + j)) &&& (127 : Int32)).toInt64 <<< ((Int32.ofNat (7 * j)) &&& 0x3f).toInt64) := rfl
theorem own_s7 (j : Nat) (h : j ≤ 20) : Int32.ofNat (7 * j) + 7 = Int32.ofNat (7 * (j + 1)) := by
  rw [Nat.mul_add, Int32.ofNat_add]; rfl
theorem own_is (p : Int32) (j : Nat) : (p + Int32.ofNat j) + 1 = p + Int32.ofNat (j + 1) := by
  rw [Int32.ofNat_add, ← Int32.add_assoc]; rfl
theorem own_ia (p : Int32) (j : Nat) (hp : 0 ≤ p.toInt ∧ p.toInt ≤ 1000) (hj : j ≤ 1000) : (p + Int32.ofNat j).toInt = p.toInt + j ∧ (p + Int32.ofNat j).toInt.toNat = p.toInt.toNat + j := by
  have h := c_iadd p (Int32.ofNat j)
  have q := Int32.toInt_ofNat_of_lt (n := j) (by omega)
  have r := rng32 (p + Int32.ofNat j)
  omega
theorem own_rb (v : Int64) : ∀ j, j ≤ 9 → (own_rs v j).toBitVec = v.toBitVec >>> (7 * j) := by
  intro j
  induction j with
  | zero => intro _; show v.toBitVec = v.toBitVec >>> 0; rw [BitVec.ushiftRight_zero]
  | succ j ih =>
    intro hj
    rw [own_rss, own_lushr _ 7 7 (by decide), ih (by omega), ← BitVec.shiftRight_add]; rfl
theorem own_rp (v : Int64) (hv : 0 ≤ v.toInt) : ∀ j, 0 ≤ (own_rs v j).toInt ∧ (own_rs v (j + 1)).toInt = (own_rs v j).toInt / 128 := by
  intro j
  have key : ∀ j, 0 ≤ (own_rs v j).toInt := by
    intro j
    induction j with
    | zero => exact hv
    | succ j ih =>
      rw [own_rss, c_lushr _ 7 7 (by decide) (by decide)]
      exact Int.ediv_nonneg (by omega) (by decide)
  refine ⟨key j, ?_⟩
  have h := c_lushr (own_rs v j) 7 7 (by decide) (by decide)
  have r := rng64 (own_rs v j)
  have q := key j
  rw [← own_rss] at h
  omega
theorem own_wat (g : Nat → Int32) (a : Nat) (v : Int64) : ∀ (j k : Nat), own_w g a v j k = if a ≤ k ∧ k < a + j then ((own_rs v (k - a) ||| (128 : Int64)).toInt32.toInt8.toInt32) else g k := by
  intro j
  induction j with
  | zero => intro k; rw [if_neg (by omega)]; rfl
  | succ j ih =>
    intro k
    show (if k = a + j then _ else own_w g a v j k) = _
    by_cases c : k = a + j
    · rw [if_pos c, if_pos (by omega), show k - a = j by omega]
    · rw [if_neg c, ih k]
      by_cases d : a ≤ k ∧ k < a + j
      · rw [if_pos d, if_pos (by omega)]
      · rw [if_neg d, if_neg (by omega)]
theorem own_wfat (g : Nat → Int32) (a : Nat) (v : Int64) (M k : Nat) (hN : 1 ≤ M) : own_wf g a v M k = if a ≤ k ∧ k < a + M then (if k - a < M - 1 then ((own_rs v (k - a) ||| (128 : Int64)).toInt32.toInt8.toInt32) else ((own_rs v (k - a)).toInt32.toInt8.toInt32)) else g k := by
  show (if k = a + (M - 1) then _ else own_w g a v (M - 1) k) = _
  by_cases c : k = a + (M - 1)
  · rw [if_pos c, if_pos (by omega), if_neg (by omega), show k - a = M - 1 by omega]
  · rw [if_neg c, own_wat]
    by_cases d : a ≤ k ∧ k < a + (M - 1)
    · rw [if_pos d, if_pos (by omega), if_pos (by omega)]
    · rw [if_neg d, if_neg (by omega)]
abbrev Byt (g : Nat → Int32) : Prop := ∀ i, -128 ≤ (g i).toInt ∧ (g i).toInt ≤ 127
theorem own_byt (x : Int32) : -128 ≤ x.toInt8.toInt32.toInt ∧ x.toInt8.toInt32.toInt ≤ 127 := by have := c_i2b x; omega
theorem own_wfb (g : Nat → Int32) (a : Nat) (v : Int64) (M : Nat) (hN : 1 ≤ M) (hg : Byt g) : Byt (own_wf g a v M) := by
  intro i
  rw [own_wfat _ _ _ _ _ hN]
  split
  · split <;> exact own_byt _
  · exact hg i
/-- the number v stands in M octets of g from a on -/
def Num (g : Nat → Int32) (a M : Nat) (v : Int64) : Prop := (1 ≤ M ∧ M ≤ 9) ∧ (∀ j, j + 1 < M → g (a + j) < (0 : Int32)) ∧ (¬ g (a + (M - 1)) < (0 : Int32)) ∧ own_acc g a M = v
theorem own_accc (g g2 : Nat → Int32) (a a2 M : Nat) : ∀ j, j ≤ M → (∀ j, j < M → g2 (a2 + j) = g (a + j)) → own_acc g2 a2 j = own_acc g a j := by
  intro j
  induction j with
  | zero => intro _ _; rfl
  | succ j ih => intro hj h; rw [own_as, own_as, ih (by omega) h, h j (by omega)]
theorem Num.copy {g g2 : Nat → Int32} {a a2 M : Nat} {v : Int64} (N : Num g a M v) (h : ∀ j, j < M → g2 (a2 + j) = g (a + j)) : Num g2 a2 M v := by
  obtain ⟨h1, h2, h3, h4⟩ := N
  exact ⟨h1, fun j hj => by rw [h j (by omega)]; exact h2 j hj, by rw [h (M - 1) (by omega)]; exact h3, by rw [own_accc g g2 a a2 M M (Nat.le_refl _) h]; exact h4⟩
theorem own_M (v : Int64) (hv : 0 ≤ v.toInt) : ∀ B, (own_rs v B).toInt < 128 → ∃ M, 1 ≤ M ∧ M ≤ B + 1 ∧ (∀ j, j + 1 < M → ¬ own_rs v j < (128 : Int64)) ∧ own_rs v (M - 1) < (128 : Int64) := by
  have e0 : (128 : Int64).toInt = 128 := rfl
  intro B
  induction B with
  | zero => intro h; exact ⟨1, by decide, by decide, fun j hj => absurd hj (by omega), by rw [Int64.lt_iff_toInt_lt, e0]; exact h⟩
  | succ B ih =>
    intro h
    by_cases c : (own_rs v B).toInt < 128
    · obtain ⟨M, h1, h2, h3⟩ := ih c; exact ⟨M, h1, by omega, h3⟩
    · have key : ∀ d, d ≤ B → ¬ (own_rs v (B - d)).toInt < 128 := by
        intro d
        induction d with
        | zero => intro _; exact c
        | succ d ihd =>
          intro hd
          have q := ihd (by omega)
          have r := own_rp v hv (B - (d + 1))
          rw [show B - (d + 1) + 1 = B - d by omega] at r
          omega
      refine ⟨B + 2, by omega, by omega, fun j hj => ?_, by rw [Int64.lt_iff_toInt_lt, e0]; exact h⟩
      rw [Int64.lt_iff_toInt_lt, e0]
      have q := key (B - j) (by omega)
      rw [show B - (B - j) = j by omega] at q
      exact q
theorem own_bit (x : Int64) (t : Nat) (ht : t < 32) : ((x.toInt32.toInt8.toInt32) &&& (127 : Int32)).toBitVec.getLsbD t = (decide (t < 7) && x.toBitVec.getLsbD t) := by
  have q : ∀ j : Fin 32, ((127 : Int32).toBitVec).getLsbD j.1 = decide (j.1 < 7) := by decide
  rw [Int32.toBitVec_and, BitVec.getLsbD_and, q ⟨t, ht⟩]
  have e : (((x.toBitVec.signExtend 32).signExtend 8).signExtend 32).getLsbD t = (decide (t < 32) && if t < 8 then (decide (t < 8) && if t < 32 then (decide (t < 32) && if t < 64 then x.toBitVec.getLsbD t else x.toBitVec.msb) else (x.toBitVec.signExtend 32).msb) else ((x.toBitVec.signExtend 32).signExtend 8).msb) := by
    rw [BitVec.getLsbD_signExtend, BitVec.getLsbD_signExtend, BitVec.getLsbD_signExtend]
  by_cases c : t < 7
  · have e' : (((x.toBitVec.signExtend 32).signExtend 8).signExtend 32).getLsbD t = x.toBitVec.getLsbD t := by
      rw [e, if_pos (show t < 8 by omega), if_pos (show t < 32 by omega), if_pos (show t < 64 by omega)]
      simp only [show t < 8 by omega, show t < 32 by omega, decide_true, Bool.true_and]
    show ((((x.toBitVec.signExtend 32).signExtend 8).signExtend 32).getLsbD t && decide (t < 7)) = _
    rw [e', Bool.and_comm]
  · simp [c]
theorem own_bit' (x : Int64) (t : Nat) (ht : t < 32) : (((x ||| (128 : Int64)).toInt32.toInt8.toInt32) &&& (127 : Int32)).toBitVec.getLsbD t = (decide (t < 7) && x.toBitVec.getLsbD t) := by
  rw [own_bit _ t ht]
  by_cases c : t < 7
  · have q : ∀ j : Fin 7, ((128 : Int64).toBitVec).getLsbD j.1 = false := by decide
    rw [Int64.toBitVec_or, BitVec.getLsbD_or, q ⟨t, c⟩, Bool.or_false]
  · simp [c]
theorem own_wbit (g : Nat → Int32) (a : Nat) (v : Int64) (M j : Nat) (hj : j < M) (hM : M ≤ 9) (t : Nat) (ht : t < 32) : ((own_wf g a v M (a + j)) &&& (127 : Int32)).toBitVec.getLsbD t = (decide (t < 7) && v.toBitVec.getLsbD (7 * j + t)) := by
  rw [own_wfat _ _ _ _ _ (by omega), if_pos (by omega), show a + j - a = j by omega]
  have r := own_rb v j (by omega)
  split
  · rw [own_bit' _ t ht, r, BitVec.getLsbD_ushiftRight]
  · rw [own_bit _ t ht, r, BitVec.getLsbD_ushiftRight]
theorem own_accb (v : Int64) (g : Nat → Int32) (a M : Nat) (hN : M ≤ 9) (hg : ∀ j, j < M → ∀ t, t < 32 → ((g (a + j)) &&& (127 : Int32)).toBitVec.getLsbD t = (decide (t < 7) && v.toBitVec.getLsbD (7 * j + t))) : ∀ j, j ≤ M → ∀ i, i < 64 → (own_acc g a j).toBitVec.getLsbD i = (decide (i < 7 * j) && v.toBitVec.getLsbD i) := by
  intro j
  induction j with
  | zero => intro _ i hi; show (0#64).getLsbD i = _; simp
  | succ j ih =>
    intro hj i hi
    have hm : (Int32.ofNat (7 * j)).toBitVec.toNat = 7 * j := by
      show (BitVec.ofNat 32 (7 * j)).toNat = _
      rw [BitVec.toNat_ofNat]; omega
    rw [own_as, Int64.toBitVec_or, BitVec.getLsbD_or, ih (by omega) i hi, own_lshl _ _ (7 * j) (by rw [hm]; omega), BitVec.getLsbD_shiftLeft, Int32.toBitVec_toInt64, BitVec.getLsbD_signExtend]
    have hmsb : ((g (a + j)) &&& (127 : Int32)).toBitVec.msb = false := by
      rw [BitVec.msb_eq_getLsbD_last, hg j (by omega) 31 (by decide)]; rfl
    rw [hmsb]
    by_cases c : i < 7 * j
    · simp [c, show i < 7 * (j + 1) by omega]
    · by_cases d : i - 7 * j < 32
      · rw [if_pos d, hg j (by omega) _ d, show 7 * j + (i - 7 * j) = i by omega]
        by_cases f : i - 7 * j < 7
        · simp [c, hi, f, show i - 7 * j < 64 by omega, show i < 7 * (j + 1) by omega]
        · simp [c, f, show ¬ i < 7 * (j + 1) by omega]
      · rw [if_neg d]; simp [c, show ¬ i < 7 * (j + 1) by omega]
theorem own_num (g : Nat → Int32) (a : Nat) (v : Int64) (M : Nat) (hv : 0 ≤ v.toInt) (hM : 1 ≤ M ∧ M ≤ 9) (hlast : own_rs v (M - 1) < (128 : Int64)) : Num (own_wf g a v M) a M v := by
  rw [Int64.lt_iff_toInt_lt, show (128 : Int64).toInt = 128 from rfl] at hlast
  refine ⟨hM, fun j hj => ?_, ?_, ?_⟩
  · rw [own_wfat _ _ _ _ _ hM.1, if_pos (by omega), if_pos (by omega), show a + j - a = j by omega, Int32.lt_iff_toInt_lt]
    obtain ⟨x, hx⟩ : ∃ x, x = own_rs v j := ⟨_, rfl⟩
    have hx0 := (own_rp v hv j).1
    rw [← hx] at hx0 ⊢
    have b := c_i2b ((x ||| (128 : Int64)).toInt32)
    have d := c_l2i (x ||| (128 : Int64))
    have k1 := c_maskL (x ||| (128 : Int64)) 255 8 (by decide) (by decide)
    have key : 128 ≤ ((x ||| (128 : Int64)) &&& (255 : Int64)).toInt := by
      have e : (x ||| (128 : Int64)) &&& (255 : Int64) = (x &&& (127 : Int64)) ||| (128 : Int64) := by
        apply Int64.toBitVec_inj.mp
        rw [Int64.toBitVec_and, Int64.toBitVec_or, Int64.toBitVec_or, Int64.toBitVec_and]
        apply BitVec.eq_of_getLsbD_eq
        intro i hi
        have q1 : ∀ i : Fin 64, ((128 : Int64).toBitVec).getLsbD i.1 = decide (i.1 = 7) := by decide
        have q2 : ∀ i : Fin 64, ((255 : Int64).toBitVec).getLsbD i.1 = decide (i.1 < 8) := by decide
        have q3 : ∀ i : Fin 64, ((127 : Int64).toBitVec).getLsbD i.1 = decide (i.1 < 7) := by decide
        rw [BitVec.getLsbD_and, BitVec.getLsbD_or, BitVec.getLsbD_or, BitVec.getLsbD_and, q1 ⟨i, hi⟩, q2 ⟨i, hi⟩, q3 ⟨i, hi⟩]
        by_cases c7 : i = 7
        · subst c7; simp
        · by_cases c8 : i < 7
          · simp [c7, c8, show i < 8 by omega]
          · simp [c7, c8, show ¬ i < 8 by omega]
      rw [e]
      have a := c_maskL x 127 7 (by decide) (by decide)
      have k2 := c_orL' (x &&& (127 : Int64)) 128 7 (by decide) 128 (by decide) (by decide) (by omega) (by omega)
      have e128L : (128 : Int64).toInt = 128 := rfl
      have rk := rng64 ((x &&& (127 : Int64)) ||| (128 : Int64))
      omega
    show _ < (0 : Int)
    omega
  · rw [own_wfat _ _ _ _ _ hM.1, if_pos (by omega), if_neg (by omega), show a + (M - 1) - a = M - 1 by omega, Int32.lt_iff_toInt_lt]
    have hx0 := (own_rp v hv (M - 1)).1
    have b := c_i2b ((own_rs v (M - 1)).toInt32)
    have d := c_l2i (own_rs v (M - 1))
    show ¬ _ < (0 : Int)
    omega
  · apply Int64.toBitVec_inj.mp
    apply BitVec.eq_of_getLsbD_eq
    intro i hi
    rw [own_accb v _ a M hM.2 (fun j hj t ht => own_wbit g a v M j hj hM.2 t ht) M (Nat.le_refl _) i hi]
    by_cases c : i < 7 * M
    · simp [c]
    · have r := own_rb v M hM.2
      have z : own_rs v M = 0 := by
        rw [← Int64.toInt_inj]
        have q := own_rp v hv (M - 1)
        rw [show M - 1 + 1 = M by omega] at q
        show _ = (0 : Int)
        omega
      rw [z] at r
      have w : (v.toBitVec >>> (7 * M)).getLsbD (i - 7 * M) = false := by rw [← r]; show (0#64).getLsbD _ = false; simp
      rw [BitVec.getLsbD_ushiftRight, show 7 * M + (i - 7 * M) = i by omega] at w
      simp [c, w]
end Jvm.OwnKit
namespace Jvm.OwnKit
open Sem ClassFile Op Lib Jvm.Stand Jvm.Free Jvm.LawKit Jvm.RoadKit
section Store
variable {p : Program} {l : Launch} {e : Env} {R : Room} {s : State} {m : MethodId} {args : Array Value} {below : List Frame} {meth : Method} {c : Code} {T : State} {locs : List Loc} {cells slots : Nat} {Z : State} {a0 : Array Value} {h h' : Heap} {a b : Addr} {ty : FieldType} {n : Nat}
/-- a private method's 'selects' word, by another method's of the same class -/
theorem own_selP {y y0 : MethodName} (hsame : y0.cls = y.cls) (w0 : (Cond.selects y.cls y0 y0).before a0 Z = true) (wi : (Cond.instanceMethod y).before a0 Z = true) (wp : (Cond.privateMethod y).before a0 Z = true) (hy : y.cls ≠ "java/lang/invoke/MethodHandle" ∧ y.cls ≠ "java/lang/invoke/VarHandle") : (Cond.selects y.cls y y).before a0 Z = true := by
  obtain ⟨c, r, m, h1, -, h3, -, k, h5, h6⟩ := Cond.selects_spec w0
  have q := findClass_of_methodNamed h3
  rw [hsame, h1] at q
  exact Jvm.Stand.selects_self_of_private h1 (by rw [Option.some.inj q]; exact h5) h6 (Cond.privateMethod_at wp) wi hy
/-- getfield by the word fieldRef: the entry is settled already -/
theorem own_getR (X : Stand p l e R s m args below meth c T locs cells slots) (hx : p.tables.exec = Jvm.exec) (hZ : Z.Warmed39 s.vm) {own C f d : String} {index : Nat} {v : Value} (hown : s.vm.findClass own = some m.cls) (w : (Cond.fieldRef own index C f d).before a0 Z = true) (eT : T.heap = h) (F : Fld Z h a C f d v)
    {g : JFrame} (hg : g.method = m) {rest : List Value} (hs : g.stack = .ref a :: rest) (hd : decode c.code g.pc = .ok (.getfield index, 3)) : ∀ t, Steps p.tables e below (T.setTop { g with pc := g.pc + 3, stack := v :: rest }) t → Steps p.tables e below (T.setTop g) t := by
  obtain ⟨cell, cf, k, i, fd, f1, f2, f3, f4, f5, f6, f7⟩ := F
  have hT : Z.Warmed39 T.vm := wtrans hZ X.warmed
  have w' := Cond.fieldRef_warmed39 hT w
  have ho : (Z.setVm T.vm).vm.findClass own = some m.cls := by show T.vm.findClass own = _; rw [X.warmed.alike.findClass]; exact hown
  obtain ⟨c', k', i', f', q1, q2⟩ := Cond.fieldRef_spec ho w'
  obtain ⟨k2, hi, ek⟩ := State.fieldFound?_setVm (s := Z) hT.alike f2
  rw [hi] at q1
  cases q1
  intro t kt
  exact (X.getfieldR hx hg q2 f3 hs (by rw [eT]; exact f1) f4 f7 hd (Steps.refl _)).trans kt
theorem OwnA.arv {g : Nat → Int32} {z : Int32} (A : OwnA Z h a ty n (iv' g)) (hty : ty = .int ∨ (ty = .byte ∧ Byt g)) (hz : z.toInt = n) : ∃ k, Arv Z h a k ty z ((List.range n).map (iv' g)) (.int 0) := by
  obtain ⟨cl, A, S, G⟩ := A
  have e1 : z.toNatClampNeg = n := by show z.toInt.toNat = n; omega
  have gd : ∀ i, i < n → ((List.range n).map (iv' g)).getD i (.int 0) = .int (g i) := fun i hi => by
    simp [List.getD, hi]
  refine ⟨cl.cls, cl, A, rfl, by rw [S, e1], by rw [Int32.lt_iff_toInt_lt]; show ¬ z.toInt < 0; omega, fun i hi => by rw [gd i (by omega)]; exact G i (by omega), fun i hi => ?_⟩
  rw [gd i (by omega)]
  rcases hty with rfl | ⟨rfl, hb⟩
  · rfl
  · have q := hb i
    have e128 : (-128 : Int32).toInt = -128 := rfl
    have e127 : (127 : Int32).toInt = 127 := rfl
    show (decide (-128 ≤ g i) && decide (g i ≤ 127)) = true
    simp only [Bool.and_eq_true, decide_eq_true_eq, Int32.le_iff_toInt_le, e128, e127]
    exact q
def cpv (g g2 : Nat → Int32) (s d n : Nat) : Nat → Int32 := fun i => if d ≤ i ∧ i < d + n then g (s + (i - d)) else g2 i
theorem Arv.own {k : ClassId} {z : Int32} {vs : List Value} {dv : Value} {g : Nat → Int32} (A : Arv Z h a k ty z vs dv) (hz : z.toInt = n) (hv : ∀ i, i < n → vs.getD i dv = .int (g i)) : OwnA Z h a ty n (iv' g) := by
  obtain ⟨cl, A, -, S, -, H, -⟩ := A
  have e1 : z.toNatClampNeg = n := by show z.toInt.toNat = n; omega
  exact ⟨cl, A, by rw [S, e1], fun i hi => by rw [H i (by rw [S, e1]; exact hi), hv i hi]⟩
theorem own_i32 (n : Nat) (h : n < 2147483648) : (Int32.ofNat n).toInt = n := by
  exact Int32.toInt_ofNat_of_lt h
theorem own_cpl (g g2 : Nat → Int32) (n n2 s d k i : Nat) (b1 : s + k ≤ n) (b2 : d + k ≤ n2) (hi : i < n2) : (((List.range n2).map (iv' g2)).take d ++ (List.range k).map (fun i => ((List.range n).map (iv' g)).getD (s + i) (.int 0)) ++ ((List.range n2).map (iv' g2)).drop (d + k)).getD i (.int 0) = .int (cpv g g2 s d k i) := by
  simp only [cpv, List.getD_eq_getElem?_getD]
  by_cases q1 : i < d
  · rw [List.append_assoc, List.getElem?_append_left (by simp only [List.length_map, List.length_range, List.length_take, List.length_append, List.length_drop]; omega), if_neg (by omega)]
    simp [q1, hi, List.getElem?_take]
  · have q3 : min d n2 = d := by omega
    by_cases q2 : i < d + k
    · rw [List.getElem?_append_left (by simp only [List.length_map, List.length_range, List.length_take, List.length_append, List.length_drop]; omega), List.getElem?_append_right (by simp only [List.length_map, List.length_range, List.length_take, List.length_append, List.length_drop]; omega), if_pos (by omega)]
      have q4 : i - d < k := by omega
      have q5 : s + (i - d) < n := by omega
      simp [q3, q4, q5]
    · rw [List.getElem?_append_right (by simp only [List.length_map, List.length_range, List.length_take, List.length_append, List.length_drop]; omega), if_neg (by omega)]
      have q4 : i - (d + k) < n2 - (d + k) := by omega
      have q5 : d + k + (i - (d + k)) = i := by omega
      simp [q3, q5, hi]
theorem own_cp {g g2 : Nat → Int32} {n2 : Nat} (A : OwnA Z h a ty n (iv' g)) (B : OwnA Z h b ty n2 (iv' g2)) (hn : n < 2147483648) (hn2 : n2 < 2147483648) (hty : ty = .int ∨ (ty = .byte ∧ Byt g ∧ Byt g2))
    (X : Stand p l e R s m args below meth c T locs cells slots) (hx : p.tables.exec = Jvm.exec) (hZ : Z.Warmed39 s.vm) {own : String} {index : Nat} (hown : s.vm.findClass own = some m.cls)
    (w1 : (Cond.methodLink own index Jvm.Stand.acN).before a0 Z = true) (w2 : (Cond.native Jvm.Stand.acN).before a0 Z = true) (w3 : (Cond.static Jvm.Stand.acN).before a0 Z = true) (w4 : (Cond.initialized "java/lang/System").before a0 Z = true) (eT : T.heap = h)
    {sp dp nn : Int32} (h1 : 0 ≤ sp.toInt) (h2 : 0 ≤ dp.toInt) (h3 : 0 ≤ nn.toInt) (h4 : sp.toInt + nn.toInt ≤ n) (h5 : dp.toInt + nn.toInt ≤ n2) {n0 : Nat} (N : Fr n0 locs) (ge : n0 ≤ b)
    {gf : JFrame} (hg : gf.method = m) (hsize : gf.locals.size = c.maxLocals) {rest : List Value} (hs : gf.stack = .int nn :: .int dp :: .ref b :: .int sp :: .ref a :: rest) (hd : decode c.code gf.pc = .ok (.invokestatic index, 3))
    (hf : 1 ≤ R.frames) {W : Nat} (hW : 2 * gf.monitorRoom + (rest.map fun v => v.category).sum ≤ W) (hlo : W + (nativeFrameWords "java/lang/System" "arraycopy" 5 + 11) ≤ R.locals) :
    ∃ T' h' L, Stand p l e R s m args below meth c T' L cells slots ∧ T'.heap = h' ∧ Fr n0 L ∧ Keep h h' [b] ∧ OwnA Z h' b ty n2 (iv' (cpv g g2 sp.toInt.toNat dp.toInt.toNat nn.toInt.toNat)) ∧
      ∀ target, Steps p.tables e below (T'.setTop { gf with pc := gf.pc + 3, stack := rest }) target → Steps p.tables e below (T.setTop gf) target := by
  obtain ⟨k, A'⟩ := A.arv (z := Int32.ofNat n) (hty.imp id fun q => ⟨q.1, q.2.1⟩) (own_i32 n hn)
  obtain ⟨k2, B'⟩ := B.arv (z := Int32.ofNat n2) (hty.imp id fun q => ⟨q.1, q.2.2⟩) (own_i32 n2 hn2)
  have pr : refKind ty = false := by rcases hty with rfl | ⟨rfl, -⟩ <;> rfl
  have lt0 : ∀ {x : Int32}, 0 ≤ x.toInt → ¬ x < 0 := fun {x} q => by rw [Int32.lt_iff_toInt_lt]; show ¬ x.toInt < 0; omega
  have cl : ∀ {x : Int32}, x.toNatClampNeg = x.toInt.toNat := fun {x} => rfl
  have en := own_i32 n hn
  have en2 := own_i32 n2 hn2
  obtain ⟨T', h', L, X', e', N', K, V, st⟩ := cpA X hx hZ hown w1 w2 w3 w4 eT A' B' (Or.inl ⟨rfl, pr⟩) (sp := sp) (dp := dp) (nn := nn) (lt0 h1) (lt0 h2) (lt0 h3) (by rw [cl, cl, cl]; omega) (by rw [cl, cl, cl]; omega) rfl (by show dp.toInt.toNat + nn.toInt.toNat ≤ _; simp only [List.length_map, List.length_range, List.length_take, List.length_append, List.length_drop]; omega) N ge hg hsize hs hd hf hW hlo
  exact ⟨T', h', L, X', e', N', K, Arv.own V en2 fun i hi => own_cpl g g2 n n2 sp.toInt.toNat dp.toInt.toNat nn.toInt.toNat i (by omega) (by omega) hi, st⟩
end Store
end Jvm.OwnKit
namespace Jvm.OwnKit
open Jvm.RoadKit Jvm.LawKit
def own_V (d : Int64) (c : Int32) : Int64 := (d <<< ((1 : Int32) &&& 0x3f).toInt64) ||| ((if c = (1 : Int32) then (0 : Int32) else (1 : Int32)).toInt64)
theorem own_Vv (d : Int64) (c : Int32) (hd : 0 ≤ d.toInt ∧ d.toInt < 4611686018427387904) : (own_V d c).toInt = 2 * d.toInt + (if c = (1 : Int32) then 0 else 1) := by
  unfold own_V
  have a := c_lshl d 1 1 (by decide)
  have r := rng64 (d <<< ((1 : Int32) &&& 0x3f).toInt64)
  have a' : (d <<< ((1 : Int32) &&& 0x3f).toInt64).toInt = 2 * d.toInt := by omega
  split
  · have o := c_orL (d <<< ((1 : Int32) &&& 0x3f).toInt64) (0 : Int32).toInt64 1 (by decide) 2 (by decide) (by omega) (by decide) (by decide)
    have r2 := rng64 ((d <<< ((1 : Int32) &&& 0x3f).toInt64) ||| (0 : Int32).toInt64)
    have e : ((0 : Int32).toInt64).toInt = 0 := rfl
    omega
  · have o := c_orL (d <<< ((1 : Int32) &&& 0x3f).toInt64) (1 : Int32).toInt64 1 (by decide) 2 (by decide) (by omega) (by decide) (by decide)
    have r2 := rng64 ((d <<< ((1 : Int32) &&& 0x3f).toInt64) ||| (1 : Int32).toInt64)
    have e : ((1 : Int32).toInt64).toInt = 1 := rfl
    omega
theorem own_V1 (d : Int64) (c : Int32) (hd : 0 ≤ d.toInt ∧ d.toInt < 4611686018427387904) : (own_V d c &&& (1 : Int64) = 0) ↔ c = 1 := by
  have a := own_Vv d c hd
  have b := c_maskL (own_V d c) 1 1 (by decide) (by decide)
  rw [← Int64.toInt_inj, b, a]
  show _ = (0 : Int) ↔ _
  split <;> rename_i h <;> simp only [h, iff_true, iff_false] <;> omega
theorem own_Vs (d : Int64) (c : Int32) (hd : 0 ≤ d.toInt ∧ d.toInt < 4611686018427387904) : (((own_V d c).toUInt64 >>> ((1 : Int32) &&& 0x3f).toInt64.toUInt64).toInt64) = d := by
  have a := own_Vv d c hd
  have b := c_lushr (own_V d c) 1 1 (by decide) (by decide)
  rw [← Int64.toInt_inj, b, a]
  split <;> omega
theorem own_Mx (v : Int64) (hv : 0 ≤ v.toInt) : ∃ M, (1 ≤ M ∧ M ≤ 9) ∧ (∀ j, j + 1 < M → ¬ own_rs v j < (128 : Int64)) ∧ own_rs v (M - 1) < (128 : Int64) ∧ (v.toInt < 128 → M ≤ 1) ∧ (v.toInt < 16384 → M ≤ 2) ∧ (v.toInt < 2147483648 → M ≤ 5) := by
  have q0 : (own_rs v 0).toInt = v.toInt := rfl
  have q1 : (own_rs v 1).toInt = v.toInt / 128 := by
    have a : (own_rs v 1).toInt = (own_rs v 0).toInt / 128 := (own_rp v hv 0).2
    omega
  have q2 : (own_rs v 2).toInt = v.toInt / 16384 := by
    have a : (own_rs v 2).toInt = (own_rs v 1).toInt / 128 := (own_rp v hv 1).2
    omega
  have q3 : (own_rs v 3).toInt = v.toInt / 2097152 := by
    have a : (own_rs v 3).toInt = (own_rs v 2).toInt / 128 := (own_rp v hv 2).2
    omega
  have q4 : (own_rs v 4).toInt = v.toInt / 268435456 := by
    have a : (own_rs v 4).toInt = (own_rs v 3).toInt / 128 := (own_rp v hv 3).2
    omega
  have q5 : (own_rs v 5).toInt = v.toInt / 34359738368 := by
    have a : (own_rs v 5).toInt = (own_rs v 4).toInt / 128 := (own_rp v hv 4).2
    omega
  have q6 : (own_rs v 6).toInt = v.toInt / 4398046511104 := by
    have a : (own_rs v 6).toInt = (own_rs v 5).toInt / 128 := (own_rp v hv 5).2
    omega
  have q7 : (own_rs v 7).toInt = v.toInt / 562949953421312 := by
    have a : (own_rs v 7).toInt = (own_rs v 6).toInt / 128 := (own_rp v hv 6).2
    omega
  have q8 : (own_rs v 8).toInt = v.toInt / 72057594037927936 := by
    have a : (own_rs v 8).toInt = (own_rs v 7).toInt / 128 := (own_rp v hv 7).2
    omega
  have rv := rng64 v
  have e128 : (128 : Int64).toInt = 128 := rfl
  obtain ⟨M, h1, h2, h3, h4⟩ := own_M v hv 8 (by omega)
  have key : ∀ B, (own_rs v B).toInt < 128 → M ≤ B + 1 := by
    intro B hB
    rcases Nat.lt_or_ge (B + 1) M with q | q
    · exact absurd (by rw [Int64.lt_iff_toInt_lt, e128]; exact hB) (h3 B q)
    · exact q
  exact ⟨M, ⟨h1, by omega⟩, h3, h4, fun q => key 0 (by omega), fun q => key 1 (by omega), fun q => key 4 (by omega)⟩
/-- an entry's octets lie in g from a up to b: its head v, and its count c where the head says so -/
def Ent (g : Nat → Int32) (a b : Nat) (v : Int64) (c : Int32) : Prop := ∃ M1 M2, Num g a M1 v ∧ ((v &&& (1 : Int64) = 0 ∧ c = 1 ∧ b = a + M1) ∨ (¬ v &&& (1 : Int64) = 0 ∧ Num g (a + M1) M2 c.toInt64 ∧ b = a + M1 + M2))
theorem Ent.lt {g : Nat → Int32} {a b : Nat} {v : Int64} {c : Int32} (E : Ent g a b v c) : a < b := by
  obtain ⟨M1, M2, N, ⟨-, -, h⟩ | ⟨-, N2, h⟩⟩ := E
  · have := N.1; omega
  · have := N.1; have := N2.1; omega
theorem Ent.copy {g g2 : Nat → Int32} {a b a2 b2 : Nat} {v : Int64} {c : Int32} (E : Ent g a b v c) (hb : b2 + a = b + a2) (h : ∀ j, a + j < b → g2 (a2 + j) = g (a + j)) : Ent g2 a2 b2 v c := by
  obtain ⟨M1, M2, N, H⟩ := E
  have n1 := N.1
  rcases H with ⟨h1, h2, h3⟩ | ⟨h1, N2, h3⟩
  · exact ⟨M1, M2, N.copy fun j hj => h j (by omega), Or.inl ⟨h1, h2, by omega⟩⟩
  · have n2 := N2.1
    exact ⟨M1, M2, N.copy fun j hj => h j (by omega), Or.inr ⟨h1, N2.copy fun j hj => by rw [Nat.add_assoc, h (M1 + j) (by omega), Nat.add_assoc], by omega⟩⟩
theorem own_wfo (g : Nat → Int32) (a : Nat) (v : Int64) (M k : Nat) (hM : 1 ≤ M) (hk : k < a) : own_wf g a v M k = g k := by
  rw [own_wfat _ _ _ _ _ hM, if_neg (by omega)]
theorem own_ent1 (g : Nat → Int32) (a : Nat) (v : Int64) (M : Nat) (hv : 0 ≤ v.toInt) (hM : 1 ≤ M ∧ M ≤ 9) (hl : own_rs v (M - 1) < (128 : Int64)) (h1 : v &&& (1 : Int64) = 0) : Ent (own_wf g a v M) a (a + M) v 1 := ⟨M, 0, own_num g a v M hv hM hl, Or.inl ⟨h1, rfl, rfl⟩⟩
theorem own_ent2 (g : Nat → Int32) (a : Nat) (v : Int64) (M : Nat) (hv : 0 ≤ v.toInt) (hM : 1 ≤ M ∧ M ≤ 9) (hl : own_rs v (M - 1) < (128 : Int64)) (h1 : ¬ v &&& (1 : Int64) = 0) (c : Int32) (M2 : Nat) (hc : 0 ≤ c.toInt) (hM2 : 1 ≤ M2 ∧ M2 ≤ 9) (hl2 : own_rs c.toInt64 (M2 - 1) < (128 : Int64)) :
    Ent (own_wf (own_wf g a v M) (a + M) c.toInt64 M2) a (a + M + M2) v c :=
  ⟨M, M2, (own_num g a v M hv hM hl).copy fun j hj => own_wfo _ _ _ _ _ hM2.1 (by omega), Or.inr ⟨h1, own_num _ _ _ _ (by rw [c_i2l]; exact hc) hM2 hl2, rfl⟩⟩
end Jvm.OwnKit
namespace Jvm.OwnKit
/-- a row of entries in g from a up to b -/
def Ents (g : Nat → Int32) : Nat → Nat → List (Int64 × Int32) → Prop
  | a, b, [] => a = b
  | a, b, (v, c) :: r => ∃ k, Ent g a k v c ∧ Ents g k b r
theorem Ents.le {g : Nat → Int32} : ∀ {l : List (Int64 × Int32)} {a b : Nat}, Ents g a b l → a ≤ b
  | [], _, _, h => Nat.le_of_eq h
  | _ :: _, _, _, ⟨_, h1, h2⟩ => Nat.le_trans (Nat.le_of_lt h1.lt) (Ents.le h2)
theorem Ents.copy {g g2 : Nat → Int32} : ∀ {l : List (Int64 × Int32)} {a b a2 b2 : Nat}, Ents g a b l → b2 + a = b + a2 → (∀ j, a + j < b → g2 (a2 + j) = g (a + j)) → Ents g2 a2 b2 l
  | [], a, b, a2, b2, h, hb, _ => by have h' : a = b := h; show a2 = b2; omega
  | _ :: r, a, b, a2, b2, ⟨k, h1, h2⟩, hb, h => by
    have l1 := h1.lt
    have l2 := Ents.le h2
    refine ⟨a2 + (k - a), h1.copy (by omega) fun j hj => h j (by omega), Ents.copy h2 (by omega) fun j hj => ?_⟩
    have q := h (k - a + j) (by omega)
    rw [show a2 + (k - a + j) = a2 + (k - a) + j by omega, show a + (k - a + j) = k + j by omega] at q
    exact q
end Jvm.OwnKit
namespace Jvm.OwnKit
open Sem ClassFile Op Lib Jvm.Stand Jvm.Free Jvm.LawKit Jvm.RoadKit
section Steps1
variable {p : Program} {l : Launch} {e : Env} {R : Room} {s : State} {m : MethodId} {args : Array Value} {below : List Frame} {meth : Method} {c : Code} {T : State} {locs : List Loc} {cells slots : Nat} {Z : State} {a0 : Array Value} {h : Heap} {a : Addr} {n : Nat} {bc : ByteArray} {pc : Nat} {L : Array Slot} {S : List Value}
theorem y_iload (X : Stand p l e R s m args below meth c T locs cells slots) (H : p.tables.exec = Jvm.exec ∧ c.code = bc)  {i : Nat} {v : Int32} (hd : decode bc pc = .ok (.iload i, 2)) (hl : L[i]? = some (.val (.int v))) : ∀ t, Steps p.tables e below (T.setTop (mkF m (pc + 2) L (.int v :: S))) t → Steps p.tables e below (T.setTop (mkF m pc L S)) t := fun t k => XS.iload X.here H.1 rfl (hb H.2 hd) hl k
theorem y_iloadN (X : Stand p l e R s m args below meth c T locs cells slots) (H : p.tables.exec = Jvm.exec ∧ c.code = bc)  {i : Fin 4} {v : Int32} (hd : decode bc pc = .ok (.iload_n i, 1)) (hl : L[i.val]? = some (.val (.int v))) : ∀ t, Steps p.tables e below (T.setTop (mkF m (pc + 1) L (.int v :: S))) t → Steps p.tables e below (T.setTop (mkF m pc L S)) t := fun t k => XS.iloadN X.here H.1 rfl (hb H.2 hd) hl k
theorem y_istore (X : Stand p l e R s m args below meth c T locs cells slots) (H : p.tables.exec = Jvm.exec ∧ c.code = bc)  {i : Nat} {v : Int32} (L' : Array Slot) (hd : decode bc pc = .ok (.istore i, 2)) (hl : storeLocals L i (.int v) = some L') : ∀ t, Steps p.tables e below (T.setTop (mkF m (pc + 2) L' S)) t → Steps p.tables e below (T.setTop (mkF m pc L (.int v :: S))) t := fun t k => XS.istore X.here H.1 rfl (hb H.2 hd) rfl hl k
theorem y_istoreN (X : Stand p l e R s m args below meth c T locs cells slots) (H : p.tables.exec = Jvm.exec ∧ c.code = bc)  {i : Fin 4} {v : Int32} (L' : Array Slot) (hd : decode bc pc = .ok (.istore_n i, 1)) (hl : storeLocals L i.val (.int v) = some L') : ∀ t, Steps p.tables e below (T.setTop (mkF m (pc + 1) L' S)) t → Steps p.tables e below (T.setTop (mkF m pc L (.int v :: S))) t := fun t k => XS.istoreN X.here H.1 rfl (hb H.2 hd) rfl hl k
theorem y_lload (X : Stand p l e R s m args below meth c T locs cells slots) (H : p.tables.exec = Jvm.exec ∧ c.code = bc)  {i : Nat} {v : Int64} (hd : decode bc pc = .ok (.lload i, 2)) (hl : L[i]? = some (.val (.long v))) : ∀ t, Steps p.tables e below (T.setTop (mkF m (pc + 2) L (.long v :: S))) t → Steps p.tables e below (T.setTop (mkF m pc L S)) t := fun t k => XS.lload X.here H.1 rfl (hb H.2 hd) hl k
theorem y_lloadN (X : Stand p l e R s m args below meth c T locs cells slots) (H : p.tables.exec = Jvm.exec ∧ c.code = bc)  {i : Fin 4} {v : Int64} (hd : decode bc pc = .ok (.lload_n i, 1)) (hl : L[i.val]? = some (.val (.long v))) : ∀ t, Steps p.tables e below (T.setTop (mkF m (pc + 1) L (.long v :: S))) t → Steps p.tables e below (T.setTop (mkF m pc L S)) t := fun t k => XS.lloadN X.here H.1 rfl (hb H.2 hd) hl k
theorem y_lstore (X : Stand p l e R s m args below meth c T locs cells slots) (H : p.tables.exec = Jvm.exec ∧ c.code = bc)  {i : Nat} {v : Int64} (L' : Array Slot) (hd : decode bc pc = .ok (.lstore i, 2)) (hl : storeLocals L i (.long v) = some L') : ∀ t, Steps p.tables e below (T.setTop (mkF m (pc + 2) L' S)) t → Steps p.tables e below (T.setTop (mkF m pc L (.long v :: S))) t := fun t k => XS.lstore X.here H.1 rfl (hb H.2 hd) rfl hl k
theorem y_lstoreN (X : Stand p l e R s m args below meth c T locs cells slots) (H : p.tables.exec = Jvm.exec ∧ c.code = bc)  {i : Fin 4} {v : Int64} (L' : Array Slot) (hd : decode bc pc = .ok (.lstore_n i, 1)) (hl : storeLocals L i.val (.long v) = some L') : ∀ t, Steps p.tables e below (T.setTop (mkF m (pc + 1) L' S)) t → Steps p.tables e below (T.setTop (mkF m pc L (.long v :: S))) t := fun t k => XS.lstoreN X.here H.1 rfl (hb H.2 hd) rfl hl k
theorem y_aload (X : Stand p l e R s m args below meth c T locs cells slots) (H : p.tables.exec = Jvm.exec ∧ c.code = bc)  {i : Nat} {v : Addr} (hd : decode bc pc = .ok (.aload i, 2)) (hl : L[i]? = some (.val (.ref v))) : ∀ t, Steps p.tables e below (T.setTop (mkF m (pc + 2) L (.ref v :: S))) t → Steps p.tables e below (T.setTop (mkF m pc L S)) t := fun t k => XS.aload X.here H.1 rfl (hb H.2 hd) hl rfl k
theorem y_aloadN (X : Stand p l e R s m args below meth c T locs cells slots) (H : p.tables.exec = Jvm.exec ∧ c.code = bc)  {i : Fin 4} {v : Addr} (hd : decode bc pc = .ok (.aload_n i, 1)) (hl : L[i.val]? = some (.val (.ref v))) : ∀ t, Steps p.tables e below (T.setTop (mkF m (pc + 1) L (.ref v :: S))) t → Steps p.tables e below (T.setTop (mkF m pc L S)) t := fun t k => XS.aloadN X.here H.1 rfl (hb H.2 hd) hl rfl k
theorem y_astore (X : Stand p l e R s m args below meth c T locs cells slots) (H : p.tables.exec = Jvm.exec ∧ c.code = bc)  {i : Nat} {v : Addr} (L' : Array Slot) (hd : decode bc pc = .ok (.astore i, 2)) (hl : storeLocals L i (.ref v) = some L') : ∀ t, Steps p.tables e below (T.setTop (mkF m (pc + 2) L' S)) t → Steps p.tables e below (T.setTop (mkF m pc L (.ref v :: S))) t := fun t k => XS.astore X.here H.1 rfl (hb H.2 hd) rfl rfl hl k
theorem y_astoreN (X : Stand p l e R s m args below meth c T locs cells slots) (H : p.tables.exec = Jvm.exec ∧ c.code = bc)  {i : Fin 4} {v : Addr} (L' : Array Slot) (hd : decode bc pc = .ok (.astore_n i, 1)) (hl : storeLocals L i.val (.ref v) = some L') : ∀ t, Steps p.tables e below (T.setTop (mkF m (pc + 1) L' S)) t → Steps p.tables e below (T.setTop (mkF m pc L (.ref v :: S))) t := fun t k => XS.astoreN X.here H.1 rfl (hb H.2 hd) rfl rfl hl k
theorem y_istoreS (X : Stand p l e R s m args below meth c T locs cells slots) (H : p.tables.exec = Jvm.exec ∧ c.code = bc)  {i : Nat} {v : Int32} {o : Slot} (L' : Array Slot) (hd : decode bc pc = .ok (.istore i, 2)) (hold : L[i]? = some o) (ho : One o) (hl : L.setIfInBounds i (.val (.int v)) = L') : ∀ t, Steps p.tables e below (T.setTop (mkF m (pc + 2) L' S)) t → Steps p.tables e below (T.setTop (mkF m pc L (.int v :: S))) t := fun t k => XS.istoreS X.here H.1 rfl (hb H.2 hd) rfl hold ho (hl ▸ k)
theorem y_iconst (X : Stand p l e R s m args below meth c T locs cells slots) (H : p.tables.exec = Jvm.exec ∧ c.code = bc)  {i : Int} (z : Int32) (hd : decode bc pc = .ok (.iconst i, 1)) (hz : Int32.ofInt i = z) : ∀ t, Steps p.tables e below (T.setTop (mkF m (pc + 1) L (.int z :: S))) t → Steps p.tables e below (T.setTop (mkF m pc L S)) t := fun t k => XS.iconst X.here H.1 rfl (hb H.2 hd) (hz ▸ k)
theorem y_bipush (X : Stand p l e R s m args below meth c T locs cells slots) (H : p.tables.exec = Jvm.exec ∧ c.code = bc)  {i : Int} (z : Int32) (hd : decode bc pc = .ok (.bipush i, 2)) (hz : (Int8.ofInt i).toInt32 = z) : ∀ t, Steps p.tables e below (T.setTop (mkF m (pc + 2) L (.int z :: S))) t → Steps p.tables e below (T.setTop (mkF m pc L S)) t := fun t k => XS.bipush X.here H.1 rfl (hb H.2 hd) (hz ▸ k)
theorem y_sipush (X : Stand p l e R s m args below meth c T locs cells slots) (H : p.tables.exec = Jvm.exec ∧ c.code = bc)  {i : Int} (z : Int32) (hd : decode bc pc = .ok (.sipush i, 3)) (hz : (Int16.ofInt i).toInt32 = z) : ∀ t, Steps p.tables e below (T.setTop (mkF m (pc + 3) L (.int z :: S))) t → Steps p.tables e below (T.setTop (mkF m pc L S)) t := fun t k => XS.sipush X.here H.1 rfl (hb H.2 hd) (hz ▸ k)
theorem y_lconst (X : Stand p l e R s m args below meth c T locs cells slots) (H : p.tables.exec = Jvm.exec ∧ c.code = bc)  {i : Fin 2} (z : Int64) (hd : decode bc pc = .ok (.lconst i, 1)) (hz : Int64.ofNat i = z) : ∀ t, Steps p.tables e below (T.setTop (mkF m (pc + 1) L (.long z :: S))) t → Steps p.tables e below (T.setTop (mkF m pc L S)) t := fun t k => XS.lconst X.here H.1 rfl (hb H.2 hd) (hz ▸ k)
theorem y_iadd (X : Stand p l e R s m args below meth c T locs cells slots) (H : p.tables.exec = Jvm.exec ∧ c.code = bc)  {x y : Int32} (hd : decode bc pc = .ok (.iadd, 1))  : ∀ t, Steps p.tables e below (T.setTop (mkF m (pc + 1) L (.int (x + y) :: S))) t → Steps p.tables e below (T.setTop (mkF m pc L (.int y :: .int x :: S))) t := fun t k => XS.iadd X.here H.1 rfl (hb H.2 hd) rfl k
theorem y_isub (X : Stand p l e R s m args below meth c T locs cells slots) (H : p.tables.exec = Jvm.exec ∧ c.code = bc)  {x y : Int32} (hd : decode bc pc = .ok (.isub, 1))  : ∀ t, Steps p.tables e below (T.setTop (mkF m (pc + 1) L (.int (x - y) :: S))) t → Steps p.tables e below (T.setTop (mkF m pc L (.int y :: .int x :: S))) t := fun t k => XS.isub X.here H.1 rfl (hb H.2 hd) rfl k
theorem y_imul (X : Stand p l e R s m args below meth c T locs cells slots) (H : p.tables.exec = Jvm.exec ∧ c.code = bc)  {x y : Int32} (hd : decode bc pc = .ok (.imul, 1))  : ∀ t, Steps p.tables e below (T.setTop (mkF m (pc + 1) L (.int (x * y) :: S))) t → Steps p.tables e below (T.setTop (mkF m pc L (.int y :: .int x :: S))) t := fun t k => XS.imul X.here H.1 rfl (hb H.2 hd) rfl k
theorem y_iand (X : Stand p l e R s m args below meth c T locs cells slots) (H : p.tables.exec = Jvm.exec ∧ c.code = bc)  {x y : Int32} (hd : decode bc pc = .ok (.iand, 1))  : ∀ t, Steps p.tables e below (T.setTop (mkF m (pc + 1) L (.int (x &&& y) :: S))) t → Steps p.tables e below (T.setTop (mkF m pc L (.int y :: .int x :: S))) t := fun t k => XS.iand X.here H.1 rfl (hb H.2 hd) rfl k
theorem y_ixor (X : Stand p l e R s m args below meth c T locs cells slots) (H : p.tables.exec = Jvm.exec ∧ c.code = bc)  {x y : Int32} (hd : decode bc pc = .ok (.ixor, 1))  : ∀ t, Steps p.tables e below (T.setTop (mkF m (pc + 1) L (.int (x ^^^ y) :: S))) t → Steps p.tables e below (T.setTop (mkF m pc L (.int y :: .int x :: S))) t := fun t k => XS.ixor X.here H.1 rfl (hb H.2 hd) rfl k
theorem y_ladd (X : Stand p l e R s m args below meth c T locs cells slots) (H : p.tables.exec = Jvm.exec ∧ c.code = bc)  {x y : Int64} (hd : decode bc pc = .ok (.ladd, 1))  : ∀ t, Steps p.tables e below (T.setTop (mkF m (pc + 1) L (.long (x + y) :: S))) t → Steps p.tables e below (T.setTop (mkF m pc L (.long y :: .long x :: S))) t := fun t k => XS.ladd X.here H.1 rfl (hb H.2 hd) rfl k
theorem y_lsub (X : Stand p l e R s m args below meth c T locs cells slots) (H : p.tables.exec = Jvm.exec ∧ c.code = bc)  {x y : Int64} (hd : decode bc pc = .ok (.lsub, 1))  : ∀ t, Steps p.tables e below (T.setTop (mkF m (pc + 1) L (.long (x - y) :: S))) t → Steps p.tables e below (T.setTop (mkF m pc L (.long y :: .long x :: S))) t := fun t k => XS.lsub X.here H.1 rfl (hb H.2 hd) rfl k
theorem y_lmul (X : Stand p l e R s m args below meth c T locs cells slots) (H : p.tables.exec = Jvm.exec ∧ c.code = bc)  {x y : Int64} (hd : decode bc pc = .ok (.lmul, 1))  : ∀ t, Steps p.tables e below (T.setTop (mkF m (pc + 1) L (.long (x * y) :: S))) t → Steps p.tables e below (T.setTop (mkF m pc L (.long y :: .long x :: S))) t := fun t k => XS.lmul X.here H.1 rfl (hb H.2 hd) rfl k
theorem y_land (X : Stand p l e R s m args below meth c T locs cells slots) (H : p.tables.exec = Jvm.exec ∧ c.code = bc)  {x y : Int64} (hd : decode bc pc = .ok (.land, 1))  : ∀ t, Steps p.tables e below (T.setTop (mkF m (pc + 1) L (.long (x &&& y) :: S))) t → Steps p.tables e below (T.setTop (mkF m pc L (.long y :: .long x :: S))) t := fun t k => XS.land X.here H.1 rfl (hb H.2 hd) rfl k
theorem y_lor (X : Stand p l e R s m args below meth c T locs cells slots) (H : p.tables.exec = Jvm.exec ∧ c.code = bc)  {x y : Int64} (hd : decode bc pc = .ok (.lor, 1))  : ∀ t, Steps p.tables e below (T.setTop (mkF m (pc + 1) L (.long (x ||| y) :: S))) t → Steps p.tables e below (T.setTop (mkF m pc L (.long y :: .long x :: S))) t := fun t k => XS.lor X.here H.1 rfl (hb H.2 hd) rfl k
theorem y_ldiv (X : Stand p l e R s m args below meth c T locs cells slots) (H : p.tables.exec = Jvm.exec ∧ c.code = bc)  {x y : Int64} (hd : decode bc pc = .ok (.ldiv, 1)) (hy : y ≠ 0) : ∀ t, Steps p.tables e below (T.setTop (mkF m (pc + 1) L (.long (x / y) :: S))) t → Steps p.tables e below (T.setTop (mkF m pc L (.long y :: .long x :: S))) t := fun t k => XS.ldiv X.here H.1 rfl (hb H.2 hd) rfl hy k
theorem y_i2l (X : Stand p l e R s m args below meth c T locs cells slots) (H : p.tables.exec = Jvm.exec ∧ c.code = bc)  {x : Int32} (hd : decode bc pc = .ok (.i2l, 1))  : ∀ t, Steps p.tables e below (T.setTop (mkF m (pc + 1) L (.long (x.toInt64) :: S))) t → Steps p.tables e below (T.setTop (mkF m pc L (.int x :: S))) t := fun t k => XS.i2l X.here H.1 rfl (hb H.2 hd) rfl k
theorem y_l2i (X : Stand p l e R s m args below meth c T locs cells slots) (H : p.tables.exec = Jvm.exec ∧ c.code = bc)  {x : Int64} (hd : decode bc pc = .ok (.l2i, 1))  : ∀ t, Steps p.tables e below (T.setTop (mkF m (pc + 1) L (.int (x.toInt32) :: S))) t → Steps p.tables e below (T.setTop (mkF m pc L (.long x :: S))) t := fun t k => XS.l2i X.here H.1 rfl (hb H.2 hd) rfl k
theorem y_i2b (X : Stand p l e R s m args below meth c T locs cells slots) (H : p.tables.exec = Jvm.exec ∧ c.code = bc)  {x : Int32} (hd : decode bc pc = .ok (.i2b, 1))  : ∀ t, Steps p.tables e below (T.setTop (mkF m (pc + 1) L (.int (x.toInt8.toInt32) :: S))) t → Steps p.tables e below (T.setTop (mkF m pc L (.int x :: S))) t := fun t k => XS.i2b X.here H.1 rfl (hb H.2 hd) rfl k
theorem y_iushr (X : Stand p l e R s m args below meth c T locs cells slots) (H : p.tables.exec = Jvm.exec ∧ c.code = bc)  {x : Int32} {y : Int32} (hd : decode bc pc = .ok (.iushr, 1))  : ∀ t, Steps p.tables e below (T.setTop (mkF m (pc + 1) L (.int ((x.toUInt32 >>> (y &&& 31).toUInt32).toInt32) :: S))) t → Steps p.tables e below (T.setTop (mkF m pc L (.int y :: .int x :: S))) t := fun t k => XS.iushr X.here H.1 rfl (hb H.2 hd) rfl k
theorem y_lshl (X : Stand p l e R s m args below meth c T locs cells slots) (H : p.tables.exec = Jvm.exec ∧ c.code = bc)  {x : Int64} {y : Int32} (hd : decode bc pc = .ok (.lshl, 1))  : ∀ t, Steps p.tables e below (T.setTop (mkF m (pc + 1) L (.long (x <<< (y &&& 0x3f).toInt64) :: S))) t → Steps p.tables e below (T.setTop (mkF m pc L (.int y :: .long x :: S))) t := fun t k => XS.lshl X.here H.1 rfl (hb H.2 hd) rfl k
theorem y_lushr (X : Stand p l e R s m args below meth c T locs cells slots) (H : p.tables.exec = Jvm.exec ∧ c.code = bc)  {x : Int64} {y : Int32} (hd : decode bc pc = .ok (.lushr, 1))  : ∀ t, Steps p.tables e below (T.setTop (mkF m (pc + 1) L (.long ((x.toUInt64 >>> (y &&& 0x3f).toInt64.toUInt64).toInt64) :: S))) t → Steps p.tables e below (T.setTop (mkF m pc L (.int y :: .long x :: S))) t := fun t k => XS.lushr X.here H.1 rfl (hb H.2 hd) rfl k
theorem y_lcmp (X : Stand p l e R s m args below meth c T locs cells slots) (H : p.tables.exec = Jvm.exec ∧ c.code = bc)  {x y : Int64} (hd : decode bc pc = .ok (.lcmp, 1))  : ∀ t, Steps p.tables e below (T.setTop (mkF m (pc + 1) L (.int (lcmpW x y) :: S))) t → Steps p.tables e below (T.setTop (mkF m pc L (.long y :: .long x :: S))) t := fun t k => XS.lcmp X.here H.1 rfl (hb H.2 hd) rfl k
theorem y_iinc (X : Stand p l e R s m args below meth c T locs cells slots) (H : p.tables.exec = Jvm.exec ∧ c.code = bc)  {i : Nat} {q : Int} {x : Int32} (L' : Array Slot) (hd : decode bc pc = .ok (.iinc i q, 3)) (hl : L[i]? = some (.val (.int x))) (hl' : storeLocals L i (.int (x + Int32.ofInt q)) = some L') : ∀ t, Steps p.tables e below (T.setTop (mkF m (pc + 3) L' S)) t → Steps p.tables e below (T.setTop (mkF m pc L S)) t := fun t k => XS.iinc X.here H.1 rfl (hb H.2 hd) hl hl' k
theorem y_dup (X : Stand p l e R s m args below meth c T locs cells slots) (H : p.tables.exec = Jvm.exec ∧ c.code = bc)  {x : Value} (hd : decode bc pc = .ok (.dup, 1)) (hc : x.category = 1) : ∀ t, Steps p.tables e below (T.setTop (mkF m (pc + 1) L (x :: x :: S))) t → Steps p.tables e below (T.setTop (mkF m pc L (x :: S))) t := fun t k => XS.dup X.here H.1 rfl (hb H.2 hd) rfl hc k
theorem y_dup_x1 (X : Stand p l e R s m args below meth c T locs cells slots) (H : p.tables.exec = Jvm.exec ∧ c.code = bc)  {x y : Value} (hd : decode bc pc = .ok (.dup_x1, 1)) (hc : x.category = 1) (hc2 : y.category = 1) : ∀ t, Steps p.tables e below (T.setTop (mkF m (pc + 1) L (x :: y :: x :: S))) t → Steps p.tables e below (T.setTop (mkF m pc L (x :: y :: S))) t := fun t k => XS.dupX1 X.here H.1 rfl (hb H.2 hd) rfl hc hc2 k
theorem y_pop (X : Stand p l e R s m args below meth c T locs cells slots) (H : p.tables.exec = Jvm.exec ∧ c.code = bc)  {x : Value} (hd : decode bc pc = .ok (.pop, 1)) (hc : x.category = 1) : ∀ t, Steps p.tables e below (T.setTop (mkF m (pc + 1) L S)) t → Steps p.tables e below (T.setTop (mkF m pc L (x :: S))) t := fun t k => XS.pop X.here H.1 rfl (hb H.2 hd) rfl hc k
theorem y_goto (X : Stand p l e R s m args below meth c T locs cells slots) (H : p.tables.exec = Jvm.exec ∧ c.code = bc)  {o : Int} (pc' : Nat) (hd : decode bc pc = .ok (.goto o, 3)) (ho : 0 ≤ (pc : Int) + o) (hp : ((pc : Int) + o).toNat = pc') : ∀ t, Steps p.tables e below (T.setTop (mkF m pc' L S)) t → Steps p.tables e below (T.setTop (mkF m pc L S)) t := fun t k => XS.goto X.here H.1 rfl rfl (hb H.2 hd) ho hp k
theorem y_ifY (X : Stand p l e R s m args below meth c T locs cells slots) (H : p.tables.exec = Jvm.exec ∧ c.code = bc)  {cd : ClassFile.Cond} {o : Int} {x : Int32} (pc' : Nat) (hd : decode bc pc = .ok (.ifCond cd o, 3)) (hc : ifCond.holds cd x = true) (ho : 0 ≤ (pc : Int) + o) (hp : ((pc : Int) + o).toNat = pc') : ∀ t, Steps p.tables e below (T.setTop (mkF m pc' L S)) t → Steps p.tables e below (T.setTop (mkF m pc L (.int x :: S))) t := fun t k => XS.ifYes X.here H.1 rfl rfl (hb H.2 hd) rfl hc ho hp k
theorem y_ifN (X : Stand p l e R s m args below meth c T locs cells slots) (H : p.tables.exec = Jvm.exec ∧ c.code = bc)  {cd : ClassFile.Cond} {o : Int} {x : Int32} (hd : decode bc pc = .ok (.ifCond cd o, 3)) (hc : ifCond.holds cd x = false) : ∀ t, Steps p.tables e below (T.setTop (mkF m (pc + 3) L S)) t → Steps p.tables e below (T.setTop (mkF m pc L (.int x :: S))) t := fun t k => XS.ifNo X.here H.1 rfl (hb H.2 hd) rfl hc k
theorem y_icY (X : Stand p l e R s m args below meth c T locs cells slots) (H : p.tables.exec = Jvm.exec ∧ c.code = bc)  {cd : ClassFile.Cond} {o : Int} {x y : Int32} (pc' : Nat) (hd : decode bc pc = .ok (.if_icmp cd o, 3)) (hc : if_icmp.holds cd x y = true) (ho : 0 ≤ (pc : Int) + o) (hp : ((pc : Int) + o).toNat = pc') : ∀ t, Steps p.tables e below (T.setTop (mkF m pc' L S)) t → Steps p.tables e below (T.setTop (mkF m pc L (.int y :: .int x :: S))) t := fun t k => XS.icmpYes X.here H.1 rfl rfl (hb H.2 hd) rfl hc ho hp k
theorem y_icN (X : Stand p l e R s m args below meth c T locs cells slots) (H : p.tables.exec = Jvm.exec ∧ c.code = bc)  {cd : ClassFile.Cond} {o : Int} {x y : Int32} (hd : decode bc pc = .ok (.if_icmp cd o, 3)) (hc : if_icmp.holds cd x y = false) : ∀ t, Steps p.tables e below (T.setTop (mkF m (pc + 3) L S)) t → Steps p.tables e below (T.setTop (mkF m pc L (.int y :: .int x :: S))) t := fun t k => XS.icmpNo X.here H.1 rfl (hb H.2 hd) rfl hc k
theorem y_ldcI (X : Stand p l e R s m args below meth c T locs cells slots) (H : p.tables.exec = Jvm.exec ∧ c.code = bc)  {v : Int32} {own : String} {index : Nat} (hown : s.vm.findClass own = some m.cls) (w : (Cond.constant own index v).before args s = true) (hd : decode bc pc = .ok (.ldc index, 2))  : ∀ t, Steps p.tables e below (T.setTop (mkF m (pc + 2) L (.int v :: S))) t → Steps p.tables e below (T.setTop (mkF m pc L S)) t := fun t k => X.ldcInt H.1 hown w (g := mkF m pc L S) rfl (hb H.2 hd) t k
theorem y_ldc2 (X : Stand p l e R s m args below meth c T locs cells slots) (H : p.tables.exec = Jvm.exec ∧ c.code = bc)  {v : Int64} {own : String} {index : Nat} (hown : s.vm.findClass own = some m.cls) (w : (Cond.constantLong own index v).before args s = true) (hd : decode bc pc = .ok (.ldc2_w index, 3))  : ∀ t, Steps p.tables e below (T.setTop (mkF m (pc + 3) L (.long v :: S))) t → Steps p.tables e below (T.setTop (mkF m pc L S)) t := fun t k => X.ldc2Long H.1 hown w (g := mkF m pc L S) rfl (hb H.2 hd) t k
theorem y_ldB {g : Nat → Int32} (A : OwnA Z h a .byte n (iv' g)) (X : Stand p l e R s m args below meth c T locs cells slots) (H : p.tables.exec = Jvm.exec ∧ c.code = bc)  (hZ : Z.Warmed39 s.vm) (eT : T.heap = h) {j : Int32} (h0 : 0 ≤ j.toInt) (h1 : j.toInt < n) (hd : decode bc pc = .ok (.baload, 1)) (z : Int32) (hz : g j.toInt.toNat = z) : ∀ t, Steps p.tables e below (T.setTop (mkF m (pc + 1) L (.int z :: S))) t → Steps p.tables e below (T.setTop (mkF m pc L (.int j :: .ref a :: S))) t := fun t k => own_ldB A X H.1 hZ eT h0 h1 (gf := mkF m pc L (.int j :: .ref a :: S)) rfl rfl (hb H.2 hd) t (hz ▸ k)
theorem y_ldI {g : Nat → Int32} (A : OwnA Z h a .int n (iv' g)) (X : Stand p l e R s m args below meth c T locs cells slots) (H : p.tables.exec = Jvm.exec ∧ c.code = bc)  (hZ : Z.Warmed39 s.vm) (eT : T.heap = h) {j : Int32} (h0 : 0 ≤ j.toInt) (h1 : j.toInt < n) (hd : decode bc pc = .ok (.iaload, 1)) (z : Int32) (hz : g j.toInt.toNat = z) : ∀ t, Steps p.tables e below (T.setTop (mkF m (pc + 1) L (.int z :: S))) t → Steps p.tables e below (T.setTop (mkF m pc L (.int j :: .ref a :: S))) t := fun t k => own_ldI A X H.1 hZ eT h0 h1 (gf := mkF m pc L (.int j :: .ref a :: S)) rfl rfl (hb H.2 hd) t (hz ▸ k)
theorem y_ldJ {g : Nat → Int64} (A : OwnA Z h a .long n (jv' g)) (X : Stand p l e R s m args below meth c T locs cells slots) (H : p.tables.exec = Jvm.exec ∧ c.code = bc)  (hZ : Z.Warmed39 s.vm) (eT : T.heap = h) {j : Int32} (h0 : 0 ≤ j.toInt) (h1 : j.toInt < n) (hd : decode bc pc = .ok (.laload, 1)) (z : Int64) (hz : g j.toInt.toNat = z) : ∀ t, Steps p.tables e below (T.setTop (mkF m (pc + 1) L (.long z :: S))) t → Steps p.tables e below (T.setTop (mkF m pc L (.int j :: .ref a :: S))) t := fun t k => own_ldJ A X H.1 hZ eT h0 h1 (gf := mkF m pc L (.int j :: .ref a :: S)) rfl rfl (hb H.2 hd) t (hz ▸ k)
theorem y_len {ty : FieldType} {f : Nat → Value} (A : OwnA Z h a ty n f) (X : Stand p l e R s m args below meth c T locs cells slots) (H : p.tables.exec = Jvm.exec ∧ c.code = bc)  (hZ : Z.Warmed39 s.vm) (eT : T.heap = h) (hd : decode bc pc = .ok (.arraylength, 1)) (z : Int32) (hz : n.toInt32 = z) : ∀ t, Steps p.tables e below (T.setTop (mkF m (pc + 1) L (.int z :: S))) t → Steps p.tables e below (T.setTop (mkF m pc L (.ref a :: S))) t := fun t k => own_len A X H.1 hZ eT (gf := mkF m pc L (.ref a :: S)) rfl rfl (hb H.2 hd) t (hz ▸ k)
theorem y_getR (X : Stand p l e R s m args below meth c T locs cells slots) (H : p.tables.exec = Jvm.exec ∧ c.code = bc)  (hZ : Z.Warmed39 s.vm) {own C f d : String} {index : Nat} {v : Value} (hown : s.vm.findClass own = some m.cls) (w : (Cond.fieldRef own index C f d).before a0 Z = true) (eT : T.heap = h) (Fl : Fld Z h a C f d v) (hd : decode bc pc = .ok (.getfield index, 3))  : ∀ t, Steps p.tables e below (T.setTop (mkF m (pc + 3) L (v :: S))) t → Steps p.tables e below (T.setTop (mkF m pc L (.ref a :: S))) t := fun t k => own_getR X H.1 hZ hown w eT Fl (g := mkF m pc L (.ref a :: S)) rfl rfl (hb H.2 hd) t k
end Steps1
section Shapes
variable {p : Program} {l : Launch} {e : Env} {R : Room} {s : State} {m : MethodId} {args : Array Value} {below : List Frame} {meth : Method} {c : Code} {T : State} {locs : List Loc} {cells slots : Nat} {Q : Option Value → Heap → List Loc → Prop} {kk nn pc pc' : Nat} {L : Array Slot} {S S' : List Value}
theorem OwnG.v1 {A : State → Prop} {B : State → Prop} (pc' : Nat) (h : ∃ (T' : State), A T' ∧ B T' ∧ ∀ t, Steps p.tables e below (T'.setTop (mkF m pc' L S')) t → Steps p.tables e below (T.setTop (mkF m pc L S)) t) (k : ∀ T', A T' → B T' → OwnG p e below s Q kk nn T' (mkF m pc' L S')) : OwnG p e below s Q kk nn T (mkF m pc L S) := by
  obtain ⟨T', a0, a1, st⟩ := h
  exact OwnG.st st (k T' a0 a1)
theorem OwnG.v2 {A : State → Heap → Prop} {B : State → Heap → Prop} {C : State → Heap → Prop} (pc' : Nat) (h : ∃ (T' : State) (h' : Heap), A T' h' ∧ B T' h' ∧ C T' h' ∧ ∀ t, Steps p.tables e below (T'.setTop (mkF m pc' L S')) t → Steps p.tables e below (T.setTop (mkF m pc L S)) t) (k : ∀ T' h', A T' h' → B T' h' → C T' h' → OwnG p e below s Q kk nn T' (mkF m pc' L S')) : OwnG p e below s Q kk nn T (mkF m pc L S) := by
  obtain ⟨T', h', a0, a1, a2, st⟩ := h
  exact OwnG.st st (k T' h' a0 a1 a2)
theorem OwnG.v3 {A : State → Heap → Prop} {B : State → Heap → Prop} {C : State → Heap → Prop} {D : State → Heap → Prop} (pc' : Nat) (h : ∃ (T' : State) (h' : Heap), A T' h' ∧ B T' h' ∧ C T' h' ∧ D T' h' ∧ ∀ t, Steps p.tables e below (T'.setTop (mkF m pc' L S')) t → Steps p.tables e below (T.setTop (mkF m pc L S)) t) (k : ∀ T' h', A T' h' → B T' h' → C T' h' → D T' h' → OwnG p e below s Q kk nn T' (mkF m pc' L S')) : OwnG p e below s Q kk nn T (mkF m pc L S) := by
  obtain ⟨T', h', a0, a1, a2, a3, st⟩ := h
  exact OwnG.st st (k T' h' a0 a1 a2 a3)
theorem OwnG.v6 {A : State → Heap → List Loc → Prop} {B : State → Heap → List Loc → Prop} {C : State → Heap → List Loc → Prop} {D : State → Heap → List Loc → Prop} {E : State → Heap → List Loc → Prop} (pc' : Nat) (h : ∃ (T' : State) (h' : Heap) (L' : List Loc), A T' h' L' ∧ B T' h' L' ∧ C T' h' L' ∧ D T' h' L' ∧ E T' h' L' ∧ ∀ t, Steps p.tables e below (T'.setTop (mkF m pc' L S')) t → Steps p.tables e below (T.setTop (mkF m pc L S)) t) (k : ∀ T' h' L', A T' h' L' → B T' h' L' → C T' h' L' → D T' h' L' → E T' h' L' → OwnG p e below s Q kk nn T' (mkF m pc' L S')) : OwnG p e below s Q kk nn T (mkF m pc L S) := by
  obtain ⟨T', h', L', a0, a1, a2, a3, a4, st⟩ := h
  exact OwnG.st st (k T' h' L' a0 a1 a2 a3 a4)
theorem OwnG.v4 {B : State → Heap → ClassId → Prop} {C : State → Heap → ClassId → Prop} {D : State → Heap → ClassId → Prop} {cap : Nat} (pc' ck sn : Nat) (X : Stand p l e R s m args below meth c T locs cells slots) (h : ∃ (T' : State) (h' : Heap) (c' : ClassId), Stand p l e R s m args below meth c T' locs (cells + 1) (slots + cap) ∧ B T' h' c' ∧ C T' h' c' ∧ D T' h' c' ∧ ∀ t, Steps p.tables e below (T'.setTop (mkF m pc' L S')) t → Steps p.tables e below (T.setTop (mkF m pc L S)) t) (hc : cells + 1 = ck) (hs : slots + cap = sn) (k : ∀ T' h' c', Stand p l e R s m args below meth c T' locs ck sn → B T' h' c' → C T' h' c' → D T' h' c' → OwnG p e below s Q kk nn T' (mkF m pc' L S')) : OwnG p e below s Q kk nn T (mkF m pc L S) := by
  subst hc hs
  obtain ⟨T', h', c', x, a0, a1, a2, st⟩ := h
  exact OwnG.st st (k T' h' c' x a0 a1 a2)
theorem OwnG.v5 {B : State → Heap → Prop} {C : State → Heap → Prop} {D : State → Heap → Prop} {E : State → Heap → Prop} {M : State → Heap → Prop} {cap : Nat} (pc' ck sn : Nat) (X : Stand p l e R s m args below meth c T locs cells slots) (h : ∃ (T' : State) (h' : Heap), Stand p l e R s m args below meth c T' locs (cells + 1) (slots + cap) ∧ B T' h' ∧ C T' h' ∧ D T' h' ∧ E T' h' ∧ M T' h' ∧ ∀ t, Steps p.tables e below (T'.setTop (mkF m pc' L S')) t → Steps p.tables e below (T.setTop (mkF m pc L S)) t) (hc : cells + 1 = ck) (hs : slots + cap = sn) (k : ∀ T' h', Stand p l e R s m args below meth c T' locs ck sn → B T' h' → C T' h' → D T' h' → E T' h' → M T' h' → OwnG p e below s Q kk nn T' (mkF m pc' L S')) : OwnG p e below s Q kk nn T (mkF m pc L S) := by
  subst hc hs
  obtain ⟨T', h', x, a0, a1, a2, a3, a4, st⟩ := h
  exact OwnG.st st (k T' h' x a0 a1 a2 a3 a4)
theorem OwnG.cl {Qc : Option Value → Heap → List Loc → Prop} {P0 : Vm → Prop} {kc nc : Nat} (pc' ck sn : Nat) (X : Stand p l e R s m args below meth c T locs cells slots) (h : ∃ (v : Option Value) (vm₁ : Vm) (B : Free.Pt), P0 vm₁ ∧ Stand p l e R s m args below meth c B.U B.locs B.cells B.slots ∧ (∃ L', Qc v B.U.heap L' ∧ B.locs = locs ++ L' ∧ B.cells = cells + kc ∧ B.slots = slots + nc) ∧ (∀ t, Steps p.tables e below (B.U.setTop (mkF m pc' L (v.toList ++ S'))) t → Steps p.tables e below (T.setTop (mkF m pc L S)) t)) (hc : cells + kc = ck) (hs : slots + nc = sn) (k : ∀ T' L' v, Stand p l e R s m args below meth c T' (locs ++ L') ck sn → Qc v T'.heap L' → OwnG p e below s Q kk nn T' (mkF m pc' L (v.toList ++ S'))) : OwnG p e below s Q kk nn T (mkF m pc L S) := by
  obtain ⟨v, vm₁, ⟨U, L0, k0, n0⟩, -, X', ⟨L', hq, e1, e2, e3⟩, st⟩ := h
  subst hc hs e1 e2 e3
  exact OwnG.st st (k U L' v X' hq)
theorem OwnG.cm {Qc : Option Value → Heap → List Loc → Prop} {P0 : Vm → Prop} {kc nc : Nat} (pc' ck sn : Nat) (X : Stand p l e R s m args below meth c T locs cells slots) (h : ∃ (v : Option Value) (vm₁ : Vm) (B : Free.Pt), P0 vm₁ ∧ Stand p l e R s m args below meth c B.U B.locs B.cells B.slots ∧ (∃ L', Qc v B.U.heap L' ∧ B.locs = locs ++ L' ∧ B.cells = cells + kc ∧ B.slots = slots + nc) ∧ Steps p.tables e below (T.setTop (mkF m pc L S)) (B.U.setTop (mkF m pc' L (v.toList ++ S')))) (hc : cells + kc = ck) (hs : slots + nc = sn) (k : ∀ T' L' v, Stand p l e R s m args below meth c T' (locs ++ L') ck sn → Qc v T'.heap L' → OwnG p e below s Q kk nn T' (mkF m pc' L (v.toList ++ S'))) : OwnG p e below s Q kk nn T (mkF m pc L S) := by
  obtain ⟨v, vm₁, ⟨U, L0, k0, n0⟩, -, X', ⟨L', hq, e1, e2, e3⟩, st⟩ := h
  subst hc hs e1 e2 e3
  exact OwnG.st (fun _ q => Steps.trans st q) (k U L' v X' hq)
theorem OwnG.cv {v : Option Value} {w : Value} (hv : v = some w) (g : OwnG p e below s Q kk nn T (mkF m pc L (w :: S))) : OwnG p e below s Q kk nn T (mkF m pc L (v.toList ++ S)) := by subst hv; exact g
theorem OwnG.cn {v : Option Value} (hv : v = none) (g : OwnG p e below s Q kk nn T (mkF m pc L S)) : OwnG p e below s Q kk nn T (mkF m pc L (v.toList ++ S)) := by subst hv; exact g
end Shapes
end Jvm.OwnKit
namespace Jvm.OwnKit
open Sem ClassFile Op Lib Jvm.Stand Jvm.Free Jvm.LawKit Jvm.RoadKit
section Wide
variable {p : Program} {l : Launch} {e : Env} {R : Room} {s : State} {m : MethodId} {args : Array Value} {below : List Frame} {meth : Method} {c : Code} {T T' : State} {locs : List Loc} {cells slots : Nat} {Z : State} {a0 : Array Value} {h h' : Heap}
/-- as OwnG, with the wide frame at the end (a String constant may have been interned) -/
def OwnW (p : Program) (e : Env) (below : List Frame) (s : State) (Q : Option Value → Heap → List Loc → Prop) (k n : Nat) (T : State) (F : JFrame) : Prop :=
  ∃ s₂ o, Steps p.tables e below (T.setTop F) s₂ ∧ s₂.status = .running ∧ Ended s₂ below o ∧ ∃ v L, o = .returned v ∧ Q v s₂.heap L ∧ ReturnedEndW s o s₂ L k n
theorem OwnW.st {Q : Option Value → Heap → List Loc → Prop} {k n : Nat} {F F' : JFrame} (h : ∀ t, Steps p.tables e below (T'.setTop F') t → Steps p.tables e below (T.setTop F) t) (g : OwnW p e below s Q k n T' F') : OwnW p e below s Q k n T F := by
  obtain ⟨s2, o, h1, r⟩ := g
  exact ⟨s2, o, h _ h1, r⟩
theorem OwnW.of {vm₁ : Vm} {k1 : Nat} {Q Q' : Option Value → Heap → List Loc → Prop} {k n : Nat} {F : JFrame} (hS : s.Since vm₁ k1) (hq : ∀ v h L, Q' v h L → k1 ≤ h.size ∧ Q v h L) (g : OwnG p e below (s.setVm vm₁) Q' k n T F) : OwnW p e below s Q k n T F := by
  obtain ⟨s2, o, h1, h2, h3, v, L, ho, hQ, h4, hW, hs⟩ := g
  obtain ⟨hk, hQ2⟩ := hq _ _ _ hQ
  obtain ⟨a, b, c'⟩ := hS.ended (U := s2) hW hk hs
  exact ⟨s2, o, h1, h2, h3, v, L, ho, hQ2, h4, a, b, c'⟩
theorem own_ldcS (X : Stand p l e R s m args below meth c T locs cells slots) (hx : p.tables.exec = Jvm.exec) (hZ : Z.Warmed39 s.vm) {own text : String} {index : Nat} (hown : s.vm.findClass own = some m.cls) (w : (Cond.stringLink own index text).before a0 Z = true) (wS : ∀ a ∈ Bundle.stringAtoms, a.before a0 Z = true) (eT : T.heap = h)
    {g : JFrame} (hg : g.method = m) (hd : decode c.code g.pc = .ok (.ldc index, 2)) {n : Nat} (hn : 4 * text.toList.length ≤ n) (hbig : n ≤ 536870912) (hc : cells + 2 ≤ R.cells) (hl : slots + (n + 4) ≤ R.slots) :
    ∃ (a : Addr) (T' : State) (h' : Heap), Stand p l e R (s.setVm T'.vm) m args below meth c T' locs (cells + 2) (slots + (n + 4)) ∧ T'.heap = h' ∧ Ext h h' ∧ s.Since T'.vm h'.size ∧ Z.Warmed39 (s.setVm T'.vm).vm ∧ (s.setVm T'.vm).vm.findClass own = some m.cls ∧
      ∀ target, Steps p.tables e below (T'.setTop { g with pc := g.pc + 2, stack := .ref a :: g.stack }) target → Steps p.tables e below (T.setTop g) target := by
  obtain ⟨a, T', X', hS', -, hb, hTW, hint, st⟩ := X.ldcColdN hx (own := own) hown (show (Cond.stringLink own index text).before args (s.setVm s.vm) = true from mvS hZ w) (fun d hd => by
    have q := wS d hd
    simp only [Bundle.stringAtoms, List.mem_cons, List.not_mem_nil, or_false] at hd
    rcases hd with rfl | rfl | rfl | rfl | rfl | rfl | rfl
    · exact mv (s := s) hZ q
    · exact mv (s := s) hZ q
    · exact mvA (s := s) hZ q
    · exact mv (s := s) hZ q
    · exact mv (s := s) hZ q
    · exact mv (s := s) hZ q
    · exact mv (s := s) hZ q) hg hd hn hbig hc hl
  subst eT
  have hW : Z.Warmed39 T'.vm := State.Warmed39.trans (t := s) hZ hS'.1
  have hf : T'.vm.findClass own = some m.cls := by rw [hS'.1.alike.findClass]; exact hown
  exact ⟨a, T', _, X', rfl, ext_of hb, hS', hW, hf, st⟩
end Wide
end Jvm.OwnKit
namespace Jvm.OwnKit
open Sem ClassFile Op Lib Jvm.Stand Jvm.Free Jvm.LawKit Jvm.RoadKit
section Shapes
variable {p : Program} {l : Launch} {e : Env} {R : Room} {s : State} {m : MethodId} {args : Array Value} {below : List Frame} {meth : Method} {c : Code} {T : State} {locs : List Loc} {cells slots : Nat} {Q : Option Value → Heap → List Loc → Prop} {kk nn pc pc' : Nat} {L : Array Slot} {S S' : List Value}
theorem OwnW.v1 {A : State → Prop} {B : State → Prop} (pc' : Nat) (h : ∃ (T' : State), A T' ∧ B T' ∧ ∀ t, Steps p.tables e below (T'.setTop (mkF m pc' L S')) t → Steps p.tables e below (T.setTop (mkF m pc L S)) t) (k : ∀ T', A T' → B T' → OwnW p e below s Q kk nn T' (mkF m pc' L S')) : OwnW p e below s Q kk nn T (mkF m pc L S) := by
  obtain ⟨T', a0, a1, st⟩ := h
  exact OwnW.st st (k T' a0 a1)
theorem OwnW.v2 {A : State → Heap → Prop} {B : State → Heap → Prop} {C : State → Heap → Prop} (pc' : Nat) (h : ∃ (T' : State) (h' : Heap), A T' h' ∧ B T' h' ∧ C T' h' ∧ ∀ t, Steps p.tables e below (T'.setTop (mkF m pc' L S')) t → Steps p.tables e below (T.setTop (mkF m pc L S)) t) (k : ∀ T' h', A T' h' → B T' h' → C T' h' → OwnW p e below s Q kk nn T' (mkF m pc' L S')) : OwnW p e below s Q kk nn T (mkF m pc L S) := by
  obtain ⟨T', h', a0, a1, a2, st⟩ := h
  exact OwnW.st st (k T' h' a0 a1 a2)
theorem OwnW.v3 {A : State → Heap → Prop} {B : State → Heap → Prop} {C : State → Heap → Prop} {D : State → Heap → Prop} (pc' : Nat) (h : ∃ (T' : State) (h' : Heap), A T' h' ∧ B T' h' ∧ C T' h' ∧ D T' h' ∧ ∀ t, Steps p.tables e below (T'.setTop (mkF m pc' L S')) t → Steps p.tables e below (T.setTop (mkF m pc L S)) t) (k : ∀ T' h', A T' h' → B T' h' → C T' h' → D T' h' → OwnW p e below s Q kk nn T' (mkF m pc' L S')) : OwnW p e below s Q kk nn T (mkF m pc L S) := by
  obtain ⟨T', h', a0, a1, a2, a3, st⟩ := h
  exact OwnW.st st (k T' h' a0 a1 a2 a3)
theorem OwnW.v6 {A : State → Heap → List Loc → Prop} {B : State → Heap → List Loc → Prop} {C : State → Heap → List Loc → Prop} {D : State → Heap → List Loc → Prop} {E : State → Heap → List Loc → Prop} (pc' : Nat) (h : ∃ (T' : State) (h' : Heap) (L' : List Loc), A T' h' L' ∧ B T' h' L' ∧ C T' h' L' ∧ D T' h' L' ∧ E T' h' L' ∧ ∀ t, Steps p.tables e below (T'.setTop (mkF m pc' L S')) t → Steps p.tables e below (T.setTop (mkF m pc L S)) t) (k : ∀ T' h' L', A T' h' L' → B T' h' L' → C T' h' L' → D T' h' L' → E T' h' L' → OwnW p e below s Q kk nn T' (mkF m pc' L S')) : OwnW p e below s Q kk nn T (mkF m pc L S) := by
  obtain ⟨T', h', L', a0, a1, a2, a3, a4, st⟩ := h
  exact OwnW.st st (k T' h' L' a0 a1 a2 a3 a4)
theorem OwnW.v4 {B : State → Heap → ClassId → Prop} {C : State → Heap → ClassId → Prop} {D : State → Heap → ClassId → Prop} {cap : Nat} (pc' ck sn : Nat) (X : Stand p l e R s m args below meth c T locs cells slots) (h : ∃ (T' : State) (h' : Heap) (c' : ClassId), Stand p l e R s m args below meth c T' locs (cells + 1) (slots + cap) ∧ B T' h' c' ∧ C T' h' c' ∧ D T' h' c' ∧ ∀ t, Steps p.tables e below (T'.setTop (mkF m pc' L S')) t → Steps p.tables e below (T.setTop (mkF m pc L S)) t) (hc : cells + 1 = ck) (hs : slots + cap = sn) (k : ∀ T' h' c', Stand p l e R s m args below meth c T' locs ck sn → B T' h' c' → C T' h' c' → D T' h' c' → OwnW p e below s Q kk nn T' (mkF m pc' L S')) : OwnW p e below s Q kk nn T (mkF m pc L S) := by
  subst hc hs
  obtain ⟨T', h', c', x, a0, a1, a2, st⟩ := h
  exact OwnW.st st (k T' h' c' x a0 a1 a2)
theorem OwnW.v5 {B : State → Heap → Prop} {C : State → Heap → Prop} {D : State → Heap → Prop} {E : State → Heap → Prop} {M : State → Heap → Prop} {cap : Nat} (pc' ck sn : Nat) (X : Stand p l e R s m args below meth c T locs cells slots) (h : ∃ (T' : State) (h' : Heap), Stand p l e R s m args below meth c T' locs (cells + 1) (slots + cap) ∧ B T' h' ∧ C T' h' ∧ D T' h' ∧ E T' h' ∧ M T' h' ∧ ∀ t, Steps p.tables e below (T'.setTop (mkF m pc' L S')) t → Steps p.tables e below (T.setTop (mkF m pc L S)) t) (hc : cells + 1 = ck) (hs : slots + cap = sn) (k : ∀ T' h', Stand p l e R s m args below meth c T' locs ck sn → B T' h' → C T' h' → D T' h' → E T' h' → M T' h' → OwnW p e below s Q kk nn T' (mkF m pc' L S')) : OwnW p e below s Q kk nn T (mkF m pc L S) := by
  subst hc hs
  obtain ⟨T', h', x, a0, a1, a2, a3, a4, st⟩ := h
  exact OwnW.st st (k T' h' x a0 a1 a2 a3 a4)
theorem OwnW.cl {Qc : Option Value → Heap → List Loc → Prop} {P0 : Vm → Prop} {kc nc : Nat} (pc' ck sn : Nat) (X : Stand p l e R s m args below meth c T locs cells slots) (h : ∃ (v : Option Value) (vm₁ : Vm) (B : Free.Pt), P0 vm₁ ∧ Stand p l e R s m args below meth c B.U B.locs B.cells B.slots ∧ (∃ L', Qc v B.U.heap L' ∧ B.locs = locs ++ L' ∧ B.cells = cells + kc ∧ B.slots = slots + nc) ∧ (∀ t, Steps p.tables e below (B.U.setTop (mkF m pc' L (v.toList ++ S'))) t → Steps p.tables e below (T.setTop (mkF m pc L S)) t)) (hc : cells + kc = ck) (hs : slots + nc = sn) (k : ∀ T' L' v, Stand p l e R s m args below meth c T' (locs ++ L') ck sn → Qc v T'.heap L' → OwnW p e below s Q kk nn T' (mkF m pc' L (v.toList ++ S'))) : OwnW p e below s Q kk nn T (mkF m pc L S) := by
  obtain ⟨v, vm₁, ⟨U, L0, k0, n0⟩, -, X', ⟨L', hq, e1, e2, e3⟩, st⟩ := h
  subst hc hs e1 e2 e3
  exact OwnW.st st (k U L' v X' hq)
theorem OwnW.cm {Qc : Option Value → Heap → List Loc → Prop} {P0 : Vm → Prop} {kc nc : Nat} (pc' ck sn : Nat) (X : Stand p l e R s m args below meth c T locs cells slots) (h : ∃ (v : Option Value) (vm₁ : Vm) (B : Free.Pt), P0 vm₁ ∧ Stand p l e R s m args below meth c B.U B.locs B.cells B.slots ∧ (∃ L', Qc v B.U.heap L' ∧ B.locs = locs ++ L' ∧ B.cells = cells + kc ∧ B.slots = slots + nc) ∧ Steps p.tables e below (T.setTop (mkF m pc L S)) (B.U.setTop (mkF m pc' L (v.toList ++ S')))) (hc : cells + kc = ck) (hs : slots + nc = sn) (k : ∀ T' L' v, Stand p l e R s m args below meth c T' (locs ++ L') ck sn → Qc v T'.heap L' → OwnW p e below s Q kk nn T' (mkF m pc' L (v.toList ++ S'))) : OwnW p e below s Q kk nn T (mkF m pc L S) := by
  obtain ⟨v, vm₁, ⟨U, L0, k0, n0⟩, -, X', ⟨L', hq, e1, e2, e3⟩, st⟩ := h
  subst hc hs e1 e2 e3
  exact OwnW.st (fun _ q => Steps.trans st q) (k U L' v X' hq)
theorem OwnW.cv {v : Option Value} {w : Value} (hv : v = some w) (g : OwnW p e below s Q kk nn T (mkF m pc L (w :: S))) : OwnW p e below s Q kk nn T (mkF m pc L (v.toList ++ S)) := by subst hv; exact g
theorem OwnW.cn {v : Option Value} (hv : v = none) (g : OwnW p e below s Q kk nn T (mkF m pc L S)) : OwnW p e below s Q kk nn T (mkF m pc L (v.toList ++ S)) := by subst hv; exact g
end Shapes
end Jvm.OwnKit
namespace Jvm.Pilot.@@N@@
open Jvm Jvm.ClassFile Sem Op Lib Jvm.Free Jvm.Stand Jvm.LawKit Jvm.RoadKit Bundle Jvm.Pilot.@@N@@.Jvm.D Jvm.OwnKit
def LeA (x y : Nat) : Prop := x ≤ y
def NeA (x y : Nat) : Prop := x ≠ y
def OrA (x a k : Nat) : Prop := x = a ∨ k ≤ x
abbrev HW (a0 : Array Value) (Z : State) : Prop := ∀ d ∈ tables_1, d.before a0 Z = true
theorem ww {a0 : Array Value} {Z : State} (hw : HW a0 Z) (i : Nat) {d : Jvm.Cond} (h : tables_1[i]? = some d) : d.before a0 Z = true := hw d (List.mem_of_getElem? h)
abbrev k1_ : ByteArray := jdk_29_method_65_code
abbrev mn_1 : MethodName := ⟨"java/lang/Math", "max", "(II)I"⟩
abbrev k2_ : ByteArray := prog_34_method_1_code
abbrev mn_2 : MethodName := ⟨"com/example/deft_nets/deftnets/MemoryBudget", "<init>", "(JLjava/lang/String;)V"⟩
abbrev k3_ : ByteArray := object_method_1_code
abbrev mn_3 : MethodName := ⟨"java/lang/Object", "<init>", "()V"⟩
abbrev k4_ : ByteArray := prog_31_method_1_code
abbrev mn_4 : MethodName := ⟨"com/example/deft_nets/deftnets/MarkingStore", "<init>", "(Lcom/example/deft_nets/deftnets/MemoryBudget;)V"⟩
abbrev k5_ : ByteArray := prog_31_method_4_code
abbrev mn_5 : MethodName := ⟨"com/example/deft_nets/deftnets/MarkingStore", "add", "([J[II)I"⟩
abbrev k6_ : ByteArray := prog_31_method_11_code
abbrev mn_6 : MethodName := ⟨"com/example/deft_nets/deftnets/MarkingStore", "startEncoding", "(I)V"⟩
abbrev k7_ : ByteArray := prog_31_method_5_code
abbrev mn_7 : MethodName := ⟨"com/example/deft_nets/deftnets/MarkingStore", "addEncoded", "()I"⟩
abbrev k8_ : ByteArray := prog_31_method_14_code
abbrev mn_8 : MethodName := ⟨"com/example/deft_nets/deftnets/MarkingStore", "hashOfEncoded", "()I"⟩
abbrev k9_ : ByteArray := prog_31_method_15_code
abbrev mn_9 : MethodName := ⟨"com/example/deft_nets/deftnets/MarkingStore", "rehash", "()V"⟩
abbrev k10_ : ByteArray := jdk_29_method_66_code
abbrev mn_10 : MethodName := ⟨"java/lang/Math", "max", "(JJ)J"⟩
abbrev k11_ : ByteArray := prog_34_method_6_code
abbrev mn_11 : MethodName := ⟨"com/example/deft_nets/deftnets/MemoryBudget", "replace", "([IJ)[I"⟩
abbrev k12_ : ByteArray := prog_34_method_5_code
abbrev mn_12 : MethodName := ⟨"com/example/deft_nets/deftnets/MemoryBudget", "grow", "([BJ)[B"⟩
abbrev k13_ : ByteArray := prog_34_method_3_code
abbrev mn_13 : MethodName := ⟨"com/example/deft_nets/deftnets/MemoryBudget", "grow", "([IJ)[I"⟩
abbrev k14_ : ByteArray := prog_34_method_9_code
abbrev mn_14 : MethodName := ⟨"com/example/deft_nets/deftnets/MemoryBudget", "take", "(IJI)I"⟩
abbrev k15_ : ByteArray := jdk_29_method_70_code
abbrev mn_15 : MethodName := ⟨"java/lang/Math", "min", "(JJ)J"⟩
abbrev k16_ : ByteArray := jdk_65_method_123_code
abbrev mn_16 : MethodName := ⟨"java/util/Arrays", "copyOf", "([II)[I"⟩
abbrev k17_ : ByteArray := jdk_29_method_69_code
abbrev mn_17 : MethodName := ⟨"java/lang/Math", "min", "(II)I"⟩
abbrev k18_ : ByteArray := jdk_29_method_43_code
abbrev mn_18 : MethodName := ⟨"java/lang/Math", "toIntExact", "(J)I"⟩
abbrev k19_ : ByteArray := prog_31_method_12_code
abbrev mn_19 : MethodName := ⟨"com/example/deft_nets/deftnets/MarkingStore", "encodeEntry", "(JI)V"⟩
abbrev k20_ : ByteArray := prog_31_method_13_code
abbrev mn_20 : MethodName := ⟨"com/example/deft_nets/deftnets/MarkingStore", "writeNumber", "(JI)I"⟩
abbrev k21_ : ByteArray := jdk_65_method_121_code
abbrev mn_21 : MethodName := ⟨"java/util/Arrays", "copyOf", "([BI)[B"⟩
abbrev k22_ : ByteArray := prog_31_method_7_code
abbrev mn_22 : MethodName := ⟨"com/example/deft_nets/deftnets/MarkingStore", "decode", "(I[J[I)V"⟩
abbrev k23_ : ByteArray := prog_32_method_1_code
abbrev mn_23 : MethodName := ⟨"com/example/deft_nets/deftnets/MarkingStore$Entries", "<init>", "(Lcom/example/deft_nets/deftnets/MarkingStore;I)V"⟩
abbrev k24_ : ByteArray := prog_32_method_2_code
abbrev mn_24 : MethodName := ⟨"com/example/deft_nets/deftnets/MarkingStore$Entries", "next", "()Z"⟩
abbrev k25_ : ByteArray := prog_32_method_3_code
abbrev mn_25 : MethodName := ⟨"com/example/deft_nets/deftnets/MarkingStore$Entries", "readNumber", "()J"⟩
abbrev k26_ : ByteArray := jdk_65_method_90_code
abbrev mn_26 : MethodName := ⟨"java/util/Arrays", "equals", "([BII[BII)Z"⟩
abbrev k27_ : ByteArray := jdk_65_method_30_code
abbrev mn_27 : MethodName := ⟨"java/util/Arrays", "rangeCheck", "(III)V"⟩
abbrev k28_ : ByteArray := jdk_48_method_14_code
abbrev mn_28 : MethodName := ⟨"jdk/internal/util/ArraysSupport", "mismatch", "([BI[BII)I"⟩
abbrev cS0 : String := "com/example/deft_nets/deftnets/MemoryBudget"
theorem sn_0 {a0 : Array Value} {Z : State} (hw : HW a0 Z) : Jvm.RoadKit.slotOf Z cS0 "mLimit" "J" ≠ Jvm.RoadKit.slotOf Z cS0 "mUsed" "J" := slot_ne (Or.inr (ww hw 30 rfl)) (Or.inl (ww hw 93 rfl)) (by decide) (t := .long) (t' := .long) (by decide) (by decide)
abbrev cS1 : String := "com/example/deft_nets/deftnets/MarkingStore"
theorem sn_1 {a0 : Array Value} {Z : State} (hw : HW a0 Z) : Jvm.RoadKit.slotOf Z cS1 "mPool" "[B" ≠ Jvm.RoadKit.slotOf Z cS1 "mTable" "[I" := slot_ne (Or.inl (ww hw 38 rfl)) (Or.inl (ww hw 44 rfl)) (by decide) (t := (.array .byte)) (t' := (.array .int)) (by decide) (by decide)
theorem sn_2 {a0 : Array Value} {Z : State} (hw : HW a0 Z) : Jvm.RoadKit.slotOf Z cS1 "mPoolSize" "I" ≠ Jvm.RoadKit.slotOf Z cS1 "mTable" "[I" := slot_ne (Or.inl (ww hw 95 rfl)) (Or.inl (ww hw 44 rfl)) (by decide) (t := .int) (t' := (.array .int)) (by decide) (by decide)
theorem sn_3 {a0 : Array Value} {Z : State} (hw : HW a0 Z) : Jvm.RoadKit.slotOf Z cS1 "mStart" "[I" ≠ Jvm.RoadKit.slotOf Z cS1 "mTable" "[I" := slot_ne (Or.inl (ww hw 40 rfl)) (Or.inl (ww hw 44 rfl)) (by decide) (t := (.array .int)) (t' := (.array .int)) (by decide) (by decide)
theorem sn_4 {a0 : Array Value} {Z : State} (hw : HW a0 Z) : Jvm.RoadKit.slotOf Z cS1 "mHash" "[I" ≠ Jvm.RoadKit.slotOf Z cS1 "mTable" "[I" := slot_ne (Or.inl (ww hw 42 rfl)) (Or.inl (ww hw 44 rfl)) (by decide) (t := (.array .int)) (t' := (.array .int)) (by decide) (by decide)
theorem sn_5 {a0 : Array Value} {Z : State} (hw : HW a0 Z) : Jvm.RoadKit.slotOf Z cS1 "mEncoded" "[B" ≠ Jvm.RoadKit.slotOf Z cS1 "mTable" "[I" := slot_ne (Or.inl (ww hw 46 rfl)) (Or.inl (ww hw 44 rfl)) (by decide) (t := (.array .byte)) (t' := (.array .int)) (by decide) (by decide)
theorem sn_6 {a0 : Array Value} {Z : State} (hw : HW a0 Z) : Jvm.RoadKit.slotOf Z cS1 "mEncodedLength" "I" ≠ Jvm.RoadKit.slotOf Z cS1 "mTable" "[I" := slot_ne (Or.inl (ww hw 60 rfl)) (Or.inl (ww hw 44 rfl)) (by decide) (t := .int) (t' := (.array .int)) (by decide) (by decide)
theorem sn_7 {a0 : Array Value} {Z : State} (hw : HW a0 Z) : Jvm.RoadKit.slotOf Z cS1 "mNextPlace" "J" ≠ Jvm.RoadKit.slotOf Z cS1 "mTable" "[I" := slot_ne (Or.inl (ww hw 62 rfl)) (Or.inl (ww hw 44 rfl)) (by decide) (t := .long) (t' := (.array .int)) (by decide) (by decide)
theorem sn_8 {a0 : Array Value} {Z : State} (hw : HW a0 Z) : Jvm.RoadKit.slotOf Z cS1 "mSize" "I" ≠ Jvm.RoadKit.slotOf Z cS1 "mTable" "[I" := slot_ne (Or.inl (ww hw 76 rfl)) (Or.inl (ww hw 44 rfl)) (by decide) (t := .int) (t' := (.array .int)) (by decide) (by decide)
theorem sn_9 {a0 : Array Value} {Z : State} (hw : HW a0 Z) : Jvm.RoadKit.slotOf Z cS1 "mBudget" "Lcom/example/deft_nets/deftnets/MemoryBudget;" ≠ Jvm.RoadKit.slotOf Z cS1 "mTable" "[I" := slot_ne (Or.inr (ww hw 48 rfl)) (Or.inl (ww hw 44 rfl)) (by decide) (t := (.object "com/example/deft_nets/deftnets/MemoryBudget")) (t' := (.array .int)) (by decide) (by decide)
theorem sn_10 {a0 : Array Value} {Z : State} (hw : HW a0 Z) : Jvm.RoadKit.slotOf Z cS1 "mPool" "[B" ≠ Jvm.RoadKit.slotOf Z cS1 "mEncoded" "[B" := slot_ne (Or.inl (ww hw 38 rfl)) (Or.inl (ww hw 46 rfl)) (by decide) (t := (.array .byte)) (t' := (.array .byte)) (by decide) (by decide)
theorem sn_11 {a0 : Array Value} {Z : State} (hw : HW a0 Z) : Jvm.RoadKit.slotOf Z cS1 "mPoolSize" "I" ≠ Jvm.RoadKit.slotOf Z cS1 "mEncoded" "[B" := slot_ne (Or.inl (ww hw 95 rfl)) (Or.inl (ww hw 46 rfl)) (by decide) (t := .int) (t' := (.array .byte)) (by decide) (by decide)
theorem sn_12 {a0 : Array Value} {Z : State} (hw : HW a0 Z) : Jvm.RoadKit.slotOf Z cS1 "mStart" "[I" ≠ Jvm.RoadKit.slotOf Z cS1 "mEncoded" "[B" := slot_ne (Or.inl (ww hw 40 rfl)) (Or.inl (ww hw 46 rfl)) (by decide) (t := (.array .int)) (t' := (.array .byte)) (by decide) (by decide)
theorem sn_13 {a0 : Array Value} {Z : State} (hw : HW a0 Z) : Jvm.RoadKit.slotOf Z cS1 "mHash" "[I" ≠ Jvm.RoadKit.slotOf Z cS1 "mEncoded" "[B" := slot_ne (Or.inl (ww hw 42 rfl)) (Or.inl (ww hw 46 rfl)) (by decide) (t := (.array .int)) (t' := (.array .byte)) (by decide) (by decide)
theorem sn_14 {a0 : Array Value} {Z : State} (hw : HW a0 Z) : Jvm.RoadKit.slotOf Z cS1 "mTable" "[I" ≠ Jvm.RoadKit.slotOf Z cS1 "mEncoded" "[B" := slot_ne (Or.inl (ww hw 44 rfl)) (Or.inl (ww hw 46 rfl)) (by decide) (t := (.array .int)) (t' := (.array .byte)) (by decide) (by decide)
theorem sn_15 {a0 : Array Value} {Z : State} (hw : HW a0 Z) : Jvm.RoadKit.slotOf Z cS1 "mEncodedLength" "I" ≠ Jvm.RoadKit.slotOf Z cS1 "mEncoded" "[B" := slot_ne (Or.inl (ww hw 60 rfl)) (Or.inl (ww hw 46 rfl)) (by decide) (t := .int) (t' := (.array .byte)) (by decide) (by decide)
theorem sn_16 {a0 : Array Value} {Z : State} (hw : HW a0 Z) : Jvm.RoadKit.slotOf Z cS1 "mNextPlace" "J" ≠ Jvm.RoadKit.slotOf Z cS1 "mEncoded" "[B" := slot_ne (Or.inl (ww hw 62 rfl)) (Or.inl (ww hw 46 rfl)) (by decide) (t := .long) (t' := (.array .byte)) (by decide) (by decide)
theorem sn_17 {a0 : Array Value} {Z : State} (hw : HW a0 Z) : Jvm.RoadKit.slotOf Z cS1 "mSize" "I" ≠ Jvm.RoadKit.slotOf Z cS1 "mEncoded" "[B" := slot_ne (Or.inl (ww hw 76 rfl)) (Or.inl (ww hw 46 rfl)) (by decide) (t := .int) (t' := (.array .byte)) (by decide) (by decide)
theorem sn_18 {a0 : Array Value} {Z : State} (hw : HW a0 Z) : Jvm.RoadKit.slotOf Z cS1 "mBudget" "Lcom/example/deft_nets/deftnets/MemoryBudget;" ≠ Jvm.RoadKit.slotOf Z cS1 "mEncoded" "[B" := slot_ne (Or.inr (ww hw 48 rfl)) (Or.inl (ww hw 46 rfl)) (by decide) (t := (.object "com/example/deft_nets/deftnets/MemoryBudget")) (t' := (.array .byte)) (by decide) (by decide)
theorem sn_19 {a0 : Array Value} {Z : State} (hw : HW a0 Z) : Jvm.RoadKit.slotOf Z cS1 "mPool" "[B" ≠ Jvm.RoadKit.slotOf Z cS1 "mEncodedLength" "I" := slot_ne (Or.inl (ww hw 38 rfl)) (Or.inl (ww hw 60 rfl)) (by decide) (t := (.array .byte)) (t' := .int) (by decide) (by decide)
theorem sn_20 {a0 : Array Value} {Z : State} (hw : HW a0 Z) : Jvm.RoadKit.slotOf Z cS1 "mPoolSize" "I" ≠ Jvm.RoadKit.slotOf Z cS1 "mEncodedLength" "I" := slot_ne (Or.inl (ww hw 95 rfl)) (Or.inl (ww hw 60 rfl)) (by decide) (t := .int) (t' := .int) (by decide) (by decide)
theorem sn_21 {a0 : Array Value} {Z : State} (hw : HW a0 Z) : Jvm.RoadKit.slotOf Z cS1 "mStart" "[I" ≠ Jvm.RoadKit.slotOf Z cS1 "mEncodedLength" "I" := slot_ne (Or.inl (ww hw 40 rfl)) (Or.inl (ww hw 60 rfl)) (by decide) (t := (.array .int)) (t' := .int) (by decide) (by decide)
theorem sn_22 {a0 : Array Value} {Z : State} (hw : HW a0 Z) : Jvm.RoadKit.slotOf Z cS1 "mHash" "[I" ≠ Jvm.RoadKit.slotOf Z cS1 "mEncodedLength" "I" := slot_ne (Or.inl (ww hw 42 rfl)) (Or.inl (ww hw 60 rfl)) (by decide) (t := (.array .int)) (t' := .int) (by decide) (by decide)
theorem sn_23 {a0 : Array Value} {Z : State} (hw : HW a0 Z) : Jvm.RoadKit.slotOf Z cS1 "mTable" "[I" ≠ Jvm.RoadKit.slotOf Z cS1 "mEncodedLength" "I" := slot_ne (Or.inl (ww hw 44 rfl)) (Or.inl (ww hw 60 rfl)) (by decide) (t := (.array .int)) (t' := .int) (by decide) (by decide)
theorem sn_24 {a0 : Array Value} {Z : State} (hw : HW a0 Z) : Jvm.RoadKit.slotOf Z cS1 "mEncoded" "[B" ≠ Jvm.RoadKit.slotOf Z cS1 "mEncodedLength" "I" := slot_ne (Or.inl (ww hw 46 rfl)) (Or.inl (ww hw 60 rfl)) (by decide) (t := (.array .byte)) (t' := .int) (by decide) (by decide)
theorem sn_25 {a0 : Array Value} {Z : State} (hw : HW a0 Z) : Jvm.RoadKit.slotOf Z cS1 "mNextPlace" "J" ≠ Jvm.RoadKit.slotOf Z cS1 "mEncodedLength" "I" := slot_ne (Or.inl (ww hw 62 rfl)) (Or.inl (ww hw 60 rfl)) (by decide) (t := .long) (t' := .int) (by decide) (by decide)
theorem sn_26 {a0 : Array Value} {Z : State} (hw : HW a0 Z) : Jvm.RoadKit.slotOf Z cS1 "mSize" "I" ≠ Jvm.RoadKit.slotOf Z cS1 "mEncodedLength" "I" := slot_ne (Or.inl (ww hw 76 rfl)) (Or.inl (ww hw 60 rfl)) (by decide) (t := .int) (t' := .int) (by decide) (by decide)
theorem sn_27 {a0 : Array Value} {Z : State} (hw : HW a0 Z) : Jvm.RoadKit.slotOf Z cS1 "mBudget" "Lcom/example/deft_nets/deftnets/MemoryBudget;" ≠ Jvm.RoadKit.slotOf Z cS1 "mEncodedLength" "I" := slot_ne (Or.inr (ww hw 48 rfl)) (Or.inl (ww hw 60 rfl)) (by decide) (t := (.object "com/example/deft_nets/deftnets/MemoryBudget")) (t' := .int) (by decide) (by decide)
theorem sn_28 {a0 : Array Value} {Z : State} (hw : HW a0 Z) : Jvm.RoadKit.slotOf Z cS1 "mPool" "[B" ≠ Jvm.RoadKit.slotOf Z cS1 "mNextPlace" "J" := slot_ne (Or.inl (ww hw 38 rfl)) (Or.inl (ww hw 62 rfl)) (by decide) (t := (.array .byte)) (t' := .long) (by decide) (by decide)
theorem sn_29 {a0 : Array Value} {Z : State} (hw : HW a0 Z) : Jvm.RoadKit.slotOf Z cS1 "mPoolSize" "I" ≠ Jvm.RoadKit.slotOf Z cS1 "mNextPlace" "J" := slot_ne (Or.inl (ww hw 95 rfl)) (Or.inl (ww hw 62 rfl)) (by decide) (t := .int) (t' := .long) (by decide) (by decide)
theorem sn_30 {a0 : Array Value} {Z : State} (hw : HW a0 Z) : Jvm.RoadKit.slotOf Z cS1 "mStart" "[I" ≠ Jvm.RoadKit.slotOf Z cS1 "mNextPlace" "J" := slot_ne (Or.inl (ww hw 40 rfl)) (Or.inl (ww hw 62 rfl)) (by decide) (t := (.array .int)) (t' := .long) (by decide) (by decide)
theorem sn_31 {a0 : Array Value} {Z : State} (hw : HW a0 Z) : Jvm.RoadKit.slotOf Z cS1 "mHash" "[I" ≠ Jvm.RoadKit.slotOf Z cS1 "mNextPlace" "J" := slot_ne (Or.inl (ww hw 42 rfl)) (Or.inl (ww hw 62 rfl)) (by decide) (t := (.array .int)) (t' := .long) (by decide) (by decide)
theorem sn_32 {a0 : Array Value} {Z : State} (hw : HW a0 Z) : Jvm.RoadKit.slotOf Z cS1 "mTable" "[I" ≠ Jvm.RoadKit.slotOf Z cS1 "mNextPlace" "J" := slot_ne (Or.inl (ww hw 44 rfl)) (Or.inl (ww hw 62 rfl)) (by decide) (t := (.array .int)) (t' := .long) (by decide) (by decide)
theorem sn_33 {a0 : Array Value} {Z : State} (hw : HW a0 Z) : Jvm.RoadKit.slotOf Z cS1 "mEncoded" "[B" ≠ Jvm.RoadKit.slotOf Z cS1 "mNextPlace" "J" := slot_ne (Or.inl (ww hw 46 rfl)) (Or.inl (ww hw 62 rfl)) (by decide) (t := (.array .byte)) (t' := .long) (by decide) (by decide)
theorem sn_34 {a0 : Array Value} {Z : State} (hw : HW a0 Z) : Jvm.RoadKit.slotOf Z cS1 "mEncodedLength" "I" ≠ Jvm.RoadKit.slotOf Z cS1 "mNextPlace" "J" := slot_ne (Or.inl (ww hw 60 rfl)) (Or.inl (ww hw 62 rfl)) (by decide) (t := .int) (t' := .long) (by decide) (by decide)
theorem sn_35 {a0 : Array Value} {Z : State} (hw : HW a0 Z) : Jvm.RoadKit.slotOf Z cS1 "mSize" "I" ≠ Jvm.RoadKit.slotOf Z cS1 "mNextPlace" "J" := slot_ne (Or.inl (ww hw 76 rfl)) (Or.inl (ww hw 62 rfl)) (by decide) (t := .int) (t' := .long) (by decide) (by decide)
theorem sn_36 {a0 : Array Value} {Z : State} (hw : HW a0 Z) : Jvm.RoadKit.slotOf Z cS1 "mBudget" "Lcom/example/deft_nets/deftnets/MemoryBudget;" ≠ Jvm.RoadKit.slotOf Z cS1 "mNextPlace" "J" := slot_ne (Or.inr (ww hw 48 rfl)) (Or.inl (ww hw 62 rfl)) (by decide) (t := (.object "com/example/deft_nets/deftnets/MemoryBudget")) (t' := .long) (by decide) (by decide)
theorem sn_37 {a0 : Array Value} {Z : State} (hw : HW a0 Z) : Jvm.RoadKit.slotOf Z cS1 "mPoolSize" "I" ≠ Jvm.RoadKit.slotOf Z cS1 "mPool" "[B" := slot_ne (Or.inl (ww hw 95 rfl)) (Or.inl (ww hw 38 rfl)) (by decide) (t := .int) (t' := (.array .byte)) (by decide) (by decide)
theorem sn_38 {a0 : Array Value} {Z : State} (hw : HW a0 Z) : Jvm.RoadKit.slotOf Z cS1 "mStart" "[I" ≠ Jvm.RoadKit.slotOf Z cS1 "mPool" "[B" := slot_ne (Or.inl (ww hw 40 rfl)) (Or.inl (ww hw 38 rfl)) (by decide) (t := (.array .int)) (t' := (.array .byte)) (by decide) (by decide)
theorem sn_39 {a0 : Array Value} {Z : State} (hw : HW a0 Z) : Jvm.RoadKit.slotOf Z cS1 "mHash" "[I" ≠ Jvm.RoadKit.slotOf Z cS1 "mPool" "[B" := slot_ne (Or.inl (ww hw 42 rfl)) (Or.inl (ww hw 38 rfl)) (by decide) (t := (.array .int)) (t' := (.array .byte)) (by decide) (by decide)
theorem sn_40 {a0 : Array Value} {Z : State} (hw : HW a0 Z) : Jvm.RoadKit.slotOf Z cS1 "mTable" "[I" ≠ Jvm.RoadKit.slotOf Z cS1 "mPool" "[B" := slot_ne (Or.inl (ww hw 44 rfl)) (Or.inl (ww hw 38 rfl)) (by decide) (t := (.array .int)) (t' := (.array .byte)) (by decide) (by decide)
theorem sn_41 {a0 : Array Value} {Z : State} (hw : HW a0 Z) : Jvm.RoadKit.slotOf Z cS1 "mEncoded" "[B" ≠ Jvm.RoadKit.slotOf Z cS1 "mPool" "[B" := slot_ne (Or.inl (ww hw 46 rfl)) (Or.inl (ww hw 38 rfl)) (by decide) (t := (.array .byte)) (t' := (.array .byte)) (by decide) (by decide)
theorem sn_42 {a0 : Array Value} {Z : State} (hw : HW a0 Z) : Jvm.RoadKit.slotOf Z cS1 "mEncodedLength" "I" ≠ Jvm.RoadKit.slotOf Z cS1 "mPool" "[B" := slot_ne (Or.inl (ww hw 60 rfl)) (Or.inl (ww hw 38 rfl)) (by decide) (t := .int) (t' := (.array .byte)) (by decide) (by decide)
theorem sn_43 {a0 : Array Value} {Z : State} (hw : HW a0 Z) : Jvm.RoadKit.slotOf Z cS1 "mNextPlace" "J" ≠ Jvm.RoadKit.slotOf Z cS1 "mPool" "[B" := slot_ne (Or.inl (ww hw 62 rfl)) (Or.inl (ww hw 38 rfl)) (by decide) (t := .long) (t' := (.array .byte)) (by decide) (by decide)
theorem sn_44 {a0 : Array Value} {Z : State} (hw : HW a0 Z) : Jvm.RoadKit.slotOf Z cS1 "mSize" "I" ≠ Jvm.RoadKit.slotOf Z cS1 "mPool" "[B" := slot_ne (Or.inl (ww hw 76 rfl)) (Or.inl (ww hw 38 rfl)) (by decide) (t := .int) (t' := (.array .byte)) (by decide) (by decide)
theorem sn_45 {a0 : Array Value} {Z : State} (hw : HW a0 Z) : Jvm.RoadKit.slotOf Z cS1 "mBudget" "Lcom/example/deft_nets/deftnets/MemoryBudget;" ≠ Jvm.RoadKit.slotOf Z cS1 "mPool" "[B" := slot_ne (Or.inr (ww hw 48 rfl)) (Or.inl (ww hw 38 rfl)) (by decide) (t := (.object "com/example/deft_nets/deftnets/MemoryBudget")) (t' := (.array .byte)) (by decide) (by decide)
theorem sn_46 {a0 : Array Value} {Z : State} (hw : HW a0 Z) : Jvm.RoadKit.slotOf Z cS1 "mPool" "[B" ≠ Jvm.RoadKit.slotOf Z cS1 "mPoolSize" "I" := slot_ne (Or.inl (ww hw 38 rfl)) (Or.inl (ww hw 95 rfl)) (by decide) (t := (.array .byte)) (t' := .int) (by decide) (by decide)
theorem sn_47 {a0 : Array Value} {Z : State} (hw : HW a0 Z) : Jvm.RoadKit.slotOf Z cS1 "mStart" "[I" ≠ Jvm.RoadKit.slotOf Z cS1 "mPoolSize" "I" := slot_ne (Or.inl (ww hw 40 rfl)) (Or.inl (ww hw 95 rfl)) (by decide) (t := (.array .int)) (t' := .int) (by decide) (by decide)
theorem sn_48 {a0 : Array Value} {Z : State} (hw : HW a0 Z) : Jvm.RoadKit.slotOf Z cS1 "mHash" "[I" ≠ Jvm.RoadKit.slotOf Z cS1 "mPoolSize" "I" := slot_ne (Or.inl (ww hw 42 rfl)) (Or.inl (ww hw 95 rfl)) (by decide) (t := (.array .int)) (t' := .int) (by decide) (by decide)
theorem sn_49 {a0 : Array Value} {Z : State} (hw : HW a0 Z) : Jvm.RoadKit.slotOf Z cS1 "mTable" "[I" ≠ Jvm.RoadKit.slotOf Z cS1 "mPoolSize" "I" := slot_ne (Or.inl (ww hw 44 rfl)) (Or.inl (ww hw 95 rfl)) (by decide) (t := (.array .int)) (t' := .int) (by decide) (by decide)
theorem sn_50 {a0 : Array Value} {Z : State} (hw : HW a0 Z) : Jvm.RoadKit.slotOf Z cS1 "mEncoded" "[B" ≠ Jvm.RoadKit.slotOf Z cS1 "mPoolSize" "I" := slot_ne (Or.inl (ww hw 46 rfl)) (Or.inl (ww hw 95 rfl)) (by decide) (t := (.array .byte)) (t' := .int) (by decide) (by decide)
theorem sn_51 {a0 : Array Value} {Z : State} (hw : HW a0 Z) : Jvm.RoadKit.slotOf Z cS1 "mEncodedLength" "I" ≠ Jvm.RoadKit.slotOf Z cS1 "mPoolSize" "I" := slot_ne (Or.inl (ww hw 60 rfl)) (Or.inl (ww hw 95 rfl)) (by decide) (t := .int) (t' := .int) (by decide) (by decide)
theorem sn_52 {a0 : Array Value} {Z : State} (hw : HW a0 Z) : Jvm.RoadKit.slotOf Z cS1 "mNextPlace" "J" ≠ Jvm.RoadKit.slotOf Z cS1 "mPoolSize" "I" := slot_ne (Or.inl (ww hw 62 rfl)) (Or.inl (ww hw 95 rfl)) (by decide) (t := .long) (t' := .int) (by decide) (by decide)
theorem sn_53 {a0 : Array Value} {Z : State} (hw : HW a0 Z) : Jvm.RoadKit.slotOf Z cS1 "mSize" "I" ≠ Jvm.RoadKit.slotOf Z cS1 "mPoolSize" "I" := slot_ne (Or.inl (ww hw 76 rfl)) (Or.inl (ww hw 95 rfl)) (by decide) (t := .int) (t' := .int) (by decide) (by decide)
theorem sn_54 {a0 : Array Value} {Z : State} (hw : HW a0 Z) : Jvm.RoadKit.slotOf Z cS1 "mBudget" "Lcom/example/deft_nets/deftnets/MemoryBudget;" ≠ Jvm.RoadKit.slotOf Z cS1 "mPoolSize" "I" := slot_ne (Or.inr (ww hw 48 rfl)) (Or.inl (ww hw 95 rfl)) (by decide) (t := (.object "com/example/deft_nets/deftnets/MemoryBudget")) (t' := .int) (by decide) (by decide)
theorem sn_55 {a0 : Array Value} {Z : State} (hw : HW a0 Z) : Jvm.RoadKit.slotOf Z cS1 "mPool" "[B" ≠ Jvm.RoadKit.slotOf Z cS1 "mStart" "[I" := slot_ne (Or.inl (ww hw 38 rfl)) (Or.inl (ww hw 40 rfl)) (by decide) (t := (.array .byte)) (t' := (.array .int)) (by decide) (by decide)
theorem sn_56 {a0 : Array Value} {Z : State} (hw : HW a0 Z) : Jvm.RoadKit.slotOf Z cS1 "mPoolSize" "I" ≠ Jvm.RoadKit.slotOf Z cS1 "mStart" "[I" := slot_ne (Or.inl (ww hw 95 rfl)) (Or.inl (ww hw 40 rfl)) (by decide) (t := .int) (t' := (.array .int)) (by decide) (by decide)
theorem sn_57 {a0 : Array Value} {Z : State} (hw : HW a0 Z) : Jvm.RoadKit.slotOf Z cS1 "mHash" "[I" ≠ Jvm.RoadKit.slotOf Z cS1 "mStart" "[I" := slot_ne (Or.inl (ww hw 42 rfl)) (Or.inl (ww hw 40 rfl)) (by decide) (t := (.array .int)) (t' := (.array .int)) (by decide) (by decide)
theorem sn_58 {a0 : Array Value} {Z : State} (hw : HW a0 Z) : Jvm.RoadKit.slotOf Z cS1 "mTable" "[I" ≠ Jvm.RoadKit.slotOf Z cS1 "mStart" "[I" := slot_ne (Or.inl (ww hw 44 rfl)) (Or.inl (ww hw 40 rfl)) (by decide) (t := (.array .int)) (t' := (.array .int)) (by decide) (by decide)
theorem sn_59 {a0 : Array Value} {Z : State} (hw : HW a0 Z) : Jvm.RoadKit.slotOf Z cS1 "mEncoded" "[B" ≠ Jvm.RoadKit.slotOf Z cS1 "mStart" "[I" := slot_ne (Or.inl (ww hw 46 rfl)) (Or.inl (ww hw 40 rfl)) (by decide) (t := (.array .byte)) (t' := (.array .int)) (by decide) (by decide)
theorem sn_60 {a0 : Array Value} {Z : State} (hw : HW a0 Z) : Jvm.RoadKit.slotOf Z cS1 "mEncodedLength" "I" ≠ Jvm.RoadKit.slotOf Z cS1 "mStart" "[I" := slot_ne (Or.inl (ww hw 60 rfl)) (Or.inl (ww hw 40 rfl)) (by decide) (t := .int) (t' := (.array .int)) (by decide) (by decide)
theorem sn_61 {a0 : Array Value} {Z : State} (hw : HW a0 Z) : Jvm.RoadKit.slotOf Z cS1 "mNextPlace" "J" ≠ Jvm.RoadKit.slotOf Z cS1 "mStart" "[I" := slot_ne (Or.inl (ww hw 62 rfl)) (Or.inl (ww hw 40 rfl)) (by decide) (t := .long) (t' := (.array .int)) (by decide) (by decide)
theorem sn_62 {a0 : Array Value} {Z : State} (hw : HW a0 Z) : Jvm.RoadKit.slotOf Z cS1 "mSize" "I" ≠ Jvm.RoadKit.slotOf Z cS1 "mStart" "[I" := slot_ne (Or.inl (ww hw 76 rfl)) (Or.inl (ww hw 40 rfl)) (by decide) (t := .int) (t' := (.array .int)) (by decide) (by decide)
theorem sn_63 {a0 : Array Value} {Z : State} (hw : HW a0 Z) : Jvm.RoadKit.slotOf Z cS1 "mBudget" "Lcom/example/deft_nets/deftnets/MemoryBudget;" ≠ Jvm.RoadKit.slotOf Z cS1 "mStart" "[I" := slot_ne (Or.inr (ww hw 48 rfl)) (Or.inl (ww hw 40 rfl)) (by decide) (t := (.object "com/example/deft_nets/deftnets/MemoryBudget")) (t' := (.array .int)) (by decide) (by decide)
theorem sn_64 {a0 : Array Value} {Z : State} (hw : HW a0 Z) : Jvm.RoadKit.slotOf Z cS1 "mPool" "[B" ≠ Jvm.RoadKit.slotOf Z cS1 "mHash" "[I" := slot_ne (Or.inl (ww hw 38 rfl)) (Or.inl (ww hw 42 rfl)) (by decide) (t := (.array .byte)) (t' := (.array .int)) (by decide) (by decide)
theorem sn_65 {a0 : Array Value} {Z : State} (hw : HW a0 Z) : Jvm.RoadKit.slotOf Z cS1 "mPoolSize" "I" ≠ Jvm.RoadKit.slotOf Z cS1 "mHash" "[I" := slot_ne (Or.inl (ww hw 95 rfl)) (Or.inl (ww hw 42 rfl)) (by decide) (t := .int) (t' := (.array .int)) (by decide) (by decide)
theorem sn_66 {a0 : Array Value} {Z : State} (hw : HW a0 Z) : Jvm.RoadKit.slotOf Z cS1 "mStart" "[I" ≠ Jvm.RoadKit.slotOf Z cS1 "mHash" "[I" := slot_ne (Or.inl (ww hw 40 rfl)) (Or.inl (ww hw 42 rfl)) (by decide) (t := (.array .int)) (t' := (.array .int)) (by decide) (by decide)
theorem sn_67 {a0 : Array Value} {Z : State} (hw : HW a0 Z) : Jvm.RoadKit.slotOf Z cS1 "mTable" "[I" ≠ Jvm.RoadKit.slotOf Z cS1 "mHash" "[I" := slot_ne (Or.inl (ww hw 44 rfl)) (Or.inl (ww hw 42 rfl)) (by decide) (t := (.array .int)) (t' := (.array .int)) (by decide) (by decide)
theorem sn_68 {a0 : Array Value} {Z : State} (hw : HW a0 Z) : Jvm.RoadKit.slotOf Z cS1 "mEncoded" "[B" ≠ Jvm.RoadKit.slotOf Z cS1 "mHash" "[I" := slot_ne (Or.inl (ww hw 46 rfl)) (Or.inl (ww hw 42 rfl)) (by decide) (t := (.array .byte)) (t' := (.array .int)) (by decide) (by decide)
theorem sn_69 {a0 : Array Value} {Z : State} (hw : HW a0 Z) : Jvm.RoadKit.slotOf Z cS1 "mEncodedLength" "I" ≠ Jvm.RoadKit.slotOf Z cS1 "mHash" "[I" := slot_ne (Or.inl (ww hw 60 rfl)) (Or.inl (ww hw 42 rfl)) (by decide) (t := .int) (t' := (.array .int)) (by decide) (by decide)
theorem sn_70 {a0 : Array Value} {Z : State} (hw : HW a0 Z) : Jvm.RoadKit.slotOf Z cS1 "mNextPlace" "J" ≠ Jvm.RoadKit.slotOf Z cS1 "mHash" "[I" := slot_ne (Or.inl (ww hw 62 rfl)) (Or.inl (ww hw 42 rfl)) (by decide) (t := .long) (t' := (.array .int)) (by decide) (by decide)
theorem sn_71 {a0 : Array Value} {Z : State} (hw : HW a0 Z) : Jvm.RoadKit.slotOf Z cS1 "mSize" "I" ≠ Jvm.RoadKit.slotOf Z cS1 "mHash" "[I" := slot_ne (Or.inl (ww hw 76 rfl)) (Or.inl (ww hw 42 rfl)) (by decide) (t := .int) (t' := (.array .int)) (by decide) (by decide)
theorem sn_72 {a0 : Array Value} {Z : State} (hw : HW a0 Z) : Jvm.RoadKit.slotOf Z cS1 "mBudget" "Lcom/example/deft_nets/deftnets/MemoryBudget;" ≠ Jvm.RoadKit.slotOf Z cS1 "mHash" "[I" := slot_ne (Or.inr (ww hw 48 rfl)) (Or.inl (ww hw 42 rfl)) (by decide) (t := (.object "com/example/deft_nets/deftnets/MemoryBudget")) (t' := (.array .int)) (by decide) (by decide)
theorem sn_73 {a0 : Array Value} {Z : State} (hw : HW a0 Z) : Jvm.RoadKit.slotOf Z cS1 "mPool" "[B" ≠ Jvm.RoadKit.slotOf Z cS1 "mSize" "I" := slot_ne (Or.inl (ww hw 38 rfl)) (Or.inl (ww hw 76 rfl)) (by decide) (t := (.array .byte)) (t' := .int) (by decide) (by decide)
theorem sn_74 {a0 : Array Value} {Z : State} (hw : HW a0 Z) : Jvm.RoadKit.slotOf Z cS1 "mPoolSize" "I" ≠ Jvm.RoadKit.slotOf Z cS1 "mSize" "I" := slot_ne (Or.inl (ww hw 95 rfl)) (Or.inl (ww hw 76 rfl)) (by decide) (t := .int) (t' := .int) (by decide) (by decide)
theorem sn_75 {a0 : Array Value} {Z : State} (hw : HW a0 Z) : Jvm.RoadKit.slotOf Z cS1 "mStart" "[I" ≠ Jvm.RoadKit.slotOf Z cS1 "mSize" "I" := slot_ne (Or.inl (ww hw 40 rfl)) (Or.inl (ww hw 76 rfl)) (by decide) (t := (.array .int)) (t' := .int) (by decide) (by decide)
theorem sn_76 {a0 : Array Value} {Z : State} (hw : HW a0 Z) : Jvm.RoadKit.slotOf Z cS1 "mHash" "[I" ≠ Jvm.RoadKit.slotOf Z cS1 "mSize" "I" := slot_ne (Or.inl (ww hw 42 rfl)) (Or.inl (ww hw 76 rfl)) (by decide) (t := (.array .int)) (t' := .int) (by decide) (by decide)
theorem sn_77 {a0 : Array Value} {Z : State} (hw : HW a0 Z) : Jvm.RoadKit.slotOf Z cS1 "mTable" "[I" ≠ Jvm.RoadKit.slotOf Z cS1 "mSize" "I" := slot_ne (Or.inl (ww hw 44 rfl)) (Or.inl (ww hw 76 rfl)) (by decide) (t := (.array .int)) (t' := .int) (by decide) (by decide)
theorem sn_78 {a0 : Array Value} {Z : State} (hw : HW a0 Z) : Jvm.RoadKit.slotOf Z cS1 "mEncoded" "[B" ≠ Jvm.RoadKit.slotOf Z cS1 "mSize" "I" := slot_ne (Or.inl (ww hw 46 rfl)) (Or.inl (ww hw 76 rfl)) (by decide) (t := (.array .byte)) (t' := .int) (by decide) (by decide)
theorem sn_79 {a0 : Array Value} {Z : State} (hw : HW a0 Z) : Jvm.RoadKit.slotOf Z cS1 "mEncodedLength" "I" ≠ Jvm.RoadKit.slotOf Z cS1 "mSize" "I" := slot_ne (Or.inl (ww hw 60 rfl)) (Or.inl (ww hw 76 rfl)) (by decide) (t := .int) (t' := .int) (by decide) (by decide)
theorem sn_80 {a0 : Array Value} {Z : State} (hw : HW a0 Z) : Jvm.RoadKit.slotOf Z cS1 "mNextPlace" "J" ≠ Jvm.RoadKit.slotOf Z cS1 "mSize" "I" := slot_ne (Or.inl (ww hw 62 rfl)) (Or.inl (ww hw 76 rfl)) (by decide) (t := .long) (t' := .int) (by decide) (by decide)
theorem sn_81 {a0 : Array Value} {Z : State} (hw : HW a0 Z) : Jvm.RoadKit.slotOf Z cS1 "mBudget" "Lcom/example/deft_nets/deftnets/MemoryBudget;" ≠ Jvm.RoadKit.slotOf Z cS1 "mSize" "I" := slot_ne (Or.inr (ww hw 48 rfl)) (Or.inl (ww hw 76 rfl)) (by decide) (t := (.object "com/example/deft_nets/deftnets/MemoryBudget")) (t' := .int) (by decide) (by decide)
theorem sn_82 {a0 : Array Value} {Z : State} (hw : HW a0 Z) : Jvm.RoadKit.slotOf Z cS0 "mUsed" "J" ≠ Jvm.RoadKit.slotOf Z cS0 "mLimit" "J" := slot_ne (Or.inl (ww hw 93 rfl)) (Or.inr (ww hw 30 rfl)) (by decide) (t := .long) (t' := .long) (by decide) (by decide)
theorem sn_83 {a0 : Array Value} {Z : State} (hw : HW a0 Z) : Jvm.RoadKit.slotOf Z cS0 "mSource" "Ljava/lang/String;" ≠ Jvm.RoadKit.slotOf Z cS0 "mLimit" "J" := slot_ne (Or.inr (ww hw 32 rfl)) (Or.inr (ww hw 30 rfl)) (by decide) (t := (.object "java/lang/String")) (t' := .long) (by decide) (by decide)
theorem sn_84 {a0 : Array Value} {Z : State} (hw : HW a0 Z) : Jvm.RoadKit.slotOf Z cS0 "mLimit" "J" ≠ Jvm.RoadKit.slotOf Z cS0 "mSource" "Ljava/lang/String;" := slot_ne (Or.inr (ww hw 30 rfl)) (Or.inr (ww hw 32 rfl)) (by decide) (t := .long) (t' := (.object "java/lang/String")) (by decide) (by decide)
theorem sn_85 {a0 : Array Value} {Z : State} (hw : HW a0 Z) : Jvm.RoadKit.slotOf Z cS0 "mUsed" "J" ≠ Jvm.RoadKit.slotOf Z cS0 "mSource" "Ljava/lang/String;" := slot_ne (Or.inl (ww hw 93 rfl)) (Or.inr (ww hw 32 rfl)) (by decide) (t := .long) (t' := (.object "java/lang/String")) (by decide) (by decide)
theorem sn_86 {a0 : Array Value} {Z : State} (hw : HW a0 Z) : Jvm.RoadKit.slotOf Z cS1 "mPool" "[B" ≠ Jvm.RoadKit.slotOf Z cS1 "mBudget" "Lcom/example/deft_nets/deftnets/MemoryBudget;" := slot_ne (Or.inl (ww hw 38 rfl)) (Or.inr (ww hw 48 rfl)) (by decide) (t := (.array .byte)) (t' := (.object "com/example/deft_nets/deftnets/MemoryBudget")) (by decide) (by decide)
theorem sn_87 {a0 : Array Value} {Z : State} (hw : HW a0 Z) : Jvm.RoadKit.slotOf Z cS1 "mPoolSize" "I" ≠ Jvm.RoadKit.slotOf Z cS1 "mBudget" "Lcom/example/deft_nets/deftnets/MemoryBudget;" := slot_ne (Or.inl (ww hw 95 rfl)) (Or.inr (ww hw 48 rfl)) (by decide) (t := .int) (t' := (.object "com/example/deft_nets/deftnets/MemoryBudget")) (by decide) (by decide)
theorem sn_88 {a0 : Array Value} {Z : State} (hw : HW a0 Z) : Jvm.RoadKit.slotOf Z cS1 "mStart" "[I" ≠ Jvm.RoadKit.slotOf Z cS1 "mBudget" "Lcom/example/deft_nets/deftnets/MemoryBudget;" := slot_ne (Or.inl (ww hw 40 rfl)) (Or.inr (ww hw 48 rfl)) (by decide) (t := (.array .int)) (t' := (.object "com/example/deft_nets/deftnets/MemoryBudget")) (by decide) (by decide)
theorem sn_89 {a0 : Array Value} {Z : State} (hw : HW a0 Z) : Jvm.RoadKit.slotOf Z cS1 "mHash" "[I" ≠ Jvm.RoadKit.slotOf Z cS1 "mBudget" "Lcom/example/deft_nets/deftnets/MemoryBudget;" := slot_ne (Or.inl (ww hw 42 rfl)) (Or.inr (ww hw 48 rfl)) (by decide) (t := (.array .int)) (t' := (.object "com/example/deft_nets/deftnets/MemoryBudget")) (by decide) (by decide)
theorem sn_90 {a0 : Array Value} {Z : State} (hw : HW a0 Z) : Jvm.RoadKit.slotOf Z cS1 "mTable" "[I" ≠ Jvm.RoadKit.slotOf Z cS1 "mBudget" "Lcom/example/deft_nets/deftnets/MemoryBudget;" := slot_ne (Or.inl (ww hw 44 rfl)) (Or.inr (ww hw 48 rfl)) (by decide) (t := (.array .int)) (t' := (.object "com/example/deft_nets/deftnets/MemoryBudget")) (by decide) (by decide)
theorem sn_91 {a0 : Array Value} {Z : State} (hw : HW a0 Z) : Jvm.RoadKit.slotOf Z cS1 "mEncoded" "[B" ≠ Jvm.RoadKit.slotOf Z cS1 "mBudget" "Lcom/example/deft_nets/deftnets/MemoryBudget;" := slot_ne (Or.inl (ww hw 46 rfl)) (Or.inr (ww hw 48 rfl)) (by decide) (t := (.array .byte)) (t' := (.object "com/example/deft_nets/deftnets/MemoryBudget")) (by decide) (by decide)
theorem sn_92 {a0 : Array Value} {Z : State} (hw : HW a0 Z) : Jvm.RoadKit.slotOf Z cS1 "mEncodedLength" "I" ≠ Jvm.RoadKit.slotOf Z cS1 "mBudget" "Lcom/example/deft_nets/deftnets/MemoryBudget;" := slot_ne (Or.inl (ww hw 60 rfl)) (Or.inr (ww hw 48 rfl)) (by decide) (t := .int) (t' := (.object "com/example/deft_nets/deftnets/MemoryBudget")) (by decide) (by decide)
theorem sn_93 {a0 : Array Value} {Z : State} (hw : HW a0 Z) : Jvm.RoadKit.slotOf Z cS1 "mNextPlace" "J" ≠ Jvm.RoadKit.slotOf Z cS1 "mBudget" "Lcom/example/deft_nets/deftnets/MemoryBudget;" := slot_ne (Or.inl (ww hw 62 rfl)) (Or.inr (ww hw 48 rfl)) (by decide) (t := .long) (t' := (.object "com/example/deft_nets/deftnets/MemoryBudget")) (by decide) (by decide)
theorem sn_94 {a0 : Array Value} {Z : State} (hw : HW a0 Z) : Jvm.RoadKit.slotOf Z cS1 "mSize" "I" ≠ Jvm.RoadKit.slotOf Z cS1 "mBudget" "Lcom/example/deft_nets/deftnets/MemoryBudget;" := slot_ne (Or.inl (ww hw 76 rfl)) (Or.inr (ww hw 48 rfl)) (by decide) (t := .int) (t' := (.object "com/example/deft_nets/deftnets/MemoryBudget")) (by decide) (by decide)
abbrev cS2 : String := "com/example/deft_nets/deftnets/MarkingStore$Entries"
theorem sn_95 {a0 : Array Value} {Z : State} (hw : HW a0 Z) : Jvm.RoadKit.slotOf Z cS2 "mPlace" "J" ≠ Jvm.RoadKit.slotOf Z cS2 "this$0" "Lcom/example/deft_nets/deftnets/MarkingStore;" := slot_ne (Or.inl (ww hw 160 rfl)) (Or.inr (ww hw 156 rfl)) (by decide) (t := .long) (t' := (.object "com/example/deft_nets/deftnets/MarkingStore")) (by decide) (by decide)
theorem sn_96 {a0 : Array Value} {Z : State} (hw : HW a0 Z) : Jvm.RoadKit.slotOf Z cS2 "mAt" "I" ≠ Jvm.RoadKit.slotOf Z cS2 "this$0" "Lcom/example/deft_nets/deftnets/MarkingStore;" := slot_ne (Or.inl (ww hw 163 rfl)) (Or.inr (ww hw 156 rfl)) (by decide) (t := .int) (t' := (.object "com/example/deft_nets/deftnets/MarkingStore")) (by decide) (by decide)
theorem sn_97 {a0 : Array Value} {Z : State} (hw : HW a0 Z) : Jvm.RoadKit.slotOf Z cS2 "mEnd" "I" ≠ Jvm.RoadKit.slotOf Z cS2 "this$0" "Lcom/example/deft_nets/deftnets/MarkingStore;" := slot_ne (Or.inr (ww hw 165 rfl)) (Or.inr (ww hw 156 rfl)) (by decide) (t := .int) (t' := (.object "com/example/deft_nets/deftnets/MarkingStore")) (by decide) (by decide)
theorem sn_98 {a0 : Array Value} {Z : State} (hw : HW a0 Z) : Jvm.RoadKit.slotOf Z cS2 "mCount" "I" ≠ Jvm.RoadKit.slotOf Z cS2 "this$0" "Lcom/example/deft_nets/deftnets/MarkingStore;" := slot_ne (Or.inl (ww hw 177 rfl)) (Or.inr (ww hw 156 rfl)) (by decide) (t := .int) (t' := (.object "com/example/deft_nets/deftnets/MarkingStore")) (by decide) (by decide)
theorem sn_99 {a0 : Array Value} {Z : State} (hw : HW a0 Z) : Jvm.RoadKit.slotOf Z cS2 "this$0" "Lcom/example/deft_nets/deftnets/MarkingStore;" ≠ Jvm.RoadKit.slotOf Z cS2 "mPlace" "J" := slot_ne (Or.inr (ww hw 156 rfl)) (Or.inl (ww hw 160 rfl)) (by decide) (t := (.object "com/example/deft_nets/deftnets/MarkingStore")) (t' := .long) (by decide) (by decide)
theorem sn_100 {a0 : Array Value} {Z : State} (hw : HW a0 Z) : Jvm.RoadKit.slotOf Z cS2 "mAt" "I" ≠ Jvm.RoadKit.slotOf Z cS2 "mPlace" "J" := slot_ne (Or.inl (ww hw 163 rfl)) (Or.inl (ww hw 160 rfl)) (by decide) (t := .int) (t' := .long) (by decide) (by decide)
theorem sn_101 {a0 : Array Value} {Z : State} (hw : HW a0 Z) : Jvm.RoadKit.slotOf Z cS2 "mEnd" "I" ≠ Jvm.RoadKit.slotOf Z cS2 "mPlace" "J" := slot_ne (Or.inr (ww hw 165 rfl)) (Or.inl (ww hw 160 rfl)) (by decide) (t := .int) (t' := .long) (by decide) (by decide)
theorem sn_102 {a0 : Array Value} {Z : State} (hw : HW a0 Z) : Jvm.RoadKit.slotOf Z cS2 "mCount" "I" ≠ Jvm.RoadKit.slotOf Z cS2 "mPlace" "J" := slot_ne (Or.inl (ww hw 177 rfl)) (Or.inl (ww hw 160 rfl)) (by decide) (t := .int) (t' := .long) (by decide) (by decide)
theorem sn_103 {a0 : Array Value} {Z : State} (hw : HW a0 Z) : Jvm.RoadKit.slotOf Z cS2 "this$0" "Lcom/example/deft_nets/deftnets/MarkingStore;" ≠ Jvm.RoadKit.slotOf Z cS2 "mAt" "I" := slot_ne (Or.inr (ww hw 156 rfl)) (Or.inl (ww hw 163 rfl)) (by decide) (t := (.object "com/example/deft_nets/deftnets/MarkingStore")) (t' := .int) (by decide) (by decide)
theorem sn_104 {a0 : Array Value} {Z : State} (hw : HW a0 Z) : Jvm.RoadKit.slotOf Z cS2 "mPlace" "J" ≠ Jvm.RoadKit.slotOf Z cS2 "mAt" "I" := slot_ne (Or.inl (ww hw 160 rfl)) (Or.inl (ww hw 163 rfl)) (by decide) (t := .long) (t' := .int) (by decide) (by decide)
theorem sn_105 {a0 : Array Value} {Z : State} (hw : HW a0 Z) : Jvm.RoadKit.slotOf Z cS2 "mEnd" "I" ≠ Jvm.RoadKit.slotOf Z cS2 "mAt" "I" := slot_ne (Or.inr (ww hw 165 rfl)) (Or.inl (ww hw 163 rfl)) (by decide) (t := .int) (t' := .int) (by decide) (by decide)
theorem sn_106 {a0 : Array Value} {Z : State} (hw : HW a0 Z) : Jvm.RoadKit.slotOf Z cS2 "mCount" "I" ≠ Jvm.RoadKit.slotOf Z cS2 "mAt" "I" := slot_ne (Or.inl (ww hw 177 rfl)) (Or.inl (ww hw 163 rfl)) (by decide) (t := .int) (t' := .int) (by decide) (by decide)
theorem sn_107 {a0 : Array Value} {Z : State} (hw : HW a0 Z) : Jvm.RoadKit.slotOf Z cS2 "this$0" "Lcom/example/deft_nets/deftnets/MarkingStore;" ≠ Jvm.RoadKit.slotOf Z cS2 "mEnd" "I" := slot_ne (Or.inr (ww hw 156 rfl)) (Or.inr (ww hw 165 rfl)) (by decide) (t := (.object "com/example/deft_nets/deftnets/MarkingStore")) (t' := .int) (by decide) (by decide)
theorem sn_108 {a0 : Array Value} {Z : State} (hw : HW a0 Z) : Jvm.RoadKit.slotOf Z cS2 "mPlace" "J" ≠ Jvm.RoadKit.slotOf Z cS2 "mEnd" "I" := slot_ne (Or.inl (ww hw 160 rfl)) (Or.inr (ww hw 165 rfl)) (by decide) (t := .long) (t' := .int) (by decide) (by decide)
theorem sn_109 {a0 : Array Value} {Z : State} (hw : HW a0 Z) : Jvm.RoadKit.slotOf Z cS2 "mAt" "I" ≠ Jvm.RoadKit.slotOf Z cS2 "mEnd" "I" := slot_ne (Or.inl (ww hw 163 rfl)) (Or.inr (ww hw 165 rfl)) (by decide) (t := .int) (t' := .int) (by decide) (by decide)
theorem sn_110 {a0 : Array Value} {Z : State} (hw : HW a0 Z) : Jvm.RoadKit.slotOf Z cS2 "mCount" "I" ≠ Jvm.RoadKit.slotOf Z cS2 "mEnd" "I" := slot_ne (Or.inl (ww hw 177 rfl)) (Or.inr (ww hw 165 rfl)) (by decide) (t := .int) (t' := .int) (by decide) (by decide)
theorem sn_111 {a0 : Array Value} {Z : State} (hw : HW a0 Z) : Jvm.RoadKit.slotOf Z cS2 "this$0" "Lcom/example/deft_nets/deftnets/MarkingStore;" ≠ Jvm.RoadKit.slotOf Z cS2 "mCount" "I" := slot_ne (Or.inr (ww hw 156 rfl)) (Or.inl (ww hw 177 rfl)) (by decide) (t := (.object "com/example/deft_nets/deftnets/MarkingStore")) (t' := .int) (by decide) (by decide)
theorem sn_112 {a0 : Array Value} {Z : State} (hw : HW a0 Z) : Jvm.RoadKit.slotOf Z cS2 "mPlace" "J" ≠ Jvm.RoadKit.slotOf Z cS2 "mCount" "I" := slot_ne (Or.inl (ww hw 160 rfl)) (Or.inl (ww hw 177 rfl)) (by decide) (t := .long) (t' := .int) (by decide) (by decide)
theorem sn_113 {a0 : Array Value} {Z : State} (hw : HW a0 Z) : Jvm.RoadKit.slotOf Z cS2 "mAt" "I" ≠ Jvm.RoadKit.slotOf Z cS2 "mCount" "I" := slot_ne (Or.inl (ww hw 163 rfl)) (Or.inl (ww hw 177 rfl)) (by decide) (t := .int) (t' := .int) (by decide) (by decide)
theorem sn_114 {a0 : Array Value} {Z : State} (hw : HW a0 Z) : Jvm.RoadKit.slotOf Z cS2 "mEnd" "I" ≠ Jvm.RoadKit.slotOf Z cS2 "mCount" "I" := slot_ne (Or.inr (ww hw 165 rfl)) (Or.inl (ww hw 177 rfl)) (by decide) (t := .int) (t' := .int) (by decide) (by decide)
def MS (Z : State) (h : Heap) (a : Addr) (pool : Addr) (psz : Int32) (start : Addr) (hash : Addr) (table : Addr) (enc : Addr) (elen : Int32) (next : Int64) (size : Int32) (bud : Addr) : Prop := Exa Z h a "com/example/deft_nets/deftnets/MarkingStore" ∧ Fld Z h a "com/example/deft_nets/deftnets/MarkingStore" "mPool" "[B" (.ref pool) ∧ Fld Z h a "com/example/deft_nets/deftnets/MarkingStore" "mPoolSize" "I" (.int psz) ∧ Fld Z h a "com/example/deft_nets/deftnets/MarkingStore" "mStart" "[I" (.ref start) ∧ Fld Z h a "com/example/deft_nets/deftnets/MarkingStore" "mHash" "[I" (.ref hash) ∧ Fld Z h a "com/example/deft_nets/deftnets/MarkingStore" "mTable" "[I" (.ref table) ∧ Fld Z h a "com/example/deft_nets/deftnets/MarkingStore" "mEncoded" "[B" (.ref enc) ∧ Fld Z h a "com/example/deft_nets/deftnets/MarkingStore" "mEncodedLength" "I" (.int elen) ∧ Fld Z h a "com/example/deft_nets/deftnets/MarkingStore" "mNextPlace" "J" (.long next) ∧ Fld Z h a "com/example/deft_nets/deftnets/MarkingStore" "mSize" "I" (.int size) ∧ Fld Z h a "com/example/deft_nets/deftnets/MarkingStore" "mBudget" "Lcom/example/deft_nets/deftnets/MemoryBudget;" (.ref bud)
def BG (Z : State) (h : Heap) (a : Addr) (used : Int64) : Prop := Exa Z h a "com/example/deft_nets/deftnets/MemoryBudget" ∧ Fld Z h a "com/example/deft_nets/deftnets/MemoryBudget" "mLimit" "J" (.long (1099511627776 : Int64)) ∧ Fld Z h a "com/example/deft_nets/deftnets/MemoryBudget" "mUsed" "J" (.long used)
def EN (Z : State) (h : Heap) (a : Addr) (this : Addr) (place : Int64) (at_ : Int32) (end_ : Int32) (cnt : Int32) : Prop := Exa Z h a "com/example/deft_nets/deftnets/MarkingStore$Entries" ∧ Fld Z h a "com/example/deft_nets/deftnets/MarkingStore$Entries" "this$0" "Lcom/example/deft_nets/deftnets/MarkingStore;" (.ref this) ∧ Fld Z h a "com/example/deft_nets/deftnets/MarkingStore$Entries" "mPlace" "J" (.long place) ∧ Fld Z h a "com/example/deft_nets/deftnets/MarkingStore$Entries" "mAt" "I" (.int at_) ∧ Fld Z h a "com/example/deft_nets/deftnets/MarkingStore$Entries" "mEnd" "I" (.int end_) ∧ Fld Z h a "com/example/deft_nets/deftnets/MarkingStore$Entries" "mCount" "I" (.int cnt)
def F1 (p1 : Int32) (p2 : Int32) : Int32 := (if p1 < p2 then p2 else p1)
theorem d1_0 : decode k1_ 0 = .ok (.iload_n 0, 1) := by decide +kernel
theorem d1_1 : decode k1_ 1 = .ok (.iload_n 1, 1) := by decide +kernel
theorem d1_2 : decode k1_ 2 = .ok (.if_icmp .lt 7, 3) := by decide +kernel
theorem d1_5 : decode k1_ 5 = .ok (.iload_n 0, 1) := by decide +kernel
theorem d1_6 : decode k1_ 6 = .ok (.goto 4, 3) := by decide +kernel
theorem d1_9 : decode k1_ 9 = .ok (.iload_n 1, 1) := by decide +kernel
theorem d1_10 : decode k1_ 10 = .ok (.ireturn, 1) := by decide +kernel
theorem ef_1 (m : MethodId) (p1 : Int32) (p2 : Int32) : entryFrame m #[(.int p1), (.int p2)] 2 = mkF m 0 #[.val (.int p1), .val (.int p2)] [] := by first | (simp [entryFrame, mkF, argsToLocals, Value.category]; done) | rfl
def Q1 (Z : State) (p1 : Int32) (p2 : Int32) (h0 : Heap) (n0 : Nat) (v : Option Value) (h : Heap) (L : List Loc) : Prop := v = some (.int (F1 p1 p2)) ∧ Fr n0 L ∧ h = h0
set_option maxRecDepth 65536 in
set_option maxHeartbeats 40000000 in
theorem rm1 (l : Launch) (Z : State) (a0 : Array Value) (hw : HW a0 Z) (ws : List Jvm.Cond) (p1 : Int32) (p2 : Int32)  (h0 : Heap) (n0 : Nat) (Z0 : n0 ≤ h0.size)  :
    MetFree l mn_1 (head1 (Jvm.Cond.code mn_1 jdk_29_method_65_code 2 (some .int) :: ws) ({ frames := 0, cells := 0, slots := 0, locals := 0 } : Room)) (fun a U => a = #[(.int p1), (.int p2)] ∧ Z.Warmed39 U.vm ∧ U.heap = h0) (fun _ _ _ _ _ => True) (fun _ U o U' => ∃ v L, o = .returned v ∧ Q1 Z p1 p2 h0 n0 v U'.heap L ∧ FrameEnd U o U' L ({ frames := 0, cells := 0, slots := 0, locals := 0 } : Room).cells ({ frames := 0, cells := 0, slots := 0, locals := 0 } : Room).slots) := by
  refine MetFree.of_bodySF (Jvm.Free.JP.mathPlain rfl (by decide +kernel)) hisR ?_
  intro p e s m args below meth c s₁ Bd hml0 hP hK
  obtain ⟨rfl, hZ, hh⟩ := hP
  have hx := Bd.exec
  have hby := Bd.bytes
  have H := And.intro hx hby
  have hml : c.maxLocals = 2 := hml0
  have hown : s.vm.findClass "java/lang/Math" = some m.cls := findClass_of_methodNamed Bd.named
  have hnm := (name_of_methodNamed Bd.named Bd.method).1
  have X0 : Stand p l e ({ frames := 0, cells := 0, slots := 0, locals := 0 } : Room) s m #[(.int p1), (.int p2)] below meth c s₁ [] 0 0 := Stand.of_body Bd
  have e0 : s₁.heap = h0 := by rw [← hh, Bd.state]; rfl
  have N0 := Fr.nil n0
  suffices hG : OwnG p e below s (Q1 Z p1 p2 h0 n0) ({ frames := 0, cells := 0, slots := 0, locals := 0 } : Room).cells ({ frames := 0, cells := 0, slots := 0, locals := 0 } : Room).slots s₁ (mkF m 0 #[.val (.int p1), .val (.int p2)] []) by
    obtain ⟨s2, o2, g1, g2⟩ := hG
    exact ⟨s2, o2, castTop (ef_1 m p1 p2) g1, g2⟩
  refine OwnG.st (y_iloadN X0 H d1_0 rfl) ?_
  refine OwnG.st (y_iloadN X0 H d1_1 rfl) ?_
  by_cases hc2_51 : p1 < p2
  · refine OwnG.st (y_icY X0 H 9 d1_2 (tlt hc2_51).1 (by decide) (by decide)) ?_
    refine OwnG.st (y_iloadN X0 H d1_9 rfl) ?_
    have hv : p2 = F1 p1 p2 := by simp only [F1, if_pos hc2_51]
    exact OwnG.retI X0 hx Bd.returns (BodyLoose.notSynchronized Bd) (hb hby d1_10) ⟨congrArg (fun w => some (Value.int w)) hv, N0, e0⟩ (by decide) (by decide)
  · refine OwnG.st (y_icN X0 H d1_2 (flt hc2_51).1) ?_
    refine OwnG.st (y_iloadN X0 H d1_5 rfl) ?_
    refine OwnG.st (y_goto X0 H 10 d1_6 (by decide) (by decide)) ?_
    have hv : p1 = F1 p1 p2 := by simp only [F1, if_neg hc2_51]
    exact OwnG.retI X0 hx Bd.returns (BodyLoose.notSynchronized Bd) (hb hby d1_10) ⟨congrArg (fun w => some (Value.int w)) hv, N0, e0⟩ (by decide) (by decide)
def F10 (q1 : Int64) (q2 : Int64) : Int64 := (if q1 < q2 then q2 else q1)
theorem d10_0 : decode k10_ 0 = .ok (.lload_n 0, 1) := by decide +kernel
theorem d10_1 : decode k10_ 1 = .ok (.lload_n 2, 1) := by decide +kernel
theorem d10_2 : decode k10_ 2 = .ok (.lcmp, 1) := by decide +kernel
theorem d10_3 : decode k10_ 3 = .ok (.ifCond .lt 7, 3) := by decide +kernel
theorem d10_6 : decode k10_ 6 = .ok (.lload_n 0, 1) := by decide +kernel
theorem d10_7 : decode k10_ 7 = .ok (.goto 4, 3) := by decide +kernel
theorem d10_10 : decode k10_ 10 = .ok (.lload_n 2, 1) := by decide +kernel
theorem d10_11 : decode k10_ 11 = .ok (.lreturn, 1) := by decide +kernel
theorem ef_10 (m : MethodId) (q1 : Int64) (q2 : Int64) : entryFrame m #[(.long q1), (.long q2)] 4 = mkF m 0 #[.val (.long q1), .second, .val (.long q2), .second] [] := by first | (simp [entryFrame, mkF, argsToLocals, Value.category]; done) | rfl
def Q10 (Z : State) (q1 : Int64) (q2 : Int64) (h0 : Heap) (n0 : Nat) (v : Option Value) (h : Heap) (L : List Loc) : Prop := v = some (.long (F10 q1 q2)) ∧ Fr n0 L ∧ h = h0
set_option maxRecDepth 65536 in
set_option maxHeartbeats 40000000 in
theorem rm10 (l : Launch) (Z : State) (a0 : Array Value) (hw : HW a0 Z) (ws : List Jvm.Cond) (q1 : Int64) (q2 : Int64)  (h0 : Heap) (n0 : Nat) (Z0 : n0 ≤ h0.size)  :
    MetFree l mn_10 (head1 (Jvm.Cond.code mn_10 jdk_29_method_66_code 4 (some .long) :: ws) ({ frames := 0, cells := 0, slots := 0, locals := 0 } : Room)) (fun a U => a = #[(.long q1), (.long q2)] ∧ Z.Warmed39 U.vm ∧ U.heap = h0) (fun _ _ _ _ _ => True) (fun _ U o U' => ∃ v L, o = .returned v ∧ Q10 Z q1 q2 h0 n0 v U'.heap L ∧ FrameEnd U o U' L ({ frames := 0, cells := 0, slots := 0, locals := 0 } : Room).cells ({ frames := 0, cells := 0, slots := 0, locals := 0 } : Room).slots) := by
  refine MetFree.of_bodySF (Jvm.Free.JP.mathPlain rfl (by decide +kernel)) hisR ?_
  intro p e s m args below meth c s₁ Bd hml0 hP hK
  obtain ⟨rfl, hZ, hh⟩ := hP
  have hx := Bd.exec
  have hby := Bd.bytes
  have H := And.intro hx hby
  have hml : c.maxLocals = 4 := hml0
  have hown : s.vm.findClass "java/lang/Math" = some m.cls := findClass_of_methodNamed Bd.named
  have hnm := (name_of_methodNamed Bd.named Bd.method).1
  have X0 : Stand p l e ({ frames := 0, cells := 0, slots := 0, locals := 0 } : Room) s m #[(.long q1), (.long q2)] below meth c s₁ [] 0 0 := Stand.of_body Bd
  have e0 : s₁.heap = h0 := by rw [← hh, Bd.state]; rfl
  have N0 := Fr.nil n0
  suffices hG : OwnG p e below s (Q10 Z q1 q2 h0 n0) ({ frames := 0, cells := 0, slots := 0, locals := 0 } : Room).cells ({ frames := 0, cells := 0, slots := 0, locals := 0 } : Room).slots s₁ (mkF m 0 #[.val (.long q1), .second, .val (.long q2), .second] []) by
    obtain ⟨s2, o2, g1, g2⟩ := hG
    exact ⟨s2, o2, castTop (ef_10 m q1 q2) g1, g2⟩
  refine OwnG.st (y_lloadN X0 H d10_0 rfl) ?_
  refine OwnG.st (y_lloadN X0 H d10_1 rfl) ?_
  refine OwnG.st (y_lcmp X0 H d10_2) ?_
  by_cases hc3_51 : q1 < q2
  · refine OwnG.st (y_ifY X0 H 10 d10_3 ((if0 _ _).trans (tlt ((lw_lt q1 q2).mpr hc3_51)).1) (by decide) (by decide)) ?_
    refine OwnG.st (y_lloadN X0 H d10_10 rfl) ?_
    have hv : q2 = F10 q1 q2 := by simp only [F10, if_pos hc3_51]
    exact OwnG.retJ X0 hx Bd.returns (BodyLoose.notSynchronized Bd) (hb hby d10_11) ⟨congrArg (fun w => some (Value.long w)) hv, N0, e0⟩ (by decide) (by decide)
  · refine OwnG.st (y_ifN X0 H d10_3 ((if0 _ _).trans (flt (mt (lw_lt q1 q2).mp hc3_51)).1)) ?_
    refine OwnG.st (y_lloadN X0 H d10_6 rfl) ?_
    refine OwnG.st (y_goto X0 H 11 d10_7 (by decide) (by decide)) ?_
    have hv : q1 = F10 q1 q2 := by simp only [F10, if_neg hc3_51]
    exact OwnG.retJ X0 hx Bd.returns (BodyLoose.notSynchronized Bd) (hb hby d10_11) ⟨congrArg (fun w => some (Value.long w)) hv, N0, e0⟩ (by decide) (by decide)
def F15 (q1 : Int64) (q2 : Int64) : Int64 := (if q2 < q1 then q2 else q1)
theorem d15_0 : decode k15_ 0 = .ok (.lload_n 0, 1) := by decide +kernel
theorem d15_1 : decode k15_ 1 = .ok (.lload_n 2, 1) := by decide +kernel
theorem d15_2 : decode k15_ 2 = .ok (.lcmp, 1) := by decide +kernel
theorem d15_3 : decode k15_ 3 = .ok (.ifCond .gt 7, 3) := by decide +kernel
theorem d15_6 : decode k15_ 6 = .ok (.lload_n 0, 1) := by decide +kernel
theorem d15_7 : decode k15_ 7 = .ok (.goto 4, 3) := by decide +kernel
theorem d15_10 : decode k15_ 10 = .ok (.lload_n 2, 1) := by decide +kernel
theorem d15_11 : decode k15_ 11 = .ok (.lreturn, 1) := by decide +kernel
theorem ef_15 (m : MethodId) (q1 : Int64) (q2 : Int64) : entryFrame m #[(.long q1), (.long q2)] 4 = mkF m 0 #[.val (.long q1), .second, .val (.long q2), .second] [] := by first | (simp [entryFrame, mkF, argsToLocals, Value.category]; done) | rfl
def Q15 (Z : State) (q1 : Int64) (q2 : Int64) (h0 : Heap) (n0 : Nat) (v : Option Value) (h : Heap) (L : List Loc) : Prop := v = some (.long (F15 q1 q2)) ∧ Fr n0 L ∧ h = h0
set_option maxRecDepth 65536 in
set_option maxHeartbeats 40000000 in
theorem rm15 (l : Launch) (Z : State) (a0 : Array Value) (hw : HW a0 Z) (ws : List Jvm.Cond) (q1 : Int64) (q2 : Int64)  (h0 : Heap) (n0 : Nat) (Z0 : n0 ≤ h0.size)  :
    MetFree l mn_15 (head1 (Jvm.Cond.code mn_15 jdk_29_method_70_code 4 (some .long) :: ws) ({ frames := 0, cells := 0, slots := 0, locals := 0 } : Room)) (fun a U => a = #[(.long q1), (.long q2)] ∧ Z.Warmed39 U.vm ∧ U.heap = h0) (fun _ _ _ _ _ => True) (fun _ U o U' => ∃ v L, o = .returned v ∧ Q15 Z q1 q2 h0 n0 v U'.heap L ∧ FrameEnd U o U' L ({ frames := 0, cells := 0, slots := 0, locals := 0 } : Room).cells ({ frames := 0, cells := 0, slots := 0, locals := 0 } : Room).slots) := by
  refine MetFree.of_bodySF (Jvm.Free.JP.mathPlain rfl (by decide +kernel)) hisR ?_
  intro p e s m args below meth c s₁ Bd hml0 hP hK
  obtain ⟨rfl, hZ, hh⟩ := hP
  have hx := Bd.exec
  have hby := Bd.bytes
  have H := And.intro hx hby
  have hml : c.maxLocals = 4 := hml0
  have hown : s.vm.findClass "java/lang/Math" = some m.cls := findClass_of_methodNamed Bd.named
  have hnm := (name_of_methodNamed Bd.named Bd.method).1
  have X0 : Stand p l e ({ frames := 0, cells := 0, slots := 0, locals := 0 } : Room) s m #[(.long q1), (.long q2)] below meth c s₁ [] 0 0 := Stand.of_body Bd
  have e0 : s₁.heap = h0 := by rw [← hh, Bd.state]; rfl
  have N0 := Fr.nil n0
  suffices hG : OwnG p e below s (Q15 Z q1 q2 h0 n0) ({ frames := 0, cells := 0, slots := 0, locals := 0 } : Room).cells ({ frames := 0, cells := 0, slots := 0, locals := 0 } : Room).slots s₁ (mkF m 0 #[.val (.long q1), .second, .val (.long q2), .second] []) by
    obtain ⟨s2, o2, g1, g2⟩ := hG
    exact ⟨s2, o2, castTop (ef_15 m q1 q2) g1, g2⟩
  refine OwnG.st (y_lloadN X0 H d15_0 rfl) ?_
  refine OwnG.st (y_lloadN X0 H d15_1 rfl) ?_
  refine OwnG.st (y_lcmp X0 H d15_2) ?_
  by_cases hc3_51 : q2 < q1
  · refine OwnG.st (y_ifY X0 H 10 d15_3 ((if0 _ _).trans (tlt ((lw_gt q1 q2).mpr hc3_51)).2.2.1) (by decide) (by decide)) ?_
    refine OwnG.st (y_lloadN X0 H d15_10 rfl) ?_
    have hv : q2 = F15 q1 q2 := by simp only [F15, if_pos hc3_51]
    exact OwnG.retJ X0 hx Bd.returns (BodyLoose.notSynchronized Bd) (hb hby d15_11) ⟨congrArg (fun w => some (Value.long w)) hv, N0, e0⟩ (by decide) (by decide)
  · refine OwnG.st (y_ifN X0 H d15_3 ((if0 _ _).trans (flt (mt (lw_gt q1 q2).mp hc3_51)).2.2.1)) ?_
    refine OwnG.st (y_lloadN X0 H d15_6 rfl) ?_
    refine OwnG.st (y_goto X0 H 11 d15_7 (by decide) (by decide)) ?_
    have hv : q1 = F15 q1 q2 := by simp only [F15, if_neg hc3_51]
    exact OwnG.retJ X0 hx Bd.returns (BodyLoose.notSynchronized Bd) (hb hby d15_11) ⟨congrArg (fun w => some (Value.long w)) hv, N0, e0⟩ (by decide) (by decide)
def F17 (p1 : Int32) (p2 : Int32) : Int32 := (if p2 < p1 then p2 else p1)
theorem d17_0 : decode k17_ 0 = .ok (.iload_n 0, 1) := by decide +kernel
theorem d17_1 : decode k17_ 1 = .ok (.iload_n 1, 1) := by decide +kernel
theorem d17_2 : decode k17_ 2 = .ok (.if_icmp .gt 7, 3) := by decide +kernel
theorem d17_5 : decode k17_ 5 = .ok (.iload_n 0, 1) := by decide +kernel
theorem d17_6 : decode k17_ 6 = .ok (.goto 4, 3) := by decide +kernel
theorem d17_9 : decode k17_ 9 = .ok (.iload_n 1, 1) := by decide +kernel
theorem d17_10 : decode k17_ 10 = .ok (.ireturn, 1) := by decide +kernel
theorem ef_17 (m : MethodId) (p1 : Int32) (p2 : Int32) : entryFrame m #[(.int p1), (.int p2)] 2 = mkF m 0 #[.val (.int p1), .val (.int p2)] [] := by first | (simp [entryFrame, mkF, argsToLocals, Value.category]; done) | rfl
def Q17 (Z : State) (p1 : Int32) (p2 : Int32) (h0 : Heap) (n0 : Nat) (v : Option Value) (h : Heap) (L : List Loc) : Prop := v = some (.int (F17 p1 p2)) ∧ Fr n0 L ∧ h = h0
set_option maxRecDepth 65536 in
set_option maxHeartbeats 40000000 in
theorem rm17 (l : Launch) (Z : State) (a0 : Array Value) (hw : HW a0 Z) (ws : List Jvm.Cond) (p1 : Int32) (p2 : Int32)  (h0 : Heap) (n0 : Nat) (Z0 : n0 ≤ h0.size)  :
    MetFree l mn_17 (head1 (Jvm.Cond.code mn_17 jdk_29_method_69_code 2 (some .int) :: ws) ({ frames := 0, cells := 0, slots := 0, locals := 0 } : Room)) (fun a U => a = #[(.int p1), (.int p2)] ∧ Z.Warmed39 U.vm ∧ U.heap = h0) (fun _ _ _ _ _ => True) (fun _ U o U' => ∃ v L, o = .returned v ∧ Q17 Z p1 p2 h0 n0 v U'.heap L ∧ FrameEnd U o U' L ({ frames := 0, cells := 0, slots := 0, locals := 0 } : Room).cells ({ frames := 0, cells := 0, slots := 0, locals := 0 } : Room).slots) := by
  refine MetFree.of_bodySF (Jvm.Free.JP.mathPlain rfl (by decide +kernel)) hisR ?_
  intro p e s m args below meth c s₁ Bd hml0 hP hK
  obtain ⟨rfl, hZ, hh⟩ := hP
  have hx := Bd.exec
  have hby := Bd.bytes
  have H := And.intro hx hby
  have hml : c.maxLocals = 2 := hml0
  have hown : s.vm.findClass "java/lang/Math" = some m.cls := findClass_of_methodNamed Bd.named
  have hnm := (name_of_methodNamed Bd.named Bd.method).1
  have X0 : Stand p l e ({ frames := 0, cells := 0, slots := 0, locals := 0 } : Room) s m #[(.int p1), (.int p2)] below meth c s₁ [] 0 0 := Stand.of_body Bd
  have e0 : s₁.heap = h0 := by rw [← hh, Bd.state]; rfl
  have N0 := Fr.nil n0
  suffices hG : OwnG p e below s (Q17 Z p1 p2 h0 n0) ({ frames := 0, cells := 0, slots := 0, locals := 0 } : Room).cells ({ frames := 0, cells := 0, slots := 0, locals := 0 } : Room).slots s₁ (mkF m 0 #[.val (.int p1), .val (.int p2)] []) by
    obtain ⟨s2, o2, g1, g2⟩ := hG
    exact ⟨s2, o2, castTop (ef_17 m p1 p2) g1, g2⟩
  refine OwnG.st (y_iloadN X0 H d17_0 rfl) ?_
  refine OwnG.st (y_iloadN X0 H d17_1 rfl) ?_
  by_cases hc2_51 : p2 < p1
  · refine OwnG.st (y_icY X0 H 9 d17_2 (tlt hc2_51).2.2.1 (by decide) (by decide)) ?_
    refine OwnG.st (y_iloadN X0 H d17_9 rfl) ?_
    have hv : p2 = F17 p1 p2 := by simp only [F17, if_pos hc2_51]
    exact OwnG.retI X0 hx Bd.returns (BodyLoose.notSynchronized Bd) (hb hby d17_10) ⟨congrArg (fun w => some (Value.int w)) hv, N0, e0⟩ (by decide) (by decide)
  · refine OwnG.st (y_icN X0 H d17_2 (flt hc2_51).2.2.1) ?_
    refine OwnG.st (y_iloadN X0 H d17_5 rfl) ?_
    refine OwnG.st (y_goto X0 H 10 d17_6 (by decide) (by decide)) ?_
    have hv : p1 = F17 p1 p2 := by simp only [F17, if_neg hc2_51]
    exact OwnG.retI X0 hx Bd.returns (BodyLoose.notSynchronized Bd) (hb hby d17_10) ⟨congrArg (fun w => some (Value.int w)) hv, N0, e0⟩ (by decide) (by decide)
theorem own_min (x y : Int64) : (F15 x y).toInt = min x.toInt y.toInt := by
  unfold F15
  split
  · rename_i c; rw [Int64.lt_iff_toInt_lt] at c; omega
  · rename_i c; rw [Int64.lt_iff_toInt_lt] at c; omega
theorem own_max (x y : Int64) : (F10 x y).toInt = max x.toInt y.toInt := by
  unfold F10
  split
  · rename_i c; rw [Int64.lt_iff_toInt_lt] at c; omega
  · rename_i c; rw [Int64.lt_iff_toInt_lt] at c; omega
theorem own_mini (x y : Int32) : (F17 x y).toInt = min x.toInt y.toInt := by
  unfold F17
  split
  · rename_i c; rw [Int32.lt_iff_toInt_lt] at c; omega
  · rename_i c; rw [Int32.lt_iff_toInt_lt] at c; omega
theorem own_avail (u : Int64) (w : Int32) (hu : 0 ≤ u.toInt ∧ u.toInt ≤ 100000) (h4 : w = 1 ∨ w = 4) : (1000 : Int) ≤ (((1099511627776 : Int64) - u) / w.toInt64).toInt ∧ w.toInt64 ≠ 0 ∧ (w.toInt = 1 ∨ w.toInt = 4) := by
  have e : (1099511627776 : Int64).toInt = 1099511627776 := rfl
  have a := x_lsub (1099511627776 : Int64) u (by omega)
  rcases h4 with rfl | rfl
  · have d := (c_ldiv ((1099511627776 : Int64) - u) ((1 : Int32).toInt64) 1 rfl (by decide)).1 (by omega)
    exact ⟨by omega, by decide, Or.inl rfl⟩
  · have d := (c_ldiv ((1099511627776 : Int64) - u) ((4 : Int32).toInt64) 4 rfl (by decide)).1 (by omega)
    exact ⟨by omega, by decide, Or.inr rfl⟩
theorem own_take (z q : Int64) (l : Int32) (hz : (1000 : Int) ≤ z.toInt) (hl : 0 ≤ l.toInt ∧ l.toInt ≤ 100) (hq : 0 ≤ q.toInt ∧ q.toInt ≤ 200) : (F15 (F15 z (2147483639 : Int64)) (F10 q ((2 : Int64) * l.toInt64))).toInt = max q.toInt (2 * l.toInt) := by
  have e : (2147483639 : Int64).toInt = 2147483639 := rfl
  have a := c_i2l l
  have b := x_lmul 2 l.toInt64 (2 * l.toInt) (by rw [a]; rfl) (by omega)
  rw [own_min, own_min, own_max, b, e]
  omega
theorem own_used (u z : Int64) (l w : Int32) (hu : 0 ≤ u.toInt ∧ u.toInt ≤ 100000) (hw : w.toInt = 1 ∨ w.toInt = 4) (hl : 0 ≤ l.toInt ∧ l.toInt ≤ 100) (hz : l.toInt ≤ z.toInt ∧ z.toInt ≤ 400) : u.toInt ≤ (u + (z - l.toInt64) * w.toInt64).toInt ∧ (u + (z - l.toInt64) * w.toInt64).toInt ≤ u.toInt + 4 * z.toInt := by
  have a := c_i2l l
  have b := c_i2l w
  have c := x_lsub z l.toInt64 (by omega)
  rcases hw with hw | hw
  · have d := x_lmul (z - l.toInt64) w.toInt64 (z.toInt - l.toInt) (by rw [c, b, hw, a]; omega) (by omega)
    have f := x_ladd u ((z - l.toInt64) * w.toInt64) (by omega)
    omega
  · have d := x_lmul (z - l.toInt64) w.toInt64 (4 * (z.toInt - l.toInt)) (by rw [c, b, hw, a]; omega) (by omega)
    have f := x_ladd u ((z - l.toInt64) * w.toInt64) (by omega)
    omega
theorem d14_0 : decode k14_ 0 = .ok (.lload_n 2, 1) := by decide +kernel
theorem d14_1 : decode k14_ 1 = .ok (.ldc2_w 56, 3) := by decide +kernel
theorem d14_4 : decode k14_ 4 = .ok (.lcmp, 1) := by decide +kernel
theorem d14_5 : decode k14_ 5 = .ok (.ifCond .le 7, 3) := by decide +kernel
theorem d14_12 : decode k14_ 12 = .ok (.aload_n 0, 1) := by decide +kernel
theorem d14_13 : decode k14_ 13 = .ok (.getfield 9, 3) := by decide +kernel
theorem d14_16 : decode k14_ 16 = .ok (.aload_n 0, 1) := by decide +kernel
theorem d14_17 : decode k14_ 17 = .ok (.getfield 64, 3) := by decide +kernel
theorem d14_20 : decode k14_ 20 = .ok (.lsub, 1) := by decide +kernel
theorem d14_21 : decode k14_ 21 = .ok (.iload 4, 2) := by decide +kernel
theorem d14_23 : decode k14_ 23 = .ok (.i2l, 1) := by decide +kernel
theorem d14_24 : decode k14_ 24 = .ok (.ldiv, 1) := by decide +kernel
theorem d14_25 : decode k14_ 25 = .ok (.lstore 5, 2) := by decide +kernel
theorem d14_27 : decode k14_ 27 = .ok (.lload 5, 2) := by decide +kernel
theorem d14_29 : decode k14_ 29 = .ok (.lload_n 2, 1) := by decide +kernel
theorem d14_30 : decode k14_ 30 = .ok (.lcmp, 1) := by decide +kernel
theorem d14_31 : decode k14_ 31 = .ok (.ifCond .ge 8, 3) := by decide +kernel
theorem d14_39 : decode k14_ 39 = .ok (.lload 5, 2) := by decide +kernel
theorem d14_41 : decode k14_ 41 = .ok (.ldc2_w 56, 3) := by decide +kernel
theorem d14_44 : decode k14_ 44 = .ok (.invokestatic 70, 3) := by decide +kernel
theorem d14_47 : decode k14_ 47 = .ok (.lload_n 2, 1) := by decide +kernel
theorem d14_48 : decode k14_ 48 = .ok (.ldc2_w 29, 3) := by decide +kernel
theorem d14_51 : decode k14_ 51 = .ok (.iload_n 1, 1) := by decide +kernel
theorem d14_52 : decode k14_ 52 = .ok (.i2l, 1) := by decide +kernel
theorem d14_53 : decode k14_ 53 = .ok (.lmul, 1) := by decide +kernel
theorem d14_54 : decode k14_ 54 = .ok (.invokestatic 76, 3) := by decide +kernel
theorem d14_57 : decode k14_ 57 = .ok (.invokestatic 70, 3) := by decide +kernel
theorem d14_60 : decode k14_ 60 = .ok (.lstore 7, 2) := by decide +kernel
theorem d14_62 : decode k14_ 62 = .ok (.aload_n 0, 1) := by decide +kernel
theorem d14_63 : decode k14_ 63 = .ok (.dup, 1) := by decide +kernel
theorem d14_64 : decode k14_ 64 = .ok (.getfield 64, 3) := by decide +kernel
theorem d14_67 : decode k14_ 67 = .ok (.lload 7, 2) := by decide +kernel
theorem d14_69 : decode k14_ 69 = .ok (.iload_n 1, 1) := by decide +kernel
theorem d14_70 : decode k14_ 70 = .ok (.i2l, 1) := by decide +kernel
theorem d14_71 : decode k14_ 71 = .ok (.lsub, 1) := by decide +kernel
theorem d14_72 : decode k14_ 72 = .ok (.iload 4, 2) := by decide +kernel
theorem d14_74 : decode k14_ 74 = .ok (.i2l, 1) := by decide +kernel
theorem d14_75 : decode k14_ 75 = .ok (.lmul, 1) := by decide +kernel
theorem d14_76 : decode k14_ 76 = .ok (.ladd, 1) := by decide +kernel
theorem d14_77 : decode k14_ 77 = .ok (.putfield 64, 3) := by decide +kernel
theorem d14_80 : decode k14_ 80 = .ok (.lload 7, 2) := by decide +kernel
theorem d14_82 : decode k14_ 82 = .ok (.l2i, 1) := by decide +kernel
theorem d14_83 : decode k14_ 83 = .ok (.ireturn, 1) := by decide +kernel
theorem pn_14 : plainName "com/example/deft_nets/deftnets/MemoryBudget" = true := by first | (simp [plainName, overriddenIn]; done) | decide +kernel
theorem pd_14_0 : parseMethodDescriptor "(JJ)J" = some ⟨[.long, .long], some .long⟩ := by decide +kernel
theorem ef_14 (m : MethodId) (a1 : Addr) (p2 : Int32) (q3 : Int64) (p4 : Int32) : entryFrame m #[(.ref a1), (.int p2), (.long q3), (.int p4)] 9 = mkF m 0 #[.val (.ref a1), .val (.int p2), .val (.long q3), .second, .val (.int p4), .unset, .unset, .unset, .unset] [] := by first | (simp [entryFrame, mkF, argsToLocals, Value.category]; done) | rfl
def Q14 (Z : State) (a1 : Addr) (p2 : Int32) (q3 : Int64) (p4 : Int32) (used : Int64) (h0 : Heap) (n0 : Nat) (v : Option Value) (h : Heap) (L : List Loc) : Prop := ∃ (r : Int32) (u' : Int64), v = some (.int r) ∧ Fr n0 L ∧ Keep h0 h [a1] ∧ BG Z h a1 u' ∧ r.toInt = max q3.toInt (2 * p2.toInt) ∧ used.toInt ≤ u'.toInt ∧ u'.toInt ≤ used.toInt + 4 * r.toInt
set_option maxRecDepth 65536 in
set_option maxHeartbeats 40000000 in
theorem rm14 (l : Launch) (Z : State) (a0 : Array Value) (hw : HW a0 Z) (ws : List Jvm.Cond) (a1 : Addr) (p2 : Int32) (q3 : Int64) (p4 : Int32) (used : Int64) (h0 : Heap) (n0 : Nat) (Z0 : n0 ≤ h0.size) (gb_a1 : n0 ≤ a1) (hB : BG Z h0 a1 used) (hu : 0 ≤ used.toInt ∧ used.toInt ≤ 100000) (h2 : 0 ≤ p2.toInt ∧ p2.toInt ≤ 100) (h3 : 0 ≤ q3.toInt ∧ q3.toInt ≤ 200) (h4 : p4 = 1 ∨ p4 = 4) :
    MetFree l mn_14 (head1 (Jvm.Cond.code mn_14 prog_34_method_9_code 9 (some .int) :: ws) ({ frames := 1, cells := 0, slots := 0, locals := 17 } : Room)) (fun a U => a = #[(.ref a1), (.int p2), (.long q3), (.int p4)] ∧ Z.Warmed39 U.vm ∧ U.heap = h0) (fun _ _ _ _ _ => True) (fun _ U o U' => ∃ v L, o = .returned v ∧ Q14 Z a1 p2 q3 p4 used h0 n0 v U'.heap L ∧ FrameEnd U o U' L ({ frames := 1, cells := 0, slots := 0, locals := 17 } : Room).cells ({ frames := 1, cells := 0, slots := 0, locals := 17 } : Room).slots) := by
  refine MetFree.of_bodySF (plainFor_of_name pn_14) hisR ?_
  intro p e s m args below meth c s₁ Bd hml0 hP hK
  obtain ⟨rfl, hZ, hh⟩ := hP
  have hx := Bd.exec
  have hby := Bd.bytes
  have H := And.intro hx hby
  have hml : c.maxLocals = 9 := hml0
  have hown : s.vm.findClass "com/example/deft_nets/deftnets/MemoryBudget" = some m.cls := findClass_of_methodNamed Bd.named
  have hnm := (name_of_methodNamed Bd.named Bd.method).1
  have X0 : Stand p l e ({ frames := 1, cells := 0, slots := 0, locals := 17 } : Room) s m #[(.ref a1), (.int p2), (.long q3), (.int p4)] below meth c s₁ [] 0 0 := Stand.of_body Bd
  have e0 : s₁.heap = h0 := by rw [← hh, Bd.state]; rfl
  have N0 := Fr.nil n0
  suffices hG : OwnG p e below s (Q14 Z a1 p2 q3 p4 used h0 n0) ({ frames := 1, cells := 0, slots := 0, locals := 17 } : Room).cells ({ frames := 1, cells := 0, slots := 0, locals := 17 } : Room).slots s₁ (mkF m 0 #[.val (.ref a1), .val (.int p2), .val (.long q3), .second, .val (.int p4), .unset, .unset, .unset, .unset] []) by
    obtain ⟨s2, o2, g1, g2⟩ := hG
    exact ⟨s2, o2, castTop (ef_14 m a1 p2 q3 p4) g1, g2⟩
  obtain ⟨EBG_51, FBG0_51, FBG1_51⟩ := hB
  have hc5_52 : ¬ ((2147483639 : Int64) < q3) := by rw [Int64.lt_iff_toInt_lt]; show ¬ (2147483639 : Int) < _; omega
  refine OwnG.st (y_lloadN X0 H d14_0 rfl) ?_
  refine OwnG.st (y_ldc2 X0 H hown (mvT hZ (ww hw 90 rfl)) d14_1) ?_
  refine OwnG.st (y_lcmp X0 H d14_4) ?_
  refine OwnG.st (y_ifY X0 H 12 d14_5 ((if0 _ _).trans (flt (mt (lw_gt q3 (2147483639 : Int64)).mp hc5_52)).2.2.2) (by decide) (by decide)) ?_
  have hav := own_avail used p4 hu h4
  refine OwnG.st (y_aloadN X0 H d14_12 rfl) ?_
  refine OwnG.v1 16 (getF X0 hx hZ hown (host := "") (Or.inl (ww hw 29 rfl)) Via.refl e0 FBG0_51 (g := mkF m 13 _ _) rfl rfl (hb hby d14_13)) ?_
  intro T53 X53 e53
  refine OwnG.st (y_aloadN X53 H d14_16 rfl) ?_
  refine OwnG.v1 20 (getF X53 hx hZ hown (host := "") (Or.inl (ww hw 92 rfl)) Via.refl e53 FBG1_51 (g := mkF m 17 _ _) rfl rfl (hb hby d14_17)) ?_
  intro T54 X54 e54
  refine OwnG.st (y_lsub X54 H d14_20) ?_
  refine OwnG.st (y_iload X54 H d14_21 rfl) ?_
  refine OwnG.st (y_i2l X54 H d14_23) ?_
  refine OwnG.st (y_ldiv X54 H d14_24 hav.2.1) ?_
  refine OwnG.st (y_lstore X54 H #[.val (.ref a1), .val (.int p2), .val (.long q3), .second, .val (.int p4), .val (.long (((1099511627776 : Int64) - used) / (p4.toInt64))), .second, .unset, .unset] d14_25 rfl) ?_
  show OwnG p e below s _ _ _ T54 (mkF m 27 #[.val (.ref a1), .val (.int p2), .val (.long q3), .second, .val (.int p4), .val (.long (((1099511627776 : Int64) - used) / (p4.toInt64))), .second, .unset, .unset] [])
  obtain ⟨z5_55, hz5_55⟩ : ∃ w : Int64, w = (((1099511627776 : Int64) - used) / (p4.toInt64)) := ⟨_, rfl⟩
  rw [← hz5_55]
  have hz5 : (1000 : Int) ≤ z5_55.toInt := by rw [hz5_55]; exact hav.1
  have hc31_56 : ¬ (z5_55 < q3) := by rw [Int64.lt_iff_toInt_lt]; omega
  refine OwnG.st (y_lload X54 H d14_27 rfl) ?_
  refine OwnG.st (y_lloadN X54 H d14_29 rfl) ?_
  refine OwnG.st (y_lcmp X54 H d14_30) ?_
  refine OwnG.st (y_ifY X54 H 39 d14_31 ((if0 _ _).trans (flt (mt (lw_lt z5_55 q3).mp hc31_56)).2.1) (by decide) (by decide)) ?_
  refine OwnG.st (y_lload X54 H d14_39 rfl) ?_
  refine OwnG.st (y_ldc2 X54 H hown (mvT hZ (ww hw 90 rfl)) d14_41) ?_
  refine OwnG.cl 47 0 0 X54 (Jvm.LawKit.callS X54 hx (y := mn_15) hown (mvT hZ (ww hw 114 rfl)) (mvT hZ (ww hw 115 rfl)) (mvT hZ (ww hw 4 rfl)) (mvT hZ (ww hw 116 rfl)) (by decide) (backOf (W := 0) (rm15 l Z a0 hw [] z5_55 (2147483639 : Int64)  h0 n0 Z0 ) hZ (ww hw 116 rfl) (ww hw 4 rfl) (by decide) (by decide)) (g := mkF m 44 _ _) rfl (by rw [hml]; rfl) (argsL := [(.long z5_55), (.long (2147483639 : Int64))]) (rest := []) (lenOf pd_14_0 rfl) rfl (by show 2 * 0 + _ ≤ _; exact Nat.le_of_eq rfl) (hb hby d14_44) (fun _ _ => ⟨rfl, e54, (by decide : 0 + 0 ≤ _), (by decide : 0 + 0 ≤ _)⟩)) rfl rfl ?_
  intro T57 Lc57 vc57 X57 hQ57
  obtain ⟨hv57, N57q, e57⟩ := hQ57
  have N57 := Fr.app N0 N57q
  refine OwnG.cv hv57 ?_
  clear hv57
  refine OwnG.st (y_lloadN X57 H d14_47 rfl) ?_
  refine OwnG.st (y_ldc2 X57 H hown (mvT hZ (ww hw 117 rfl)) d14_48) ?_
  refine OwnG.st (y_iloadN X57 H d14_51 rfl) ?_
  refine OwnG.st (y_i2l X57 H d14_52) ?_
  refine OwnG.st (y_lmul X57 H d14_53) ?_
  refine OwnG.cl 57 0 0 X57 (Jvm.LawKit.callS X57 hx (y := mn_10) hown (mvT hZ (ww hw 118 rfl)) (mvT hZ (ww hw 83 rfl)) (mvT hZ (ww hw 4 rfl)) (mvT hZ (ww hw 84 rfl)) (by decide) (backOf (W := 2) (rm10 l Z a0 hw [] q3 ((2 : Int64) * (p2.toInt64))  h0 n0 Z0 ) hZ (ww hw 84 rfl) (ww hw 4 rfl) (by decide) (by decide)) (g := mkF m 54 _ _) rfl (by rw [hml]; rfl) (argsL := [(.long q3), (.long ((2 : Int64) * (p2.toInt64)))]) (rest := [(.long (F15 z5_55 (2147483639 : Int64)))]) (lenOf pd_14_0 rfl) rfl (by show 2 * 0 + _ ≤ _; exact Nat.le_of_eq rfl) (hb hby d14_54) (fun _ _ => ⟨rfl, e57, (by decide : 0 + 0 ≤ _), (by decide : 0 + 0 ≤ _)⟩)) rfl rfl ?_
  intro T58 Lc58 vc58 X58 hQ58
  obtain ⟨hv58, N58q, e58⟩ := hQ58
  have N58 := Fr.app N57 N58q
  refine OwnG.cv hv58 ?_
  clear hv58
  refine OwnG.cl 60 0 0 X58 (Jvm.LawKit.callS X58 hx (y := mn_15) hown (mvT hZ (ww hw 114 rfl)) (mvT hZ (ww hw 115 rfl)) (mvT hZ (ww hw 4 rfl)) (mvT hZ (ww hw 116 rfl)) (by decide) (backOf (W := 0) (rm15 l Z a0 hw [] (F15 z5_55 (2147483639 : Int64)) (F10 q3 ((2 : Int64) * (p2.toInt64)))  h0 n0 Z0 ) hZ (ww hw 116 rfl) (ww hw 4 rfl) (by decide) (by decide)) (g := mkF m 57 _ _) rfl (by rw [hml]; rfl) (argsL := [(.long (F15 z5_55 (2147483639 : Int64))), (.long (F10 q3 ((2 : Int64) * (p2.toInt64))))]) (rest := []) (lenOf pd_14_0 rfl) rfl (by show 2 * 0 + _ ≤ _; exact Nat.le_of_eq rfl) (hb hby d14_57) (fun _ _ => ⟨rfl, e58, (by decide : 0 + 0 ≤ _), (by decide : 0 + 0 ≤ _)⟩)) rfl rfl ?_
  intro T59 Lc59 vc59 X59 hQ59
  obtain ⟨hv59, N59q, e59⟩ := hQ59
  have N59 := Fr.app N58 N59q
  refine OwnG.cv hv59 ?_
  clear hv59
  refine OwnG.st (y_lstore X59 H #[.val (.ref a1), .val (.int p2), .val (.long q3), .second, .val (.int p4), .val (.long z5_55), .second, .val (.long (F15 (F15 z5_55 (2147483639 : Int64)) (F10 q3 ((2 : Int64) * (p2.toInt64))))), .second] d14_60 rfl) ?_
  show OwnG p e below s _ _ _ T59 (mkF m 62 #[.val (.ref a1), .val (.int p2), .val (.long q3), .second, .val (.int p4), .val (.long z5_55), .second, .val (.long (F15 (F15 z5_55 (2147483639 : Int64)) (F10 q3 ((2 : Int64) * (p2.toInt64))))), .second] [])
  obtain ⟨z7_60, hz7_60⟩ : ∃ w : Int64, w = (F15 (F15 z5_55 (2147483639 : Int64)) (F10 q3 ((2 : Int64) * (p2.toInt64)))) := ⟨_, rfl⟩
  rw [← hz7_60]
  have hz7 : z7_60.toInt = max q3.toInt (2 * p2.toInt) := by rw [hz7_60]; exact own_take _ _ _ hz5 h2 h3
  have hus := own_used used z7_60 p2 p4 hu hav.2.2 h2 (by omega)
  have hr7 := x_l2i z7_60 (by omega)
  refine OwnG.st (y_aloadN X59 H d14_62 rfl) ?_
  refine OwnG.st (y_dup X59 H d14_63 rfl) ?_
  refine OwnG.v1 67 (getF X59 hx hZ hown (host := "") (Or.inl (ww hw 92 rfl)) Via.refl e59 FBG1_51 (g := mkF m 64 _ _) rfl rfl (hb hby d14_64)) ?_
  intro T61 X61 e61
  refine OwnG.st (y_lload X61 H d14_67 rfl) ?_
  refine OwnG.st (y_iloadN X61 H d14_69 rfl) ?_
  refine OwnG.st (y_i2l X61 H d14_70) ?_
  refine OwnG.st (y_lsub X61 H d14_71) ?_
  refine OwnG.st (y_iload X61 H d14_72 rfl) ?_
  refine OwnG.st (y_i2l X61 H d14_74) ?_
  refine OwnG.st (y_lmul X61 H d14_75) ?_
  refine OwnG.st (y_ladd X61 H d14_76) ?_
  refine OwnG.v2 80 (putF X61 hx hZ hown (host := "") (Or.inl (ww hw 92 rfl)) Via.refl e61 FBG1_51 EBG_51 (Or.inl (ww hw 93 rfl)) (ww hw 12 rfl) (ty := .long) (by decide) rfl rfl (g := mkF m 77 _ _) rfl rfl (hb hby d14_77)) ?_
  intro T62 h62 X62 e62 W62
  have f63 := Exa.wr W62 EBG_51
  have f64 := Fld.other W62 FBG0_51 (Or.inr (sn_0 hw))
  have Fw62 : Fld Z h62 a1 "com/example/deft_nets/deftnets/MemoryBudget" "mUsed" "J" (.long (used + ((z7_60 - (p2.toInt64)) * (p4.toInt64)))) := Fld.same W62 FBG1_51
  have N62 := Fr.snoc X62 N59 gb_a1
  have K62 : Keep h0 h62 [a1] := (Keep.refl h0 [a1]).wr W62 (Or.inl (List.mem_of_getElem? (i := 0) rfl))
  refine OwnG.st (y_lload X62 H d14_80 rfl) ?_
  refine OwnG.st (y_l2i X62 H d14_82) ?_
  exact OwnG.retI X62 hx Bd.returns (BodyLoose.notSynchronized Bd) (hb hby d14_83) (by rw [e62]; exact ⟨_, _, rfl, N62, K62, ⟨f63, f64, Fw62⟩, by rw [hr7]; exact hz7, hus.1, by rw [hr7]; exact hus.2⟩) (by decide) (by decide)
theorem own_z0 : Byt (fun _ => (0 : Int32)) := fun _ => (by decide : -128 ≤ (0 : Int32).toInt ∧ (0 : Int32).toInt ≤ 127)
theorem own_t32 (n : Nat) (h : n < 2147483648) : (n.toInt32).toInt = n := own_i32 n h
theorem own_t64 (n : Nat) (h : n < 2147483648) : (n.toInt32.toInt64).toInt = n := (c_i2l _).trans (own_t32 n h)
theorem own_nlt (z : Int32) (h : 0 ≤ z.toInt) : ¬ z < 0 := by rw [Int32.lt_iff_toInt_lt]; show ¬ z.toInt < 0; omega
theorem own_cle (z : Int32) (k : Nat) (h : z.toInt ≤ k) : z.toNatClampNeg ≤ k := by show z.toInt.toNat ≤ k; omega
theorem own_tn (z : Int32) (h : 0 ≤ z.toInt) : z.toInt = (z.toInt.toNat : Nat) := by omega
theorem own_cmin (n : Nat) (z : Int32) (h : (n : Int) < z.toInt) : (F17 n.toInt32 z).toInt = n := by
  have r := rng32 z
  have a := own_t32 n (by omega)
  rw [own_mini, a]; omega
theorem d16_0 : decode k16_ 0 = .ok (.iload_n 1, 1) := by decide +kernel
theorem d16_1 : decode k16_ 1 = .ok (.aload_n 0, 1) := by decide +kernel
theorem d16_2 : decode k16_ 2 = .ok (.arraylength, 1) := by decide +kernel
theorem d16_3 : decode k16_ 3 = .ok (.if_icmp .ne 11, 3) := by decide +kernel
theorem d16_14 : decode k16_ 14 = .ok (.iload_n 1, 1) := by decide +kernel
theorem d16_15 : decode k16_ 15 = .ok (.newarray .int, 2) := by decide +kernel
theorem d16_17 : decode k16_ 17 = .ok (.astore_n 2, 1) := by decide +kernel
theorem d16_18 : decode k16_ 18 = .ok (.aload_n 0, 1) := by decide +kernel
theorem d16_19 : decode k16_ 19 = .ok (.iconst 0, 1) := by decide +kernel
theorem d16_20 : decode k16_ 20 = .ok (.aload_n 2, 1) := by decide +kernel
theorem d16_21 : decode k16_ 21 = .ok (.iconst 0, 1) := by decide +kernel
theorem d16_22 : decode k16_ 22 = .ok (.aload_n 0, 1) := by decide +kernel
theorem d16_23 : decode k16_ 23 = .ok (.arraylength, 1) := by decide +kernel
theorem d16_24 : decode k16_ 24 = .ok (.iload_n 1, 1) := by decide +kernel
theorem d16_25 : decode k16_ 25 = .ok (.invokestatic 304, 3) := by decide +kernel
theorem d16_28 : decode k16_ 28 = .ok (.invokestatic 150, 3) := by decide +kernel
theorem d16_31 : decode k16_ 31 = .ok (.aload_n 2, 1) := by decide +kernel
theorem d16_32 : decode k16_ 32 = .ok (.areturn, 1) := by decide +kernel
theorem pn_16 : plainName "java/util/Arrays" = true := by first | (simp [plainName, overriddenIn]; done) | decide +kernel
theorem pd_16_0 : parseMethodDescriptor "(II)I" = some ⟨[.int, .int], some .int⟩ := by decide +kernel
theorem ef_16 (m : MethodId) (a1 : Addr) (p2 : Int32) : entryFrame m #[(.ref a1), (.int p2)] 3 = mkF m 0 #[.val (.ref a1), .val (.int p2), .unset] [] := by first | (simp [entryFrame, mkF, argsToLocals, Value.category]; done) | rfl
def Q16 (Z : State) (a1 : Addr) (p2 : Int32) (nA : Nat) (g : Nat → Int32) (h0 : Heap) (n0 : Nat) (v : Option Value) (h : Heap) (L : List Loc) : Prop := ∃ x : Addr, v = some (.ref x) ∧ Fr n0 L ∧ Keep h0 h [] ∧ h0.size ≤ x ∧ OwnA Z h x .int p2.toInt.toNat (iv' (cpv g (fun _ => 0) 0 0 nA))
set_option maxRecDepth 65536 in
set_option maxHeartbeats 40000000 in
theorem rm16 (l : Launch) (Z : State) (a0 : Array Value) (hw : HW a0 Z) (ws : List Jvm.Cond) (a1 : Addr) (p2 : Int32) (nA : Nat) (g : Nat → Int32) (h0 : Heap) (n0 : Nat) (Z0 : n0 ≤ h0.size) (A_a1 : OwnA Z h0 a1 .int nA (iv' g)) (hlt : (nA : Int) < p2.toInt) (hle : p2.toInt ≤ 100) :
    MetFree l mn_16 (head1 (Jvm.Cond.code mn_16 jdk_65_method_123_code 3 (some (.array .int)) :: ws) ({ frames := 1, cells := 1, slots := 100, locals := 30 } : Room)) (fun a U => a = #[(.ref a1), (.int p2)] ∧ Z.Warmed39 U.vm ∧ U.heap = h0) (fun _ _ _ _ _ => True) (fun _ U o U' => ∃ v L, o = .returned v ∧ Q16 Z a1 p2 nA g h0 n0 v U'.heap L ∧ FrameEnd U o U' L ({ frames := 1, cells := 1, slots := 100, locals := 30 } : Room).cells ({ frames := 1, cells := 1, slots := 100, locals := 30 } : Room).slots) := by
  refine MetFree.of_bodySF (plainFor_of_name pn_16) hisR ?_
  intro p e s m args below meth c s₁ Bd hml0 hP hK
  obtain ⟨rfl, hZ, hh⟩ := hP
  have hx := Bd.exec
  have hby := Bd.bytes
  have H := And.intro hx hby
  have hml : c.maxLocals = 3 := hml0
  have hown : s.vm.findClass "java/util/Arrays" = some m.cls := findClass_of_methodNamed Bd.named
  have hnm := (name_of_methodNamed Bd.named Bd.method).1
  have X0 : Stand p l e ({ frames := 1, cells := 1, slots := 100, locals := 30 } : Room) s m #[(.ref a1), (.int p2)] below meth c s₁ [] 0 0 := Stand.of_body Bd
  have e0 : s₁.heap = h0 := by rw [← hh, Bd.state]; rfl
  have N0 := Fr.nil n0
  suffices hG : OwnG p e below s (Q16 Z a1 p2 nA g h0 n0) ({ frames := 1, cells := 1, slots := 100, locals := 30 } : Room).cells ({ frames := 1, cells := 1, slots := 100, locals := 30 } : Room).slots s₁ (mkF m 0 #[.val (.ref a1), .val (.int p2), .unset] []) by
    obtain ⟨s2, o2, g1, g2⟩ := hG
    exact ⟨s2, o2, castTop (ef_16 m a1 p2) g1, g2⟩
  have hc3_51 : ¬ (p2 = (nA.toInt32)) := by intro q; have w := own_t32 nA (by omega); rw [← q] at w; omega
  refine OwnG.st (y_iloadN X0 H d16_0 rfl) ?_
  refine OwnG.st (y_aloadN X0 H d16_1 rfl) ?_
  refine OwnG.st (y_len A_a1 X0 H hZ e0 d16_2 (nA.toInt32) rfl) ?_
  refine OwnG.st (y_icY X0 H 14 d16_3 (feq hc3_51).2 (by decide) (by decide)) ?_
  refine OwnG.st (y_iloadN X0 H d16_14 rfl) ?_
  refine OwnG.v4 17 1 100 X0 (newP X0 hx hZ (ww hw 7 rfl) e0 (g := mkF m 15 _ _) rfl (hb hby d16_15) rfl (own_nlt _ (by omega)) (cap := 100) (own_cle _ _ (by omega)) (by decide) (by decide) (by decide)) rfl rfl ?_
  intro T52 h52 k52 X52 e52 E52 A52
  obtain ⟨b52, g52⟩ : ∃ z, z = h0.size := ⟨_, rfl⟩
  rw [← g52] at A52 ⊢
  have V52 : OwnA Z h52 b52 .int p2.toInt.toNat (iv' fun _ => 0) := own_newA A52 (own_tn _ (by omega))
  have f54 := A_a1.ext E52
  have gb_b52 : LeA (n0) (b52) := Nat.le_trans Z0 (Nat.le_of_eq g52.symm)
  have Z52 : LeA (n0) (h52.size) := Nat.le_trans Z0 E52.1
  have sz_b52 : LeA (h0.size) (b52) := Nat.le_trans (Keep.refl h0 []).1 (Nat.le_of_eq g52.symm)
  have K52 : Keep h0 h52 [] := (Keep.refl h0 []).ext E52
  refine OwnG.st (y_astoreN X52 H #[.val (.ref a1), .val (.int p2), .val (.ref b52)] d16_17 rfl) ?_
  refine OwnG.st (y_aloadN X52 H d16_18 rfl) ?_
  refine OwnG.st (y_iconst X52 H (0) d16_19 rfl) ?_
  refine OwnG.st (y_aloadN X52 H d16_20 rfl) ?_
  refine OwnG.st (y_iconst X52 H (0) d16_21 rfl) ?_
  refine OwnG.st (y_aloadN X52 H d16_22 rfl) ?_
  refine OwnG.st (y_len f54 X52 H hZ e52 d16_23 (nA.toInt32) rfl) ?_
  refine OwnG.st (y_iloadN X52 H d16_24 rfl) ?_
  refine OwnG.cl 28 1 100 X52 (Jvm.LawKit.callS X52 hx (y := mn_17) hown (mvT hZ (ww hw 123 rfl)) (mvT hZ (ww hw 124 rfl)) (mvT hZ (ww hw 4 rfl)) (mvT hZ (ww hw 125 rfl)) (by decide) (backOf (W := 4) (rm17 l Z a0 hw [] (nA.toInt32) p2  h52 n0 Z52 ) hZ (ww hw 125 rfl) (ww hw 4 rfl) (by decide) (by decide)) (g := mkF m 25 _ _) rfl (by rw [hml]; rfl) (argsL := [(.int (nA.toInt32)), (.int p2)]) (rest := [(.int (0 : Int32)), (.ref b52), (.int (0 : Int32)), (.ref a1)]) (lenOf pd_16_0 rfl) rfl (by show 2 * 0 + _ ≤ _; exact Nat.le_of_eq rfl) (hb hby d16_25) (fun _ _ => ⟨rfl, e52, (by decide : 1 + 0 ≤ _), (by decide : 100 + 0 ≤ _)⟩)) rfl rfl ?_
  intro T55 Lc55 vc55 X55 hQ55
  obtain ⟨hv55, N55q, e55⟩ := hQ55
  have N55 := Fr.app N0 N55q
  refine OwnG.cv hv55 ?_
  clear hv55
  refine OwnG.v6 31 (own_cp f54 V52 (by omega) (by omega) (Or.inl rfl) X55 hx hZ hown (ww hw 126 rfl) (ww hw 104 rfl) (ww hw 102 rfl) (ww hw 103 rfl) e55 (by decide) (by decide) (by rw [own_cmin nA p2 hlt]; omega) (by rw [own_cmin nA p2 hlt]; show (0 : Int) + _ ≤ _; omega) (by rw [own_cmin nA p2 hlt]; show (0 : Int) + _ ≤ _; omega) N55 gb_b52 (gf := mkF m 28 _ _) rfl (by rw [hml]; rfl) (rest := []) rfl (hb hby d16_28) (by decide) (W := 0) (by show 2 * 0 + _ ≤ _; exact Nat.le_of_eq rfl) (by decide)) ?_
  intro T56 h56 L56 X56 e56 N56 Kc56 V56
  have V56' : OwnA Z h56 b52 .int p2.toInt.toNat (iv' (cpv g (fun _ => 0) 0 0 (F17 (nA.toInt32) p2).toInt.toNat)) := V56
  have K56 : Keep h0 h56 [] := K52.trans Kc56 (fun x hx => by rw [List.mem_singleton.mp hx]; exact Or.inr sz_b52)
  refine OwnG.st (y_aloadN X56 H d16_31 rfl) ?_
  have hV : OwnA Z h56 b52 .int p2.toInt.toNat (iv' (cpv g (fun _ => 0) 0 0 nA)) := by have q := V56'; rw [own_cmin nA p2 hlt] at q; exact q
  exact OwnG.retR X56 hx Bd.returns rfl rfl (BodyLoose.notSynchronized Bd) (hb hby d16_32) (by rw [e56]; exact ⟨_, rfl, N56, K56, sz_b52, hV⟩) (by decide) (by decide)
theorem d21_0 : decode k21_ 0 = .ok (.iload_n 1, 1) := by decide +kernel
theorem d21_1 : decode k21_ 1 = .ok (.aload_n 0, 1) := by decide +kernel
theorem d21_2 : decode k21_ 2 = .ok (.arraylength, 1) := by decide +kernel
theorem d21_3 : decode k21_ 3 = .ok (.if_icmp .ne 11, 3) := by decide +kernel
theorem d21_14 : decode k21_ 14 = .ok (.iload_n 1, 1) := by decide +kernel
theorem d21_15 : decode k21_ 15 = .ok (.newarray .byte, 2) := by decide +kernel
theorem d21_17 : decode k21_ 17 = .ok (.astore_n 2, 1) := by decide +kernel
theorem d21_18 : decode k21_ 18 = .ok (.aload_n 0, 1) := by decide +kernel
theorem d21_19 : decode k21_ 19 = .ok (.iconst 0, 1) := by decide +kernel
theorem d21_20 : decode k21_ 20 = .ok (.aload_n 2, 1) := by decide +kernel
theorem d21_21 : decode k21_ 21 = .ok (.iconst 0, 1) := by decide +kernel
theorem d21_22 : decode k21_ 22 = .ok (.aload_n 0, 1) := by decide +kernel
theorem d21_23 : decode k21_ 23 = .ok (.arraylength, 1) := by decide +kernel
theorem d21_24 : decode k21_ 24 = .ok (.iload_n 1, 1) := by decide +kernel
theorem d21_25 : decode k21_ 25 = .ok (.invokestatic 304, 3) := by decide +kernel
theorem d21_28 : decode k21_ 28 = .ok (.invokestatic 150, 3) := by decide +kernel
theorem d21_31 : decode k21_ 31 = .ok (.aload_n 2, 1) := by decide +kernel
theorem d21_32 : decode k21_ 32 = .ok (.areturn, 1) := by decide +kernel
theorem pn_21 : plainName "java/util/Arrays" = true := by first | (simp [plainName, overriddenIn]; done) | decide +kernel
theorem pd_21_0 : parseMethodDescriptor "(II)I" = some ⟨[.int, .int], some .int⟩ := by decide +kernel
theorem ef_21 (m : MethodId) (a1 : Addr) (p2 : Int32) : entryFrame m #[(.ref a1), (.int p2)] 3 = mkF m 0 #[.val (.ref a1), .val (.int p2), .unset] [] := by first | (simp [entryFrame, mkF, argsToLocals, Value.category]; done) | rfl
def Q21 (Z : State) (a1 : Addr) (p2 : Int32) (nA : Nat) (g : Nat → Int32) (h0 : Heap) (n0 : Nat) (v : Option Value) (h : Heap) (L : List Loc) : Prop := ∃ x : Addr, v = some (.ref x) ∧ Fr n0 L ∧ Keep h0 h [] ∧ h0.size ≤ x ∧ OwnA Z h x .byte p2.toInt.toNat (iv' (cpv g (fun _ => 0) 0 0 nA))
set_option maxRecDepth 65536 in
set_option maxHeartbeats 40000000 in
theorem rm21 (l : Launch) (Z : State) (a0 : Array Value) (hw : HW a0 Z) (ws : List Jvm.Cond) (a1 : Addr) (p2 : Int32) (nA : Nat) (g : Nat → Int32) (h0 : Heap) (n0 : Nat) (Z0 : n0 ≤ h0.size) (A_a1 : OwnA Z h0 a1 .byte nA (iv' g)) (hlt : (nA : Int) < p2.toInt) (hle : p2.toInt ≤ 100) (hBy : Byt g) :
    MetFree l mn_21 (head1 (Jvm.Cond.code mn_21 jdk_65_method_121_code 3 (some (.array .byte)) :: ws) ({ frames := 1, cells := 1, slots := 100, locals := 30 } : Room)) (fun a U => a = #[(.ref a1), (.int p2)] ∧ Z.Warmed39 U.vm ∧ U.heap = h0) (fun _ _ _ _ _ => True) (fun _ U o U' => ∃ v L, o = .returned v ∧ Q21 Z a1 p2 nA g h0 n0 v U'.heap L ∧ FrameEnd U o U' L ({ frames := 1, cells := 1, slots := 100, locals := 30 } : Room).cells ({ frames := 1, cells := 1, slots := 100, locals := 30 } : Room).slots) := by
  refine MetFree.of_bodySF (plainFor_of_name pn_21) hisR ?_
  intro p e s m args below meth c s₁ Bd hml0 hP hK
  obtain ⟨rfl, hZ, hh⟩ := hP
  have hx := Bd.exec
  have hby := Bd.bytes
  have H := And.intro hx hby
  have hml : c.maxLocals = 3 := hml0
  have hown : s.vm.findClass "java/util/Arrays" = some m.cls := findClass_of_methodNamed Bd.named
  have hnm := (name_of_methodNamed Bd.named Bd.method).1
  have X0 : Stand p l e ({ frames := 1, cells := 1, slots := 100, locals := 30 } : Room) s m #[(.ref a1), (.int p2)] below meth c s₁ [] 0 0 := Stand.of_body Bd
  have e0 : s₁.heap = h0 := by rw [← hh, Bd.state]; rfl
  have N0 := Fr.nil n0
  suffices hG : OwnG p e below s (Q21 Z a1 p2 nA g h0 n0) ({ frames := 1, cells := 1, slots := 100, locals := 30 } : Room).cells ({ frames := 1, cells := 1, slots := 100, locals := 30 } : Room).slots s₁ (mkF m 0 #[.val (.ref a1), .val (.int p2), .unset] []) by
    obtain ⟨s2, o2, g1, g2⟩ := hG
    exact ⟨s2, o2, castTop (ef_21 m a1 p2) g1, g2⟩
  have hc3_51 : ¬ (p2 = (nA.toInt32)) := by intro q; have w := own_t32 nA (by omega); rw [← q] at w; omega
  refine OwnG.st (y_iloadN X0 H d21_0 rfl) ?_
  refine OwnG.st (y_aloadN X0 H d21_1 rfl) ?_
  refine OwnG.st (y_len A_a1 X0 H hZ e0 d21_2 (nA.toInt32) rfl) ?_
  refine OwnG.st (y_icY X0 H 14 d21_3 (feq hc3_51).2 (by decide) (by decide)) ?_
  refine OwnG.st (y_iloadN X0 H d21_14 rfl) ?_
  refine OwnG.v4 17 1 100 X0 (newP X0 hx hZ (ww hw 18 rfl) e0 (g := mkF m 15 _ _) rfl (hb hby d21_15) rfl (own_nlt _ (by omega)) (cap := 100) (own_cle _ _ (by omega)) (by decide) (by decide) (by decide)) rfl rfl ?_
  intro T52 h52 k52 X52 e52 E52 A52
  obtain ⟨b52, g52⟩ : ∃ z, z = h0.size := ⟨_, rfl⟩
  rw [← g52] at A52 ⊢
  have V52 : OwnA Z h52 b52 .byte p2.toInt.toNat (iv' fun _ => 0) := own_newA A52 (own_tn _ (by omega))
  have f54 := A_a1.ext E52
  have gb_b52 : LeA (n0) (b52) := Nat.le_trans Z0 (Nat.le_of_eq g52.symm)
  have Z52 : LeA (n0) (h52.size) := Nat.le_trans Z0 E52.1
  have sz_b52 : LeA (h0.size) (b52) := Nat.le_trans (Keep.refl h0 []).1 (Nat.le_of_eq g52.symm)
  have K52 : Keep h0 h52 [] := (Keep.refl h0 []).ext E52
  refine OwnG.st (y_astoreN X52 H #[.val (.ref a1), .val (.int p2), .val (.ref b52)] d21_17 rfl) ?_
  refine OwnG.st (y_aloadN X52 H d21_18 rfl) ?_
  refine OwnG.st (y_iconst X52 H (0) d21_19 rfl) ?_
  refine OwnG.st (y_aloadN X52 H d21_20 rfl) ?_
  refine OwnG.st (y_iconst X52 H (0) d21_21 rfl) ?_
  refine OwnG.st (y_aloadN X52 H d21_22 rfl) ?_
  refine OwnG.st (y_len f54 X52 H hZ e52 d21_23 (nA.toInt32) rfl) ?_
  refine OwnG.st (y_iloadN X52 H d21_24 rfl) ?_
  refine OwnG.cl 28 1 100 X52 (Jvm.LawKit.callS X52 hx (y := mn_17) hown (mvT hZ (ww hw 123 rfl)) (mvT hZ (ww hw 124 rfl)) (mvT hZ (ww hw 4 rfl)) (mvT hZ (ww hw 125 rfl)) (by decide) (backOf (W := 4) (rm17 l Z a0 hw [] (nA.toInt32) p2  h52 n0 Z52 ) hZ (ww hw 125 rfl) (ww hw 4 rfl) (by decide) (by decide)) (g := mkF m 25 _ _) rfl (by rw [hml]; rfl) (argsL := [(.int (nA.toInt32)), (.int p2)]) (rest := [(.int (0 : Int32)), (.ref b52), (.int (0 : Int32)), (.ref a1)]) (lenOf pd_21_0 rfl) rfl (by show 2 * 0 + _ ≤ _; exact Nat.le_of_eq rfl) (hb hby d21_25) (fun _ _ => ⟨rfl, e52, (by decide : 1 + 0 ≤ _), (by decide : 100 + 0 ≤ _)⟩)) rfl rfl ?_
  intro T55 Lc55 vc55 X55 hQ55
  obtain ⟨hv55, N55q, e55⟩ := hQ55
  have N55 := Fr.app N0 N55q
  refine OwnG.cv hv55 ?_
  clear hv55
  refine OwnG.v6 31 (own_cp f54 V52 (by omega) (by omega) (Or.inr ⟨rfl, hBy, own_z0⟩) X55 hx hZ hown (ww hw 126 rfl) (ww hw 104 rfl) (ww hw 102 rfl) (ww hw 103 rfl) e55 (by decide) (by decide) (by rw [own_cmin nA p2 hlt]; omega) (by rw [own_cmin nA p2 hlt]; show (0 : Int) + _ ≤ _; omega) (by rw [own_cmin nA p2 hlt]; show (0 : Int) + _ ≤ _; omega) N55 gb_b52 (gf := mkF m 28 _ _) rfl (by rw [hml]; rfl) (rest := []) rfl (hb hby d21_28) (by decide) (W := 0) (by show 2 * 0 + _ ≤ _; exact Nat.le_of_eq rfl) (by decide)) ?_
  intro T56 h56 L56 X56 e56 N56 Kc56 V56
  have V56' : OwnA Z h56 b52 .byte p2.toInt.toNat (iv' (cpv g (fun _ => 0) 0 0 (F17 (nA.toInt32) p2).toInt.toNat)) := V56
  have K56 : Keep h0 h56 [] := K52.trans Kc56 (fun x hx => by rw [List.mem_singleton.mp hx]; exact Or.inr sz_b52)
  refine OwnG.st (y_aloadN X56 H d21_31 rfl) ?_
  have hV : OwnA Z h56 b52 .byte p2.toInt.toNat (iv' (cpv g (fun _ => 0) 0 0 nA)) := by have q := V56'; rw [own_cmin nA p2 hlt] at q; exact q
  exact OwnG.retR X56 hx Bd.returns rfl rfl (BodyLoose.notSynchronized Bd) (hb hby d21_32) (by rw [e56]; exact ⟨_, rfl, N56, K56, sz_b52, hV⟩) (by decide) (by decide)
theorem own_cg (g : Nat → Int32) (n : Nat) : ∀ i, i < n → cpv g (fun _ => 0) 0 0 n i = g i := fun i hi => by show (if 0 ≤ i ∧ i < 0 + n then g (0 + (i - 0)) else 0) = g i; rw [if_pos (by omega), Nat.zero_add, Nat.sub_zero]
theorem own_cb (g : Nat → Int32) (n : Nat) (h : Byt g) : Byt (cpv g (fun _ => 0) 0 0 n) := fun i => by
  show -128 ≤ (if 0 ≤ i ∧ i < 0 + n then g (0 + (i - 0)) else 0).toInt ∧ (if 0 ≤ i ∧ i < 0 + n then g (0 + (i - 0)) else 0).toInt ≤ 127
  split
  · exact h _
  · decide
theorem d13_0 : decode k13_ 0 = .ok (.lload_n 2, 1) := by decide +kernel
theorem d13_1 : decode k13_ 1 = .ok (.aload_n 1, 1) := by decide +kernel
theorem d13_2 : decode k13_ 2 = .ok (.arraylength, 1) := by decide +kernel
theorem d13_3 : decode k13_ 3 = .ok (.i2l, 1) := by decide +kernel
theorem d13_4 : decode k13_ 4 = .ok (.lcmp, 1) := by decide +kernel
theorem d13_5 : decode k13_ 5 = .ok (.ifCond .gt 7, 3) := by decide +kernel
theorem d13_8 : decode k13_ 8 = .ok (.aload_n 1, 1) := by decide +kernel
theorem d13_9 : decode k13_ 9 = .ok (.goto 15, 3) := by decide +kernel
theorem d13_12 : decode k13_ 12 = .ok (.aload_n 1, 1) := by decide +kernel
theorem d13_13 : decode k13_ 13 = .ok (.aload_n 0, 1) := by decide +kernel
theorem d13_14 : decode k13_ 14 = .ok (.aload_n 1, 1) := by decide +kernel
theorem d13_15 : decode k13_ 15 = .ok (.arraylength, 1) := by decide +kernel
theorem d13_16 : decode k13_ 16 = .ok (.lload_n 2, 1) := by decide +kernel
theorem d13_17 : decode k13_ 17 = .ok (.iconst 4, 1) := by decide +kernel
theorem d13_18 : decode k13_ 18 = .ok (.invokevirtual 36, 3) := by decide +kernel
theorem d13_21 : decode k13_ 21 = .ok (.invokestatic 40, 3) := by decide +kernel
theorem d13_24 : decode k13_ 24 = .ok (.areturn, 1) := by decide +kernel
theorem pn_13 : plainName "com/example/deft_nets/deftnets/MemoryBudget" = true := by first | (simp [plainName, overriddenIn]; done) | decide +kernel
theorem pd_13_0 : parseMethodDescriptor "(IJI)I" = some ⟨[.int, .long, .int], some .int⟩ := by decide +kernel
theorem pd_13_1 : parseMethodDescriptor "([II)[I" = some ⟨[(.array .int), .int], some (.array .int)⟩ := by decide +kernel
theorem ef_13 (m : MethodId) (a1 : Addr) (a2 : Addr) (q3 : Int64) : entryFrame m #[(.ref a1), (.ref a2), (.long q3)] 4 = mkF m 0 #[.val (.ref a1), .val (.ref a2), .val (.long q3), .second] [] := by first | (simp [entryFrame, mkF, argsToLocals, Value.category]; done) | rfl
def Q13 (Z : State) (a1 : Addr) (a2 : Addr) (q3 : Int64) (used : Int64) (nA : Nat) (g : Nat → Int32) (h0 : Heap) (n0 : Nat) (v : Option Value) (h : Heap) (L : List Loc) : Prop := ∃ (x : Addr) (n' : Nat) (g' : Nat → Int32) (u' : Int64), v = some (.ref x) ∧ Fr n0 L ∧ Keep h0 h [a1] ∧ BG Z h a1 u' ∧ OwnA Z h x .int n' (iv' g') ∧ OrA x a2 h0.size ∧ q3.toInt ≤ n' ∧ n' ≤ 2 * nA + q3.toInt.toNat ∧ nA ≤ n' ∧ (∀ i, i < nA → g' i = g i) ∧ used.toInt ≤ u'.toInt ∧ u'.toInt ≤ used.toInt + 400
set_option maxRecDepth 65536 in
set_option maxHeartbeats 40000000 in
theorem rm13 (l : Launch) (Z : State) (a0 : Array Value) (hw : HW a0 Z) (ws : List Jvm.Cond) (a1 : Addr) (a2 : Addr) (q3 : Int64) (used : Int64) (nA : Nat) (g : Nat → Int32) (h0 : Heap) (n0 : Nat) (Z0 : n0 ≤ h0.size) (gb_a1 : n0 ≤ a1) (hB : BG Z h0 a1 used) (A_a2 : OwnA Z h0 a2 .int nA (iv' g)) (hne : a2 ≠ a1) (hu : 0 ≤ used.toInt ∧ used.toInt ≤ 100000) (hn : nA ≤ 30) (h3 : 0 ≤ q3.toInt ∧ q3.toInt ≤ 40) :
    MetFree l mn_13 (head1 (Jvm.Cond.code mn_13 prog_34_method_3_code 4 (some (.array .int)) :: ws) ({ frames := 2, cells := 1, slots := 100, locals := 44 } : Room)) (fun a U => a = #[(.ref a1), (.ref a2), (.long q3)] ∧ Z.Warmed39 U.vm ∧ U.heap = h0) (fun _ _ _ _ _ => True) (fun _ U o U' => ∃ v L, o = .returned v ∧ Q13 Z a1 a2 q3 used nA g h0 n0 v U'.heap L ∧ FrameEnd U o U' L ({ frames := 2, cells := 1, slots := 100, locals := 44 } : Room).cells ({ frames := 2, cells := 1, slots := 100, locals := 44 } : Room).slots) := by
  refine MetFree.of_bodySF (plainFor_of_name pn_13) hisR ?_
  intro p e s m args below meth c s₁ Bd hml0 hP hK
  obtain ⟨rfl, hZ, hh⟩ := hP
  have hx := Bd.exec
  have hby := Bd.bytes
  have H := And.intro hx hby
  have hml : c.maxLocals = 4 := hml0
  have hown : s.vm.findClass "com/example/deft_nets/deftnets/MemoryBudget" = some m.cls := findClass_of_methodNamed Bd.named
  have hnm := (name_of_methodNamed Bd.named Bd.method).1
  have X0 : Stand p l e ({ frames := 2, cells := 1, slots := 100, locals := 44 } : Room) s m #[(.ref a1), (.ref a2), (.long q3)] below meth c s₁ [] 0 0 := Stand.of_body Bd
  have e0 : s₁.heap = h0 := by rw [← hh, Bd.state]; rfl
  have N0 := Fr.nil n0
  suffices hG : OwnG p e below s (Q13 Z a1 a2 q3 used nA g h0 n0) ({ frames := 2, cells := 1, slots := 100, locals := 44 } : Room).cells ({ frames := 2, cells := 1, slots := 100, locals := 44 } : Room).slots s₁ (mkF m 0 #[.val (.ref a1), .val (.ref a2), .val (.long q3), .second] []) by
    obtain ⟨s2, o2, g1, g2⟩ := hG
    exact ⟨s2, o2, castTop (ef_13 m a1 a2 q3) g1, g2⟩
  obtain ⟨EBG_51, FBG0_51, FBG1_51⟩ := hB
  refine OwnG.st (y_lloadN X0 H d13_0 rfl) ?_
  refine OwnG.st (y_aloadN X0 H d13_1 rfl) ?_
  refine OwnG.st (y_len A_a2 X0 H hZ e0 d13_2 (nA.toInt32) rfl) ?_
  refine OwnG.st (y_i2l X0 H d13_3) ?_
  refine OwnG.st (y_lcmp X0 H d13_4) ?_
  by_cases hc5_52 : ((nA.toInt32).toInt64) < q3
  · refine OwnG.st (y_ifY X0 H 12 d13_5 ((if0 _ _).trans (tlt ((lw_gt q3 ((nA.toInt32).toInt64)).mpr hc5_52)).2.2.1) (by decide) (by decide)) ?_
    refine OwnG.st (y_aloadN X0 H d13_12 rfl) ?_
    refine OwnG.st (y_aloadN X0 H d13_13 rfl) ?_
    refine OwnG.st (y_aloadN X0 H d13_14 rfl) ?_
    refine OwnG.st (y_len A_a2 X0 H hZ e0 d13_15 (nA.toInt32) rfl) ?_
    refine OwnG.st (y_lloadN X0 H d13_16 rfl) ?_
    refine OwnG.st (y_iconst X0 H (4) d13_17 rfl) ?_
    obtain ⟨cq53, qc53, qd53⟩ := EBG_51.cell
    refine OwnG.cm 21 0 0 X0 (X0.privateBack hx (y := mn_14) hown (mvT hZ (ww hw 110 rfl)) (mvT hZ (ww hw 111 rfl)) (mvT hZ (own_selP (y := mn_14) (y0 := mn_11) rfl (ww hw 88 rfl) (ww hw 111 rfl) (ww hw 112 rfl) (by decide))) (Cond.privateMethod_at (mvP hZ (ww hw 112 rfl) (args := #[]))) (mvT hZ (ww hw 113 rfl)) (by decide) (backOf (W := 1) (rm14 l Z a0 hw [] a1 (nA.toInt32) q3 (4 : Int32) used h0 n0 Z0 gb_a1 ⟨EBG_51, FBG0_51, FBG1_51⟩ hu (by have w := own_t32 nA (by omega); omega) (by omega) (Or.inr rfl)) hZ (ww hw 113 rfl) (ww hw 13 rfl) (by decide) (by decide)) (g := mkF m 18 _ _) rfl (by rw [hml]; rfl) (Steps.refl _) (a := a1) (by rw [e0]; exact qc53) qd53 (argsL := [(.int (nA.toInt32)), (.long q3), (.int (4 : Int32))]) (rest := [(.ref a2)]) (lenOf pd_13_0 rfl) rfl (by show 2 * 0 + _ ≤ _; exact Nat.le_of_eq rfl) (hb hby d13_18) (fun _ _ => ⟨rfl, e0, (by decide : 0 + 0 ≤ _), (by decide : 0 + 0 ≤ _)⟩)) rfl rfl ?_
    intro T53 Lc53 vc53 X53 hQ53
    obtain ⟨r53, u53, hv53, N53q, Kq53, B53q, hr53, hu53a, hu53b⟩ := hQ53
    have Z53 : LeA (n0) (T53.heap.size) := Nat.le_trans Z0 Kq53.1
    have f55 := A_a2.keep Kq53 (ninS hne nin0)
    have K53 : Keep h0 T53.heap [a1] := (Keep.refl h0 [a1]).trans Kq53 (fun x hx => Or.inl hx)
    obtain ⟨EBG_56, FBG0_56, FBG1_56⟩ := B53q
    have N53 := Fr.app N0 N53q
    refine OwnG.cv hv53 ?_
    clear hv53
    have hlt0 : (nA : Int) < q3.toInt := by rw [← own_t64 nA (by omega)]; exact Int64.lt_iff_toInt_lt.mp hc5_52
    have ht32 := own_t32 nA (by omega)
    rw [ht32] at hr53
    have hclt : (nA : Int) < r53.toInt := by omega
    have hcle : r53.toInt ≤ 100 := by omega
    refine OwnG.cl 24 1 100 X53 (Jvm.LawKit.callS X53 hx (y := mn_16) hown (mvT hZ (ww hw 119 rfl)) (mvT hZ (ww hw 120 rfl)) (mvT hZ (ww hw 121 rfl)) (mvT hZ (ww hw 122 rfl)) (by decide) (backOf (W := 0) (rm16 l Z a0 hw [] a2 r53 nA g T53.heap n0 Z53 f55 hclt hcle) hZ (ww hw 122 rfl) (ww hw 121 rfl) (by decide) (by decide)) (g := mkF m 21 _ _) rfl (by rw [hml]; rfl) (argsL := [(.ref a2), (.int r53)]) (rest := []) (lenOf pd_13_1 rfl) rfl (by show 2 * 0 + _ ≤ _; exact Nat.le_of_eq rfl) (hb hby d13_21) (fun _ _ => ⟨rfl, rfl, (by decide : 0 + 1 ≤ _), (by decide : 0 + 100 ≤ _)⟩)) rfl rfl ?_
    intro T57 Lc57 vc57 X57 hQ57
    obtain ⟨x57, hv57, N57q, Kq57, sx57, Vq57⟩ := hQ57
    have sz_x57 : LeA (h0.size) (x57) := Nat.le_trans K53.1 sx57
    have f60 := Exa.keep EBG_56 Kq57
    have f61 := Fld.keep FBG0_56 Kq57 nin0
    have f62 := Fld.keep FBG1_56 Kq57 nin0
    have K57 : Keep h0 T57.heap [a1] := K53.trans Kq57 (fun x hx => by simp at hx)
    have N57 := Fr.app N53 N57q
    refine OwnG.cv hv57 ?_
    clear hv57
    have hcg : ∀ i, i < nA → cpv g (fun _ => 0) 0 0 nA i = g i := own_cg g nA
    exact OwnG.retR X57 hx Bd.returns rfl rfl (BodyLoose.notSynchronized Bd) (hb hby d13_24) ⟨x57, _, _, _, rfl, N57, K57, ⟨f60, f61, f62⟩, Vq57, Or.inr sz_x57, by omega, by omega, by omega, hcg, by omega, by omega⟩ (by decide) (by decide)
  · refine OwnG.st (y_ifN X0 H d13_5 ((if0 _ _).trans (flt (mt (lw_gt q3 ((nA.toInt32).toInt64)).mp hc5_52)).2.2.1)) ?_
    refine OwnG.st (y_aloadN X0 H d13_8 rfl) ?_
    refine OwnG.st (y_goto X0 H 24 d13_9 (by decide) (by decide)) ?_
    have hge0 : q3.toInt ≤ (nA : Int) := by rw [← own_t64 nA (by omega)]; exact Int.not_lt.mp (mt Int64.lt_iff_toInt_lt.mpr hc5_52)
    exact OwnG.retR X0 hx Bd.returns rfl rfl (BodyLoose.notSynchronized Bd) (hb hby d13_24) (by rw [e0]; exact ⟨a2, nA, g, used, rfl, N0, (Keep.refl h0 [a1]), ⟨EBG_51, FBG0_51, FBG1_51⟩, A_a2, Or.inl rfl, by omega, by omega, Nat.le_refl _, fun _ _ => rfl, by omega, by omega⟩) (by decide) (by decide)
theorem d12_0 : decode k12_ 0 = .ok (.lload_n 2, 1) := by decide +kernel
theorem d12_1 : decode k12_ 1 = .ok (.aload_n 1, 1) := by decide +kernel
theorem d12_2 : decode k12_ 2 = .ok (.arraylength, 1) := by decide +kernel
theorem d12_3 : decode k12_ 3 = .ok (.i2l, 1) := by decide +kernel
theorem d12_4 : decode k12_ 4 = .ok (.lcmp, 1) := by decide +kernel
theorem d12_5 : decode k12_ 5 = .ok (.ifCond .gt 7, 3) := by decide +kernel
theorem d12_8 : decode k12_ 8 = .ok (.aload_n 1, 1) := by decide +kernel
theorem d12_9 : decode k12_ 9 = .ok (.goto 15, 3) := by decide +kernel
theorem d12_12 : decode k12_ 12 = .ok (.aload_n 1, 1) := by decide +kernel
theorem d12_13 : decode k12_ 13 = .ok (.aload_n 0, 1) := by decide +kernel
theorem d12_14 : decode k12_ 14 = .ok (.aload_n 1, 1) := by decide +kernel
theorem d12_15 : decode k12_ 15 = .ok (.arraylength, 1) := by decide +kernel
theorem d12_16 : decode k12_ 16 = .ok (.lload_n 2, 1) := by decide +kernel
theorem d12_17 : decode k12_ 17 = .ok (.iconst 1, 1) := by decide +kernel
theorem d12_18 : decode k12_ 18 = .ok (.invokevirtual 36, 3) := by decide +kernel
theorem d12_21 : decode k12_ 21 = .ok (.invokestatic 53, 3) := by decide +kernel
theorem d12_24 : decode k12_ 24 = .ok (.areturn, 1) := by decide +kernel
theorem pn_12 : plainName "com/example/deft_nets/deftnets/MemoryBudget" = true := by first | (simp [plainName, overriddenIn]; done) | decide +kernel
theorem pd_12_0 : parseMethodDescriptor "(IJI)I" = some ⟨[.int, .long, .int], some .int⟩ := by decide +kernel
theorem pd_12_1 : parseMethodDescriptor "([BI)[B" = some ⟨[(.array .byte), .int], some (.array .byte)⟩ := by decide +kernel
theorem ef_12 (m : MethodId) (a1 : Addr) (a2 : Addr) (q3 : Int64) : entryFrame m #[(.ref a1), (.ref a2), (.long q3)] 4 = mkF m 0 #[.val (.ref a1), .val (.ref a2), .val (.long q3), .second] [] := by first | (simp [entryFrame, mkF, argsToLocals, Value.category]; done) | rfl
def Q12 (Z : State) (a1 : Addr) (a2 : Addr) (q3 : Int64) (used : Int64) (nA : Nat) (g : Nat → Int32) (h0 : Heap) (n0 : Nat) (v : Option Value) (h : Heap) (L : List Loc) : Prop := ∃ (x : Addr) (n' : Nat) (g' : Nat → Int32) (u' : Int64), v = some (.ref x) ∧ Fr n0 L ∧ Keep h0 h [a1] ∧ BG Z h a1 u' ∧ OwnA Z h x .byte n' (iv' g') ∧ OrA x a2 h0.size ∧ q3.toInt ≤ n' ∧ n' ≤ 2 * nA + q3.toInt.toNat ∧ nA ≤ n' ∧ (∀ i, i < nA → g' i = g i) ∧ Byt g' ∧ used.toInt ≤ u'.toInt ∧ u'.toInt ≤ used.toInt + 400
set_option maxRecDepth 65536 in
set_option maxHeartbeats 40000000 in
theorem rm12 (l : Launch) (Z : State) (a0 : Array Value) (hw : HW a0 Z) (ws : List Jvm.Cond) (a1 : Addr) (a2 : Addr) (q3 : Int64) (used : Int64) (nA : Nat) (g : Nat → Int32) (h0 : Heap) (n0 : Nat) (Z0 : n0 ≤ h0.size) (gb_a1 : n0 ≤ a1) (hB : BG Z h0 a1 used) (A_a2 : OwnA Z h0 a2 .byte nA (iv' g)) (hne : a2 ≠ a1) (hu : 0 ≤ used.toInt ∧ used.toInt ≤ 100000) (hn : nA ≤ 30) (h3 : 0 ≤ q3.toInt ∧ q3.toInt ≤ 40) (hBy : Byt g) :
    MetFree l mn_12 (head1 (Jvm.Cond.code mn_12 prog_34_method_5_code 4 (some (.array .byte)) :: ws) ({ frames := 2, cells := 1, slots := 100, locals := 44 } : Room)) (fun a U => a = #[(.ref a1), (.ref a2), (.long q3)] ∧ Z.Warmed39 U.vm ∧ U.heap = h0) (fun _ _ _ _ _ => True) (fun _ U o U' => ∃ v L, o = .returned v ∧ Q12 Z a1 a2 q3 used nA g h0 n0 v U'.heap L ∧ FrameEnd U o U' L ({ frames := 2, cells := 1, slots := 100, locals := 44 } : Room).cells ({ frames := 2, cells := 1, slots := 100, locals := 44 } : Room).slots) := by
  refine MetFree.of_bodySF (plainFor_of_name pn_12) hisR ?_
  intro p e s m args below meth c s₁ Bd hml0 hP hK
  obtain ⟨rfl, hZ, hh⟩ := hP
  have hx := Bd.exec
  have hby := Bd.bytes
  have H := And.intro hx hby
  have hml : c.maxLocals = 4 := hml0
  have hown : s.vm.findClass "com/example/deft_nets/deftnets/MemoryBudget" = some m.cls := findClass_of_methodNamed Bd.named
  have hnm := (name_of_methodNamed Bd.named Bd.method).1
  have X0 : Stand p l e ({ frames := 2, cells := 1, slots := 100, locals := 44 } : Room) s m #[(.ref a1), (.ref a2), (.long q3)] below meth c s₁ [] 0 0 := Stand.of_body Bd
  have e0 : s₁.heap = h0 := by rw [← hh, Bd.state]; rfl
  have N0 := Fr.nil n0
  suffices hG : OwnG p e below s (Q12 Z a1 a2 q3 used nA g h0 n0) ({ frames := 2, cells := 1, slots := 100, locals := 44 } : Room).cells ({ frames := 2, cells := 1, slots := 100, locals := 44 } : Room).slots s₁ (mkF m 0 #[.val (.ref a1), .val (.ref a2), .val (.long q3), .second] []) by
    obtain ⟨s2, o2, g1, g2⟩ := hG
    exact ⟨s2, o2, castTop (ef_12 m a1 a2 q3) g1, g2⟩
  obtain ⟨EBG_51, FBG0_51, FBG1_51⟩ := hB
  refine OwnG.st (y_lloadN X0 H d12_0 rfl) ?_
  refine OwnG.st (y_aloadN X0 H d12_1 rfl) ?_
  refine OwnG.st (y_len A_a2 X0 H hZ e0 d12_2 (nA.toInt32) rfl) ?_
  refine OwnG.st (y_i2l X0 H d12_3) ?_
  refine OwnG.st (y_lcmp X0 H d12_4) ?_
  by_cases hc5_52 : ((nA.toInt32).toInt64) < q3
  · refine OwnG.st (y_ifY X0 H 12 d12_5 ((if0 _ _).trans (tlt ((lw_gt q3 ((nA.toInt32).toInt64)).mpr hc5_52)).2.2.1) (by decide) (by decide)) ?_
    refine OwnG.st (y_aloadN X0 H d12_12 rfl) ?_
    refine OwnG.st (y_aloadN X0 H d12_13 rfl) ?_
    refine OwnG.st (y_aloadN X0 H d12_14 rfl) ?_
    refine OwnG.st (y_len A_a2 X0 H hZ e0 d12_15 (nA.toInt32) rfl) ?_
    refine OwnG.st (y_lloadN X0 H d12_16 rfl) ?_
    refine OwnG.st (y_iconst X0 H (1) d12_17 rfl) ?_
    obtain ⟨cq53, qc53, qd53⟩ := EBG_51.cell
    refine OwnG.cm 21 0 0 X0 (X0.privateBack hx (y := mn_14) hown (mvT hZ (ww hw 110 rfl)) (mvT hZ (ww hw 111 rfl)) (mvT hZ (own_selP (y := mn_14) (y0 := mn_11) rfl (ww hw 88 rfl) (ww hw 111 rfl) (ww hw 112 rfl) (by decide))) (Cond.privateMethod_at (mvP hZ (ww hw 112 rfl) (args := #[]))) (mvT hZ (ww hw 113 rfl)) (by decide) (backOf (W := 1) (rm14 l Z a0 hw [] a1 (nA.toInt32) q3 (1 : Int32) used h0 n0 Z0 gb_a1 ⟨EBG_51, FBG0_51, FBG1_51⟩ hu (by have w := own_t32 nA (by omega); omega) (by omega) (Or.inl rfl)) hZ (ww hw 113 rfl) (ww hw 13 rfl) (by decide) (by decide)) (g := mkF m 18 _ _) rfl (by rw [hml]; rfl) (Steps.refl _) (a := a1) (by rw [e0]; exact qc53) qd53 (argsL := [(.int (nA.toInt32)), (.long q3), (.int (1 : Int32))]) (rest := [(.ref a2)]) (lenOf pd_12_0 rfl) rfl (by show 2 * 0 + _ ≤ _; exact Nat.le_of_eq rfl) (hb hby d12_18) (fun _ _ => ⟨rfl, e0, (by decide : 0 + 0 ≤ _), (by decide : 0 + 0 ≤ _)⟩)) rfl rfl ?_
    intro T53 Lc53 vc53 X53 hQ53
    obtain ⟨r53, u53, hv53, N53q, Kq53, B53q, hr53, hu53a, hu53b⟩ := hQ53
    have Z53 : LeA (n0) (T53.heap.size) := Nat.le_trans Z0 Kq53.1
    have f55 := A_a2.keep Kq53 (ninS hne nin0)
    have K53 : Keep h0 T53.heap [a1] := (Keep.refl h0 [a1]).trans Kq53 (fun x hx => Or.inl hx)
    obtain ⟨EBG_56, FBG0_56, FBG1_56⟩ := B53q
    have N53 := Fr.app N0 N53q
    refine OwnG.cv hv53 ?_
    clear hv53
    have hlt0 : (nA : Int) < q3.toInt := by rw [← own_t64 nA (by omega)]; exact Int64.lt_iff_toInt_lt.mp hc5_52
    have ht32 := own_t32 nA (by omega)
    rw [ht32] at hr53
    have hclt : (nA : Int) < r53.toInt := by omega
    have hcle : r53.toInt ≤ 100 := by omega
    refine OwnG.cl 24 1 100 X53 (Jvm.LawKit.callS X53 hx (y := mn_21) hown (mvT hZ (ww hw 140 rfl)) (mvT hZ (ww hw 141 rfl)) (mvT hZ (ww hw 121 rfl)) (mvT hZ (ww hw 142 rfl)) (by decide) (backOf (W := 0) (rm21 l Z a0 hw [] a2 r53 nA g T53.heap n0 Z53 f55 hclt hcle hBy) hZ (ww hw 142 rfl) (ww hw 121 rfl) (by decide) (by decide)) (g := mkF m 21 _ _) rfl (by rw [hml]; rfl) (argsL := [(.ref a2), (.int r53)]) (rest := []) (lenOf pd_12_1 rfl) rfl (by show 2 * 0 + _ ≤ _; exact Nat.le_of_eq rfl) (hb hby d12_21) (fun _ _ => ⟨rfl, rfl, (by decide : 0 + 1 ≤ _), (by decide : 0 + 100 ≤ _)⟩)) rfl rfl ?_
    intro T57 Lc57 vc57 X57 hQ57
    obtain ⟨x57, hv57, N57q, Kq57, sx57, Vq57⟩ := hQ57
    have sz_x57 : LeA (h0.size) (x57) := Nat.le_trans K53.1 sx57
    have f60 := Exa.keep EBG_56 Kq57
    have f61 := Fld.keep FBG0_56 Kq57 nin0
    have f62 := Fld.keep FBG1_56 Kq57 nin0
    have K57 : Keep h0 T57.heap [a1] := K53.trans Kq57 (fun x hx => by simp at hx)
    have N57 := Fr.app N53 N57q
    refine OwnG.cv hv57 ?_
    clear hv57
    have hcg : ∀ i, i < nA → cpv g (fun _ => 0) 0 0 nA i = g i := own_cg g nA
    exact OwnG.retR X57 hx Bd.returns rfl rfl (BodyLoose.notSynchronized Bd) (hb hby d12_24) ⟨x57, _, _, _, rfl, N57, K57, ⟨f60, f61, f62⟩, Vq57, Or.inr sz_x57, by omega, by omega, by omega, hcg, own_cb g nA hBy, by omega, by omega⟩ (by decide) (by decide)
  · refine OwnG.st (y_ifN X0 H d12_5 ((if0 _ _).trans (flt (mt (lw_gt q3 ((nA.toInt32).toInt64)).mp hc5_52)).2.2.1)) ?_
    refine OwnG.st (y_aloadN X0 H d12_8 rfl) ?_
    refine OwnG.st (y_goto X0 H 24 d12_9 (by decide) (by decide)) ?_
    have hge0 : q3.toInt ≤ (nA : Int) := by rw [← own_t64 nA (by omega)]; exact Int.not_lt.mp (mt Int64.lt_iff_toInt_lt.mpr hc5_52)
    exact OwnG.retR X0 hx Bd.returns rfl rfl (BodyLoose.notSynchronized Bd) (hb hby d12_24) (by rw [e0]; exact ⟨a2, nA, g, used, rfl, N0, (Keep.refl h0 [a1]), ⟨EBG_51, FBG0_51, FBG1_51⟩, A_a2, Or.inl rfl, by omega, by omega, Nat.le_refl _, fun _ _ => rfl, hBy, by omega, by omega⟩) (by decide) (by decide)
theorem own_lims (u q : Int64) (hu : 0 ≤ u.toInt ∧ u.toInt ≤ 100000) (h3 : q.toInt = 16) : ¬ ((1099511627776 : Int64) - u) < q * (4 : Int64) := by
  have a := x_lsub (1099511627776 : Int64) u (by have e : (1099511627776 : Int64).toInt = 1099511627776 := rfl; omega)
  have e : (1099511627776 : Int64).toInt = 1099511627776 := rfl
  have b := x_lmul q 4 64 (by rw [h3]; rfl) (by omega)
  rw [Int64.lt_iff_toInt_lt]; omega
theorem own_rus (u q : Int64) (n : Nat) (hu : 0 ≤ u.toInt ∧ u.toInt ≤ 100000) (h3 : q.toInt = 16) (hn : n ≤ 16) : u.toInt ≤ (u + (q - n.toInt32.toInt64) * (4 : Int64)).toInt ∧ (u + (q - n.toInt32.toInt64) * (4 : Int64)).toInt ≤ u.toInt + 400 := by
  have a := own_t64 n (by omega)
  have b := x_lsub q n.toInt32.toInt64 (by omega)
  have c := x_lmul (q - n.toInt32.toInt64) 4 (4 * (16 - n)) (by rw [b, a, h3]; show _ * (4 : Int) = _; omega) (by omega)
  have d := x_ladd u ((q - n.toInt32.toInt64) * (4 : Int64)) (by omega)
  omega
theorem d11_0 : decode k11_ 0 = .ok (.lload_n 2, 1) := by decide +kernel
theorem d11_1 : decode k11_ 1 = .ok (.ldc2_w 56, 3) := by decide +kernel
theorem d11_4 : decode k11_ 4 = .ok (.lcmp, 1) := by decide +kernel
theorem d11_5 : decode k11_ 5 = .ok (.ifCond .le 7, 3) := by decide +kernel
theorem d11_12 : decode k11_ 12 = .ok (.lload_n 2, 1) := by decide +kernel
theorem d11_13 : decode k11_ 13 = .ok (.ldc2_w 62, 3) := by decide +kernel
theorem d11_16 : decode k11_ 16 = .ok (.lmul, 1) := by decide +kernel
theorem d11_17 : decode k11_ 17 = .ok (.aload_n 0, 1) := by decide +kernel
theorem d11_18 : decode k11_ 18 = .ok (.getfield 9, 3) := by decide +kernel
theorem d11_21 : decode k11_ 21 = .ok (.aload_n 0, 1) := by decide +kernel
theorem d11_22 : decode k11_ 22 = .ok (.getfield 64, 3) := by decide +kernel
theorem d11_25 : decode k11_ 25 = .ok (.lsub, 1) := by decide +kernel
theorem d11_26 : decode k11_ 26 = .ok (.lcmp, 1) := by decide +kernel
theorem d11_27 : decode k11_ 27 = .ok (.ifCond .le 8, 3) := by decide +kernel
theorem d11_35 : decode k11_ 35 = .ok (.aload_n 0, 1) := by decide +kernel
theorem d11_36 : decode k11_ 36 = .ok (.dup, 1) := by decide +kernel
theorem d11_37 : decode k11_ 37 = .ok (.getfield 64, 3) := by decide +kernel
theorem d11_40 : decode k11_ 40 = .ok (.lload_n 2, 1) := by decide +kernel
theorem d11_41 : decode k11_ 41 = .ok (.aload_n 1, 1) := by decide +kernel
theorem d11_42 : decode k11_ 42 = .ok (.arraylength, 1) := by decide +kernel
theorem d11_43 : decode k11_ 43 = .ok (.i2l, 1) := by decide +kernel
theorem d11_44 : decode k11_ 44 = .ok (.lsub, 1) := by decide +kernel
theorem d11_45 : decode k11_ 45 = .ok (.ldc2_w 62, 3) := by decide +kernel
theorem d11_48 : decode k11_ 48 = .ok (.lmul, 1) := by decide +kernel
theorem d11_49 : decode k11_ 49 = .ok (.ladd, 1) := by decide +kernel
theorem d11_50 : decode k11_ 50 = .ok (.putfield 64, 3) := by decide +kernel
theorem d11_53 : decode k11_ 53 = .ok (.lload_n 2, 1) := by decide +kernel
theorem d11_54 : decode k11_ 54 = .ok (.l2i, 1) := by decide +kernel
theorem d11_55 : decode k11_ 55 = .ok (.newarray .int, 2) := by decide +kernel
theorem d11_57 : decode k11_ 57 = .ok (.areturn, 1) := by decide +kernel
theorem pn_11 : plainName "com/example/deft_nets/deftnets/MemoryBudget" = true := by first | (simp [plainName, overriddenIn]; done) | decide +kernel
theorem ef_11 (m : MethodId) (a1 : Addr) (a2 : Addr) (q3 : Int64) : entryFrame m #[(.ref a1), (.ref a2), (.long q3)] 4 = mkF m 0 #[.val (.ref a1), .val (.ref a2), .val (.long q3), .second] [] := by first | (simp [entryFrame, mkF, argsToLocals, Value.category]; done) | rfl
def Q11 (Z : State) (a1 : Addr) (a2 : Addr) (q3 : Int64) (used : Int64) (nA : Nat) (g : Nat → Int32) (h0 : Heap) (n0 : Nat) (v : Option Value) (h : Heap) (L : List Loc) : Prop := ∃ (x : Addr) (u' : Int64), v = some (.ref x) ∧ Fr n0 L ∧ Keep h0 h [a1] ∧ BG Z h a1 u' ∧ h0.size ≤ x ∧ OwnA Z h x .int 16 (iv' fun _ => 0) ∧ used.toInt ≤ u'.toInt ∧ u'.toInt ≤ used.toInt + 400
set_option maxRecDepth 65536 in
set_option maxHeartbeats 40000000 in
theorem rm11 (l : Launch) (Z : State) (a0 : Array Value) (hw : HW a0 Z) (ws : List Jvm.Cond) (a1 : Addr) (a2 : Addr) (q3 : Int64) (used : Int64) (nA : Nat) (g : Nat → Int32) (h0 : Heap) (n0 : Nat) (Z0 : n0 ≤ h0.size) (gb_a1 : n0 ≤ a1) (hB : BG Z h0 a1 used) (A_a2 : OwnA Z h0 a2 .int nA (iv' g)) (hne : a2 ≠ a1) (hu : 0 ≤ used.toInt ∧ used.toInt ≤ 100000) (hn : nA ≤ 16) (h3 : q3.toInt = 16) :
    MetFree l mn_11 (head1 (Jvm.Cond.code mn_11 prog_34_method_6_code 4 (some (.array .int)) :: ws) ({ frames := 0, cells := 1, slots := 16, locals := 0 } : Room)) (fun a U => a = #[(.ref a1), (.ref a2), (.long q3)] ∧ Z.Warmed39 U.vm ∧ U.heap = h0) (fun _ _ _ _ _ => True) (fun _ U o U' => ∃ v L, o = .returned v ∧ Q11 Z a1 a2 q3 used nA g h0 n0 v U'.heap L ∧ FrameEnd U o U' L ({ frames := 0, cells := 1, slots := 16, locals := 0 } : Room).cells ({ frames := 0, cells := 1, slots := 16, locals := 0 } : Room).slots) := by
  refine MetFree.of_bodySF (plainFor_of_name pn_11) hisR ?_
  intro p e s m args below meth c s₁ Bd hml0 hP hK
  obtain ⟨rfl, hZ, hh⟩ := hP
  have hx := Bd.exec
  have hby := Bd.bytes
  have H := And.intro hx hby
  have hml : c.maxLocals = 4 := hml0
  have hown : s.vm.findClass "com/example/deft_nets/deftnets/MemoryBudget" = some m.cls := findClass_of_methodNamed Bd.named
  have hnm := (name_of_methodNamed Bd.named Bd.method).1
  have X0 : Stand p l e ({ frames := 0, cells := 1, slots := 16, locals := 0 } : Room) s m #[(.ref a1), (.ref a2), (.long q3)] below meth c s₁ [] 0 0 := Stand.of_body Bd
  have e0 : s₁.heap = h0 := by rw [← hh, Bd.state]; rfl
  have N0 := Fr.nil n0
  suffices hG : OwnG p e below s (Q11 Z a1 a2 q3 used nA g h0 n0) ({ frames := 0, cells := 1, slots := 16, locals := 0 } : Room).cells ({ frames := 0, cells := 1, slots := 16, locals := 0 } : Room).slots s₁ (mkF m 0 #[.val (.ref a1), .val (.ref a2), .val (.long q3), .second] []) by
    obtain ⟨s2, o2, g1, g2⟩ := hG
    exact ⟨s2, o2, castTop (ef_11 m a1 a2 q3) g1, g2⟩
  obtain ⟨EBG_51, FBG0_51, FBG1_51⟩ := hB
  have hq16 : q3.toInt32.toInt = 16 := (x_l2i q3 (by omega)).trans h3
  have hc5_52 : ¬ ((2147483639 : Int64) < q3) := by rw [Int64.lt_iff_toInt_lt]; show ¬ (2147483639 : Int) < _; omega
  refine OwnG.st (y_lloadN X0 H d11_0 rfl) ?_
  refine OwnG.st (y_ldc2 X0 H hown (mvT hZ (ww hw 90 rfl)) d11_1) ?_
  refine OwnG.st (y_lcmp X0 H d11_4) ?_
  refine OwnG.st (y_ifY X0 H 12 d11_5 ((if0 _ _).trans (flt (mt (lw_gt q3 (2147483639 : Int64)).mp hc5_52)).2.2.2) (by decide) (by decide)) ?_
  refine OwnG.st (y_lloadN X0 H d11_12 rfl) ?_
  refine OwnG.st (y_ldc2 X0 H hown (mvT hZ (ww hw 91 rfl)) d11_13) ?_
  refine OwnG.st (y_lmul X0 H d11_16) ?_
  refine OwnG.st (y_aloadN X0 H d11_17 rfl) ?_
  refine OwnG.v1 21 (getF X0 hx hZ hown (host := "") (Or.inl (ww hw 29 rfl)) Via.refl e0 FBG0_51 (g := mkF m 18 _ _) rfl rfl (hb hby d11_18)) ?_
  intro T53 X53 e53
  refine OwnG.st (y_aloadN X53 H d11_21 rfl) ?_
  refine OwnG.v1 25 (getF X53 hx hZ hown (host := "") (Or.inl (ww hw 92 rfl)) Via.refl e53 FBG1_51 (g := mkF m 22 _ _) rfl rfl (hb hby d11_22)) ?_
  intro T54 X54 e54
  have hc27_55 : ¬ (((1099511627776 : Int64) - used) < (q3 * (4 : Int64))) := own_lims used q3 hu h3
  refine OwnG.st (y_lsub X54 H d11_25) ?_
  refine OwnG.st (y_lcmp X54 H d11_26) ?_
  refine OwnG.st (y_ifY X54 H 35 d11_27 ((if0 _ _).trans (flt (mt (lw_gt (q3 * (4 : Int64)) ((1099511627776 : Int64) - used)).mp hc27_55)).2.2.2) (by decide) (by decide)) ?_
  refine OwnG.st (y_aloadN X54 H d11_35 rfl) ?_
  refine OwnG.st (y_dup X54 H d11_36 rfl) ?_
  refine OwnG.v1 40 (getF X54 hx hZ hown (host := "") (Or.inl (ww hw 92 rfl)) Via.refl e54 FBG1_51 (g := mkF m 37 _ _) rfl rfl (hb hby d11_37)) ?_
  intro T56 X56 e56
  refine OwnG.st (y_lloadN X56 H d11_40 rfl) ?_
  refine OwnG.st (y_aloadN X56 H d11_41 rfl) ?_
  refine OwnG.st (y_len A_a2 X56 H hZ e56 d11_42 (nA.toInt32) rfl) ?_
  refine OwnG.st (y_i2l X56 H d11_43) ?_
  refine OwnG.st (y_lsub X56 H d11_44) ?_
  refine OwnG.st (y_ldc2 X56 H hown (mvT hZ (ww hw 91 rfl)) d11_45) ?_
  refine OwnG.st (y_lmul X56 H d11_48) ?_
  refine OwnG.st (y_ladd X56 H d11_49) ?_
  refine OwnG.v2 53 (putF X56 hx hZ hown (host := "") (Or.inl (ww hw 92 rfl)) Via.refl e56 FBG1_51 EBG_51 (Or.inl (ww hw 93 rfl)) (ww hw 12 rfl) (ty := .long) (by decide) rfl rfl (g := mkF m 50 _ _) rfl rfl (hb hby d11_50)) ?_
  intro T57 h57 X57 e57 W57
  have f58 := Exa.wr W57 EBG_51
  have f59 := Fld.other W57 FBG0_51 (Or.inr (sn_0 hw))
  have Fw57 : Fld Z h57 a1 "com/example/deft_nets/deftnets/MemoryBudget" "mUsed" "J" (.long (used + ((q3 - ((nA.toInt32).toInt64)) * (4 : Int64)))) := Fld.same W57 FBG1_51
  have N57 := Fr.snoc X57 N0 gb_a1
  have K57 : Keep h0 h57 [a1] := (Keep.refl h0 [a1]).wr W57 (Or.inl (List.mem_of_getElem? (i := 0) rfl))
  refine OwnG.st (y_lloadN X57 H d11_53 rfl) ?_
  refine OwnG.st (y_l2i X57 H d11_54) ?_
  refine OwnG.v4 57 1 16 X57 (newP X57 hx hZ (ww hw 7 rfl) e57 (g := mkF m 55 _ _) rfl (hb hby d11_55) rfl (own_nlt _ (by omega)) (cap := 16) (own_cle _ _ (by omega)) (by decide) (by decide) (by decide)) rfl rfl ?_
  intro T61 h61 k61 X61 e61 E61 A61
  obtain ⟨b61, g61⟩ : ∃ z, z = h57.size := ⟨_, rfl⟩
  rw [← g61] at A61 ⊢
  have V61 : OwnA Z h61 b61 .int 16 (iv' fun _ => 0) := own_newA A61 hq16
  have f64 := Exa.ext E61 f58
  have f65 := Fld.ext E61 f59
  have f66 := Fld.ext E61 Fw57
  have sz_b61 : LeA (h0.size) (b61) := Nat.le_trans K57.1 (Nat.le_of_eq g61.symm)
  have K61 : Keep h0 h61 [a1] := K57.ext E61
  have hus := own_rus used q3 nA hu h3 hn
  exact OwnG.retR X61 hx Bd.returns rfl rfl (BodyLoose.notSynchronized Bd) (hb hby d11_57) (by rw [e61]; exact ⟨b61, _, rfl, N57, K61, ⟨f64, f65, f66⟩, sz_b61, V61, hus.1, hus.2⟩) (by decide) (by decide)
theorem d9_0 : decode k9_ 0 = .ok (.aload_n 0, 1) := by decide +kernel
theorem d9_1 : decode k9_ 1 = .ok (.getfield 26, 3) := by decide +kernel
theorem d9_4 : decode k9_ 4 = .ok (.aload_n 0, 1) := by decide +kernel
theorem d9_5 : decode k9_ 5 = .ok (.getfield 20, 3) := by decide +kernel
theorem d9_8 : decode k9_ 8 = .ok (.ldc2_w 143, 3) := by decide +kernel
theorem d9_11 : decode k9_ 11 = .ok (.ldc2_w 49, 3) := by decide +kernel
theorem d9_14 : decode k9_ 14 = .ok (.aload_n 0, 1) := by decide +kernel
theorem d9_15 : decode k9_ 15 = .ok (.getfield 20, 3) := by decide +kernel
theorem d9_18 : decode k9_ 18 = .ok (.arraylength, 1) := by decide +kernel
theorem d9_19 : decode k9_ 19 = .ok (.i2l, 1) := by decide +kernel
theorem d9_20 : decode k9_ 20 = .ok (.lmul, 1) := by decide +kernel
theorem d9_21 : decode k9_ 21 = .ok (.invokestatic 145, 3) := by decide +kernel
theorem d9_24 : decode k9_ 24 = .ok (.invokevirtual 149, 3) := by decide +kernel
theorem d9_27 : decode k9_ 27 = .ok (.astore_n 1, 1) := by decide +kernel
theorem d9_28 : decode k9_ 28 = .ok (.aload_n 1, 1) := by decide +kernel
theorem d9_29 : decode k9_ 29 = .ok (.arraylength, 1) := by decide +kernel
theorem d9_30 : decode k9_ 30 = .ok (.iconst 1, 1) := by decide +kernel
theorem d9_31 : decode k9_ 31 = .ok (.isub, 1) := by decide +kernel
theorem d9_32 : decode k9_ 32 = .ok (.istore_n 2, 1) := by decide +kernel
theorem d9_33 : decode k9_ 33 = .ok (.iconst 0, 1) := by decide +kernel
theorem d9_34 : decode k9_ 34 = .ok (.istore_n 3, 1) := by decide +kernel
theorem d9_35 : decode k9_ 35 = .ok (.iload_n 3, 1) := by decide +kernel
theorem d9_36 : decode k9_ 36 = .ok (.aload_n 0, 1) := by decide +kernel
theorem d9_37 : decode k9_ 37 = .ok (.getfield 30, 3) := by decide +kernel
theorem d9_40 : decode k9_ 40 = .ok (.if_icmp .ge 44, 3) := by decide +kernel
theorem d9_84 : decode k9_ 84 = .ok (.aload_n 0, 1) := by decide +kernel
theorem d9_85 : decode k9_ 85 = .ok (.aload_n 1, 1) := by decide +kernel
theorem d9_86 : decode k9_ 86 = .ok (.putfield 20, 3) := by decide +kernel
theorem d9_89 : decode k9_ 89 = .ok (.return_, 1) := by decide +kernel
theorem pn_9 : plainName "com/example/deft_nets/deftnets/MarkingStore" = true := by first | (simp [plainName, overriddenIn]; done) | decide +kernel
theorem pd_9_0 : parseMethodDescriptor "(JJ)J" = some ⟨[.long, .long], some .long⟩ := by decide +kernel
theorem pd_9_1 : parseMethodDescriptor "([IJ)[I" = some ⟨[(.array .int), .long], some (.array .int)⟩ := by decide +kernel
theorem ef_9 (m : MethodId) (a1 : Addr) : entryFrame m #[(.ref a1)] 5 = mkF m 0 #[.val (.ref a1), .unset, .unset, .unset, .unset] [] := by first | (simp [entryFrame, mkF, argsToLocals, Value.category]; done) | rfl
def Q9 (Z : State) (a1 : Addr) (pool : Addr) (psz : Int32) (start : Addr) (hash : Addr) (table : Addr) (enc : Addr) (elen : Int32) (next : Int64) (bud : Addr) (used : Int64) (gT : Nat → Int32) (h0 : Heap) (n0 : Nat) (v : Option Value) (h : Heap) (L : List Loc) : Prop := ∃ (x : Addr) (u' : Int64), v = none ∧ Fr n0 L ∧ Keep h0 h [a1, bud] ∧ MS Z h a1 pool psz start hash x enc elen next (0 : Int32) bud ∧ BG Z h bud u' ∧ h0.size ≤ x ∧ OwnA Z h x .int 16 (iv' fun _ => 0) ∧ used.toInt ≤ u'.toInt ∧ u'.toInt ≤ used.toInt + 400
set_option maxRecDepth 65536 in
set_option maxHeartbeats 40000000 in
theorem rm9 (l : Launch) (Z : State) (a0 : Array Value) (hw : HW a0 Z) (ws : List Jvm.Cond) (a1 : Addr) (pool : Addr) (psz : Int32) (start : Addr) (hash : Addr) (table : Addr) (enc : Addr) (elen : Int32) (next : Int64) (bud : Addr) (used : Int64) (gT : Nat → Int32) (h0 : Heap) (n0 : Nat) (Z0 : n0 ≤ h0.size) (gb_a1 : n0 ≤ a1) (gb_bud : n0 ≤ bud) (hM : MS Z h0 a1 pool psz start hash table enc elen next (0 : Int32) bud) (hB : BG Z h0 bud used) (A_t : OwnA Z h0 table .int 0 (iv' gT)) (ne_b : bud ≠ a1) (ne_t1 : table ≠ a1) (ne_t2 : table ≠ bud) (hu : 0 ≤ used.toInt ∧ used.toInt ≤ 100000) :
    MetFree l mn_9 (head1 (Jvm.Cond.code mn_9 prog_31_method_15_code 5 none :: ws) ({ frames := 1, cells := 1, slots := 16, locals := 17 } : Room)) (fun a U => a = #[(.ref a1)] ∧ Z.Warmed39 U.vm ∧ U.heap = h0) (fun _ _ _ _ _ => True) (fun _ U o U' => ∃ v L, o = .returned v ∧ Q9 Z a1 pool psz start hash table enc elen next bud used gT h0 n0 v U'.heap L ∧ FrameEnd U o U' L ({ frames := 1, cells := 1, slots := 16, locals := 17 } : Room).cells ({ frames := 1, cells := 1, slots := 16, locals := 17 } : Room).slots) := by
  refine MetFree.of_bodySF (plainFor_of_name pn_9) hisR ?_
  intro p e s m args below meth c s₁ Bd hml0 hP hK
  obtain ⟨rfl, hZ, hh⟩ := hP
  have hx := Bd.exec
  have hby := Bd.bytes
  have H := And.intro hx hby
  have hml : c.maxLocals = 5 := hml0
  have hown : s.vm.findClass "com/example/deft_nets/deftnets/MarkingStore" = some m.cls := findClass_of_methodNamed Bd.named
  have hnm := (name_of_methodNamed Bd.named Bd.method).1
  have X0 : Stand p l e ({ frames := 1, cells := 1, slots := 16, locals := 17 } : Room) s m #[(.ref a1)] below meth c s₁ [] 0 0 := Stand.of_body Bd
  have e0 : s₁.heap = h0 := by rw [← hh, Bd.state]; rfl
  have N0 := Fr.nil n0
  suffices hG : OwnG p e below s (Q9 Z a1 pool psz start hash table enc elen next bud used gT h0 n0) ({ frames := 1, cells := 1, slots := 16, locals := 17 } : Room).cells ({ frames := 1, cells := 1, slots := 16, locals := 17 } : Room).slots s₁ (mkF m 0 #[.val (.ref a1), .unset, .unset, .unset, .unset] []) by
    obtain ⟨s2, o2, g1, g2⟩ := hG
    exact ⟨s2, o2, castTop (ef_9 m a1) g1, g2⟩
  obtain ⟨EMS_51, FMS0_51, FMS1_51, FMS2_51, FMS3_51, FMS4_51, FMS5_51, FMS6_51, FMS7_51, FMS8_51, FMS9_51⟩ := hM
  obtain ⟨EBG_52, FBG0_52, FBG1_52⟩ := hB
  refine OwnG.st (y_aloadN X0 H d9_0 rfl) ?_
  refine OwnG.v1 4 (getF X0 hx hZ hown (host := "") (Or.inl (ww hw 47 rfl)) Via.refl e0 FMS9_51 (g := mkF m 1 _ _) rfl rfl (hb hby d9_1)) ?_
  intro T53 X53 e53
  refine OwnG.st (y_aloadN X53 H d9_4 rfl) ?_
  refine OwnG.v1 8 (getF X53 hx hZ hown (host := "") (Or.inl (ww hw 43 rfl)) Via.refl e53 FMS4_51 (g := mkF m 5 _ _) rfl rfl (hb hby d9_5)) ?_
  intro T54 X54 e54
  refine OwnG.st (y_ldc2 X54 H hown (mvT hZ (ww hw 81 rfl)) d9_8) ?_
  refine OwnG.st (y_ldc2 X54 H hown (mvT hZ (ww hw 74 rfl)) d9_11) ?_
  refine OwnG.st (y_aloadN X54 H d9_14 rfl) ?_
  refine OwnG.v1 18 (getF X54 hx hZ hown (host := "") (Or.inl (ww hw 43 rfl)) Via.refl e54 FMS4_51 (g := mkF m 15 _ _) rfl rfl (hb hby d9_15)) ?_
  intro T55 X55 e55
  refine OwnG.st (y_len A_t X55 H hZ e55 d9_18 (0 : Int32) rfl) ?_
  refine OwnG.st (y_i2l X55 H d9_19) ?_
  refine OwnG.st (y_lmul X55 H d9_20) ?_
  refine OwnG.cl 24 0 0 X55 (Jvm.LawKit.callS X55 hx (y := mn_10) hown (mvT hZ (ww hw 82 rfl)) (mvT hZ (ww hw 83 rfl)) (mvT hZ (ww hw 4 rfl)) (mvT hZ (ww hw 84 rfl)) (by decide) (backOf (W := 2) (rm10 l Z a0 hw [] (16 : Int64) ((2 : Int64) * ((0 : Int32).toInt64))  h0 n0 Z0 ) hZ (ww hw 84 rfl) (ww hw 4 rfl) (by decide) (by decide)) (g := mkF m 21 _ _) rfl (by rw [hml]; rfl) (argsL := [(.long (16 : Int64)), (.long ((2 : Int64) * ((0 : Int32).toInt64)))]) (rest := [(.ref table), (.ref bud)]) (lenOf pd_9_0 rfl) rfl (by show 2 * 0 + _ ≤ _; exact Nat.le_of_eq rfl) (hb hby d9_21) (fun _ _ => ⟨rfl, e55, (by decide : 0 + 0 ≤ _), (by decide : 0 + 0 ≤ _)⟩)) rfl rfl ?_
  intro T56 Lc56 vc56 X56 hQ56
  obtain ⟨hv56, N56q, e56⟩ := hQ56
  have N56 := Fr.app N0 N56q
  refine OwnG.cv hv56 ?_
  clear hv56
  obtain ⟨cq57, kq57, q57a, q57b, q57c⟩ := isOf hZ e56 EBG_52
  refine OwnG.cm 27 1 16 X56 (X56.virtualBack hx (y := mn_11) (z := mn_11) hown (mvT hZ (ww hw 85 rfl)) (mvT hZ (ww hw 86 rfl)) (notFace_of_selects (args := #[]) (mvT hZ (ww hw 88 rfl))) (mvT hZ (ww hw 88 rfl)) (mvT hZ (ww hw 87 rfl)) (by decide) (backOf (W := 0) (rm11 l Z a0 hw [] bud table (F10 (16 : Int64) ((2 : Int64) * ((0 : Int32).toInt64))) used 0 gT h0 n0 Z0 gb_bud ⟨EBG_52, FBG0_52, FBG1_52⟩ A_t ne_t2 hu (by decide) (by decide)) hZ (ww hw 89 rfl) (ww hw 13 rfl) (by decide) (by decide)) q57a q57c (g := mkF m 24 _ _) rfl (by rw [hml]; rfl) (Steps.refl _) (argsL := [(.ref table), (.long (F10 (16 : Int64) ((2 : Int64) * ((0 : Int32).toInt64))))]) (rest := []) (lenOf pd_9_1 rfl) rfl (by show 2 * 0 + _ ≤ _; exact Nat.le_of_eq rfl) (hb hby d9_24) (fun _ _ => ⟨rfl, e56, (by decide : 0 + 1 ≤ _), (by decide : 0 + 16 ≤ _)⟩)) rfl rfl ?_
  intro T57 Lc57 vc57 X57 hQ57
  obtain ⟨x57, u57, hv57, N57q, Kq57, B57q, sx57, Vq57, hu57a, hu57b⟩ := hQ57
  have ne57_58 : NeA a1 x57 := Nat.ne_of_lt (Nat.lt_of_lt_of_le (Exa.lt EMS_51) sx57)
  have sz_x57 : LeA (h0.size) (x57) := Nat.le_trans (Keep.refl h0 [a1, bud]).1 sx57
  have f61 := Exa.keep EMS_51 Kq57
  have f62 := Fld.keep FMS0_51 Kq57 (ninS (Ne.symm ne_b) nin0)
  have f63 := Fld.keep FMS1_51 Kq57 (ninS (Ne.symm ne_b) nin0)
  have f64 := Fld.keep FMS2_51 Kq57 (ninS (Ne.symm ne_b) nin0)
  have f65 := Fld.keep FMS3_51 Kq57 (ninS (Ne.symm ne_b) nin0)
  have f66 := Fld.keep FMS4_51 Kq57 (ninS (Ne.symm ne_b) nin0)
  have f67 := Fld.keep FMS5_51 Kq57 (ninS (Ne.symm ne_b) nin0)
  have f68 := Fld.keep FMS6_51 Kq57 (ninS (Ne.symm ne_b) nin0)
  have f69 := Fld.keep FMS7_51 Kq57 (ninS (Ne.symm ne_b) nin0)
  have f70 := Fld.keep FMS8_51 Kq57 (ninS (Ne.symm ne_b) nin0)
  have f71 := Fld.keep FMS9_51 Kq57 (ninS (Ne.symm ne_b) nin0)
  have K57 : Keep h0 T57.heap [a1, bud] := (Keep.refl h0 [a1, bud]).trans Kq57 (fun x hx => by simp only [List.mem_cons, List.not_mem_nil, or_false] at hx; simp only [List.mem_cons, List.not_mem_nil, or_false]; first | (left; exact hx) | (rcases hx with q | q <;> simp [q]) | (simp [hx]))
  obtain ⟨EBG_74, FBG0_74, FBG1_74⟩ := B57q
  have N57 := Fr.app N56 N57q
  refine OwnG.cv hv57 ?_
  clear hv57
  refine OwnG.st (y_astoreN X57 H #[.val (.ref a1), .val (.ref x57), .unset, .unset, .unset] d9_27 rfl) ?_
  refine OwnG.st (y_aloadN X57 H d9_28 rfl) ?_
  refine OwnG.st (y_len Vq57 X57 H hZ rfl d9_29 (16 : Int32) rfl) ?_
  refine OwnG.st (y_iconst X57 H (1) d9_30 rfl) ?_
  refine OwnG.st (y_isub X57 H d9_31) ?_
  refine OwnG.st (y_istoreN X57 H #[.val (.ref a1), .val (.ref x57), .val (.int ((16 : Int32) - (1 : Int32))), .unset, .unset] d9_32 rfl) ?_
  refine OwnG.st (y_iconst X57 H (0) d9_33 rfl) ?_
  refine OwnG.st (y_istoreN X57 H #[.val (.ref a1), .val (.ref x57), .val (.int ((16 : Int32) - (1 : Int32))), .val (.int (0 : Int32)), .unset] d9_34 rfl) ?_
  refine OwnG.st (y_iloadN X57 H d9_35 rfl) ?_
  refine OwnG.st (y_aloadN X57 H d9_36 rfl) ?_
  refine OwnG.v1 40 (getF X57 hx hZ hown (host := "") (Or.inl (ww hw 75 rfl)) Via.refl rfl f70 (g := mkF m 37 _ _) rfl rfl (hb hby d9_37)) ?_
  intro T75 X75 e75
  have hc40_76 : ¬ ((0 : Int32) < (0 : Int32)) := by decide
  refine OwnG.st (y_icY X75 H 84 d9_40 (flt hc40_76).2.1 (by decide) (by decide)) ?_
  refine OwnG.st (y_aloadN X75 H d9_84 rfl) ?_
  refine OwnG.st (y_aloadN X75 H d9_85 rfl) ?_
  refine OwnG.v2 89 (putF X75 hx hZ hown (host := "") (Or.inl (ww hw 43 rfl)) Via.refl e75 f66 f61 (Or.inl (ww hw 44 rfl)) (ww hw 9 rfl) (ty := (.array .int)) (by decide) rfl rfl (g := mkF m 86 _ _) rfl rfl (hb hby d9_86)) ?_
  intro T77 h77 X77 e77 W77
  have f78 := Exa.wr W77 f61
  have f79 := Fld.other W77 f62 (Or.inr (sn_1 hw))
  have f80 := Fld.other W77 f63 (Or.inr (sn_2 hw))
  have f81 := Fld.other W77 f64 (Or.inr (sn_3 hw))
  have f82 := Fld.other W77 f65 (Or.inr (sn_4 hw))
  have f83 := Fld.other W77 f67 (Or.inr (sn_5 hw))
  have f84 := Fld.other W77 f68 (Or.inr (sn_6 hw))
  have f85 := Fld.other W77 f69 (Or.inr (sn_7 hw))
  have f86 := Fld.other W77 f70 (Or.inr (sn_8 hw))
  have f87 := Fld.other W77 f71 (Or.inr (sn_9 hw))
  have f88 := Exa.wr W77 EBG_74
  have f89 := Fld.other W77 FBG0_74 (Or.inl ne_b)
  have f90 := Fld.other W77 FBG1_74 (Or.inl ne_b)
  have f92 := Vq57.other W77 (Ne.symm ne57_58)
  have Fw77 : Fld Z h77 a1 "com/example/deft_nets/deftnets/MarkingStore" "mTable" "[I" (.ref x57) := Fld.same W77 f66
  have N77 := Fr.snoc X77 N57 gb_a1
  have K77 : Keep h0 h77 [a1, bud] := K57.wr W77 (Or.inl (by simp))
  exact OwnG.retV X77 hx Bd.returns (BodyLoose.notSynchronized Bd) (hb hby d9_89) (by rw [e77]; exact ⟨x57, _, rfl, N77, K77, ⟨f78, f79, f80, f81, f82, Fw77, f83, f84, f85, f86, f87⟩, ⟨f88, f89, f90⟩, sz_x57, f92, hu57a, hu57b⟩) (by decide) (by decide)
theorem d18_0 : decode k18_ 0 = .ok (.lload_n 0, 1) := by decide +kernel
theorem d18_1 : decode k18_ 1 = .ok (.l2i, 1) := by decide +kernel
theorem d18_2 : decode k18_ 2 = .ok (.i2l, 1) := by decide +kernel
theorem d18_3 : decode k18_ 3 = .ok (.lload_n 0, 1) := by decide +kernel
theorem d18_4 : decode k18_ 4 = .ok (.lcmp, 1) := by decide +kernel
theorem d18_5 : decode k18_ 5 = .ok (.ifCond .eq 13, 3) := by decide +kernel
theorem d18_18 : decode k18_ 18 = .ok (.lload_n 0, 1) := by decide +kernel
theorem d18_19 : decode k18_ 19 = .ok (.l2i, 1) := by decide +kernel
theorem d18_20 : decode k18_ 20 = .ok (.ireturn, 1) := by decide +kernel
theorem ef_18 (m : MethodId) (q1 : Int64) : entryFrame m #[(.long q1)] 2 = mkF m 0 #[.val (.long q1), .second] [] := by first | (simp [entryFrame, mkF, argsToLocals, Value.category]; done) | rfl
def Q18 (Z : State) (q1 : Int64) (h0 : Heap) (n0 : Nat) (v : Option Value) (h : Heap) (L : List Loc) : Prop := v = some (.int q1.toInt32) ∧ Fr n0 L ∧ h = h0
set_option maxRecDepth 65536 in
set_option maxHeartbeats 40000000 in
theorem rm18 (l : Launch) (Z : State) (a0 : Array Value) (hw : HW a0 Z) (ws : List Jvm.Cond) (q1 : Int64)  (h0 : Heap) (n0 : Nat) (Z0 : n0 ≤ h0.size) (hs0 : q1.toInt32.toInt64 = q1) :
    MetFree l mn_18 (head1 (Jvm.Cond.code mn_18 jdk_29_method_43_code 2 (some .int) :: ws) ({ frames := 0, cells := 0, slots := 0, locals := 0 } : Room)) (fun a U => a = #[(.long q1)] ∧ Z.Warmed39 U.vm ∧ U.heap = h0) (fun _ _ _ _ _ => True) (fun _ U o U' => ∃ v L, o = .returned v ∧ Q18 Z q1 h0 n0 v U'.heap L ∧ FrameEnd U o U' L ({ frames := 0, cells := 0, slots := 0, locals := 0 } : Room).cells ({ frames := 0, cells := 0, slots := 0, locals := 0 } : Room).slots) := by
  refine MetFree.of_bodySF (Jvm.Free.JP.mathPlain rfl (by decide +kernel)) hisR ?_
  intro p e s m args below meth c s₁ Bd hml0 hP hK
  obtain ⟨rfl, hZ, hh⟩ := hP
  have hx := Bd.exec
  have hby := Bd.bytes
  have H := And.intro hx hby
  have hml : c.maxLocals = 2 := hml0
  have hown : s.vm.findClass "java/lang/Math" = some m.cls := findClass_of_methodNamed Bd.named
  have hnm := (name_of_methodNamed Bd.named Bd.method).1
  have X0 : Stand p l e ({ frames := 0, cells := 0, slots := 0, locals := 0 } : Room) s m #[(.long q1)] below meth c s₁ [] 0 0 := Stand.of_body Bd
  have e0 : s₁.heap = h0 := by rw [← hh, Bd.state]; rfl
  have N0 := Fr.nil n0
  suffices hG : OwnG p e below s (Q18 Z q1 h0 n0) ({ frames := 0, cells := 0, slots := 0, locals := 0 } : Room).cells ({ frames := 0, cells := 0, slots := 0, locals := 0 } : Room).slots s₁ (mkF m 0 #[.val (.long q1), .second] []) by
    obtain ⟨s2, o2, g1, g2⟩ := hG
    exact ⟨s2, o2, castTop (ef_18 m q1) g1, g2⟩
  have hc5_51 : ((q1.toInt32).toInt64) = q1 := hs0
  refine OwnG.st (y_lloadN X0 H d18_0 rfl) ?_
  refine OwnG.st (y_l2i X0 H d18_1) ?_
  refine OwnG.st (y_i2l X0 H d18_2) ?_
  refine OwnG.st (y_lloadN X0 H d18_3 rfl) ?_
  refine OwnG.st (y_lcmp X0 H d18_4) ?_
  refine OwnG.st (y_ifY X0 H 18 d18_5 ((if0 _ _).trans (teq ((lw_eq ((q1.toInt32).toInt64) q1).mpr hc5_51)).1) (by decide) (by decide)) ?_
  refine OwnG.st (y_lloadN X0 H d18_18 rfl) ?_
  refine OwnG.st (y_l2i X0 H d18_19) ?_
  exact OwnG.retI X0 hx Bd.returns (BodyLoose.notSynchronized Bd) (hb hby d18_20) (by rw [e0]; exact ⟨rfl, N0, rfl⟩) (by decide) (by decide)
theorem own_14 (p : Int32) (h : 0 ≤ p.toInt ∧ p.toInt ≤ 2) : ((14 : Int64) * p.toInt64).toInt = 14 * p.toInt ∧ ((14 : Int64) * p.toInt64).toInt32.toInt = 14 * p.toInt ∧ ((14 : Int64) * p.toInt64).toInt32.toInt64 = (14 : Int64) * p.toInt64 := by
  have a := x_lmul 14 p.toInt64 (14 * p.toInt) (by rw [c_i2l]; rfl) (by omega)
  have b := x_l2i ((14 : Int64) * p.toInt64) (by omega)
  exact ⟨a, b.trans a, by rw [← Int64.toInt_inj, c_i2l]; exact b⟩
theorem d6_0 : decode k6_ 0 = .ok (.aload_n 0, 1) := by decide +kernel
theorem d6_1 : decode k6_ 1 = .ok (.getfield 23, 3) := by decide +kernel
theorem d6_4 : decode k6_ 4 = .ok (.arraylength, 1) := by decide +kernel
theorem d6_5 : decode k6_ 5 = .ok (.i2l, 1) := by decide +kernel
theorem d6_6 : decode k6_ 6 = .ok (.ldc2_w 122, 3) := by decide +kernel
theorem d6_9 : decode k6_ 9 = .ok (.iload_n 1, 1) := by decide +kernel
theorem d6_10 : decode k6_ 10 = .ok (.i2l, 1) := by decide +kernel
theorem d6_11 : decode k6_ 11 = .ok (.lmul, 1) := by decide +kernel
theorem d6_12 : decode k6_ 12 = .ok (.lcmp, 1) := by decide +kernel
theorem d6_13 : decode k6_ 13 = .ok (.ifCond .ge 18, 3) := by decide +kernel
theorem d6_16 : decode k6_ 16 = .ok (.aload_n 0, 1) := by decide +kernel
theorem d6_17 : decode k6_ 17 = .ok (.ldc2_w 122, 3) := by decide +kernel
theorem d6_20 : decode k6_ 20 = .ok (.iload_n 1, 1) := by decide +kernel
theorem d6_21 : decode k6_ 21 = .ok (.i2l, 1) := by decide +kernel
theorem d6_22 : decode k6_ 22 = .ok (.lmul, 1) := by decide +kernel
theorem d6_23 : decode k6_ 23 = .ok (.invokestatic 124, 3) := by decide +kernel
theorem d6_26 : decode k6_ 26 = .ok (.newarray .byte, 2) := by decide +kernel
theorem d6_28 : decode k6_ 28 = .ok (.putfield 23, 3) := by decide +kernel
theorem d6_31 : decode k6_ 31 = .ok (.aload_n 0, 1) := by decide +kernel
theorem d6_32 : decode k6_ 32 = .ok (.iconst 0, 1) := by decide +kernel
theorem d6_33 : decode k6_ 33 = .ok (.putfield 54, 3) := by decide +kernel
theorem d6_36 : decode k6_ 36 = .ok (.aload_n 0, 1) := by decide +kernel
theorem d6_37 : decode k6_ 37 = .ok (.lconst 0, 1) := by decide +kernel
theorem d6_38 : decode k6_ 38 = .ok (.putfield 130, 3) := by decide +kernel
theorem d6_41 : decode k6_ 41 = .ok (.return_, 1) := by decide +kernel
theorem pn_6 : plainName "com/example/deft_nets/deftnets/MarkingStore" = true := by first | (simp [plainName, overriddenIn]; done) | decide +kernel
theorem pd_6_0 : parseMethodDescriptor "(J)I" = some ⟨[.long], some .int⟩ := by decide +kernel
theorem ef_6 (m : MethodId) (a1 : Addr) (p2 : Int32) : entryFrame m #[(.ref a1), (.int p2)] 2 = mkF m 0 #[.val (.ref a1), .val (.int p2)] [] := by first | (simp [entryFrame, mkF, argsToLocals, Value.category]; done) | rfl
def Q6 (Z : State) (a1 : Addr) (p2 : Int32) (pool : Addr) (psz : Int32) (start : Addr) (hash : Addr) (table : Addr) (enc : Addr) (elen : Int32) (next : Int64) (size : Int32) (bud : Addr) (nE : Nat) (gE : Nat → Int32) (h0 : Heap) (n0 : Nat) (v : Option Value) (h : Heap) (L : List Loc) : Prop := ∃ (x : Addr) (n' : Nat) (g' : Nat → Int32), v = none ∧ Fr n0 L ∧ Keep h0 h [a1] ∧ MS Z h a1 pool psz start hash table x (0 : Int32) (0 : Int64) size bud ∧ OwnA Z h x .byte n' (iv' g') ∧ Byt g' ∧ OrA x enc h0.size ∧ 14 * p2.toInt ≤ n' ∧ n' ≤ 28
set_option maxRecDepth 65536 in
set_option maxHeartbeats 40000000 in
theorem rm6 (l : Launch) (Z : State) (a0 : Array Value) (hw : HW a0 Z) (ws : List Jvm.Cond) (a1 : Addr) (p2 : Int32) (pool : Addr) (psz : Int32) (start : Addr) (hash : Addr) (table : Addr) (enc : Addr) (elen : Int32) (next : Int64) (size : Int32) (bud : Addr) (nE : Nat) (gE : Nat → Int32) (h0 : Heap) (n0 : Nat) (Z0 : n0 ≤ h0.size) (gb_a1 : n0 ≤ a1) (hM : MS Z h0 a1 pool psz start hash table enc elen next size bud) (A_e : OwnA Z h0 enc .byte nE (iv' gE)) (ne_e : enc ≠ a1) (hBy : Byt gE) (h2 : 0 ≤ p2.toInt ∧ p2.toInt ≤ 2) (hn : nE ≤ 28) :
    MetFree l mn_6 (head1 (Jvm.Cond.code mn_6 prog_31_method_11_code 2 none :: ws) ({ frames := 1, cells := 1, slots := 28, locals := 14 } : Room)) (fun a U => a = #[(.ref a1), (.int p2)] ∧ Z.Warmed39 U.vm ∧ U.heap = h0) (fun _ _ _ _ _ => True) (fun _ U o U' => ∃ v L, o = .returned v ∧ Q6 Z a1 p2 pool psz start hash table enc elen next size bud nE gE h0 n0 v U'.heap L ∧ FrameEnd U o U' L ({ frames := 1, cells := 1, slots := 28, locals := 14 } : Room).cells ({ frames := 1, cells := 1, slots := 28, locals := 14 } : Room).slots) := by
  refine MetFree.of_bodySF (plainFor_of_name pn_6) hisR ?_
  intro p e s m args below meth c s₁ Bd hml0 hP hK
  obtain ⟨rfl, hZ, hh⟩ := hP
  have hx := Bd.exec
  have hby := Bd.bytes
  have H := And.intro hx hby
  have hml : c.maxLocals = 2 := hml0
  have hown : s.vm.findClass "com/example/deft_nets/deftnets/MarkingStore" = some m.cls := findClass_of_methodNamed Bd.named
  have hnm := (name_of_methodNamed Bd.named Bd.method).1
  have X0 : Stand p l e ({ frames := 1, cells := 1, slots := 28, locals := 14 } : Room) s m #[(.ref a1), (.int p2)] below meth c s₁ [] 0 0 := Stand.of_body Bd
  have e0 : s₁.heap = h0 := by rw [← hh, Bd.state]; rfl
  have N0 := Fr.nil n0
  suffices hG : OwnG p e below s (Q6 Z a1 p2 pool psz start hash table enc elen next size bud nE gE h0 n0) ({ frames := 1, cells := 1, slots := 28, locals := 14 } : Room).cells ({ frames := 1, cells := 1, slots := 28, locals := 14 } : Room).slots s₁ (mkF m 0 #[.val (.ref a1), .val (.int p2)] []) by
    obtain ⟨s2, o2, g1, g2⟩ := hG
    exact ⟨s2, o2, castTop (ef_6 m a1 p2) g1, g2⟩
  obtain ⟨EMS_51, FMS0_51, FMS1_51, FMS2_51, FMS3_51, FMS4_51, FMS5_51, FMS6_51, FMS7_51, FMS8_51, FMS9_51⟩ := hM
  have h14 := own_14 p2 h2
  refine OwnG.st (y_aloadN X0 H d6_0 rfl) ?_
  refine OwnG.v1 4 (getF X0 hx hZ hown (host := "") (Or.inl (ww hw 45 rfl)) Via.refl e0 FMS5_51 (g := mkF m 1 _ _) rfl rfl (hb hby d6_1)) ?_
  intro T52 X52 e52
  refine OwnG.st (y_len A_e X52 H hZ e52 d6_4 (nE.toInt32) rfl) ?_
  refine OwnG.st (y_i2l X52 H d6_5) ?_
  refine OwnG.st (y_ldc2 X52 H hown (mvT hZ (ww hw 58 rfl)) d6_6) ?_
  refine OwnG.st (y_iloadN X52 H d6_9 rfl) ?_
  refine OwnG.st (y_i2l X52 H d6_10) ?_
  refine OwnG.st (y_lmul X52 H d6_11) ?_
  refine OwnG.st (y_lcmp X52 H d6_12) ?_
  by_cases hc13_53 : ((nE.toInt32).toInt64) < ((14 : Int64) * (p2.toInt64))
  · refine OwnG.st (y_ifN X52 H d6_13 ((if0 _ _).trans (tlt ((lw_lt ((nE.toInt32).toInt64) ((14 : Int64) * (p2.toInt64))).mpr hc13_53)).2.1)) ?_
    refine OwnG.st (y_aloadN X52 H d6_16 rfl) ?_
    refine OwnG.st (y_ldc2 X52 H hown (mvT hZ (ww hw 58 rfl)) d6_17) ?_
    refine OwnG.st (y_iloadN X52 H d6_20 rfl) ?_
    refine OwnG.st (y_i2l X52 H d6_21) ?_
    refine OwnG.st (y_lmul X52 H d6_22) ?_
    refine OwnG.cl 26 0 0 X52 (Jvm.LawKit.callS X52 hx (y := mn_18) hown (mvT hZ (ww hw 127 rfl)) (mvT hZ (ww hw 128 rfl)) (mvT hZ (ww hw 4 rfl)) (mvT hZ (ww hw 129 rfl)) (by decide) (backOf (W := 1) (rm18 l Z a0 hw [] ((14 : Int64) * (p2.toInt64))  h0 n0 Z0 h14.2.2) hZ (ww hw 129 rfl) (ww hw 4 rfl) (by decide) (by decide)) (g := mkF m 23 _ _) rfl (by rw [hml]; rfl) (argsL := [(.long ((14 : Int64) * (p2.toInt64)))]) (rest := [(.ref a1)]) (lenOf pd_6_0 rfl) rfl (by show 2 * 0 + _ ≤ _; exact Nat.le_of_eq rfl) (hb hby d6_23) (fun _ _ => ⟨rfl, e52, (by decide : 0 + 0 ≤ _), (by decide : 0 + 0 ≤ _)⟩)) rfl rfl ?_
    intro T54 Lc54 vc54 X54 hQ54
    obtain ⟨hv54, N54q, e54⟩ := hQ54
    have N54 := Fr.app N0 N54q
    refine OwnG.cv hv54 ?_
    clear hv54
    refine OwnG.v4 28 1 28 X54 (newP X54 hx hZ (ww hw 18 rfl) e54 (g := mkF m 26 _ _) rfl (hb hby d6_26) rfl (own_nlt _ (by omega)) (cap := 28) (own_cle _ _ (by omega)) (by decide) (by decide) (by decide)) rfl rfl ?_
    intro T55 h55 k55 X55 e55 E55 A55
    obtain ⟨b55, g55⟩ : ∃ z, z = h0.size := ⟨_, rfl⟩
    rw [← g55] at A55 ⊢
    have ne55_56 : NeA a1 b55 := Nat.ne_of_lt (Nat.lt_of_lt_of_le (Exa.lt EMS_51) (Nat.le_of_eq g55.symm))
    have V55 : OwnA Z h55 b55 .byte ((14 : Int64) * p2.toInt64).toInt32.toInt.toNat (iv' fun _ => 0) := own_newA A55 (own_tn _ (by omega))
    have f58 := Exa.ext E55 EMS_51
    have f59 := Fld.ext E55 FMS0_51
    have f60 := Fld.ext E55 FMS1_51
    have f61 := Fld.ext E55 FMS2_51
    have f62 := Fld.ext E55 FMS3_51
    have f63 := Fld.ext E55 FMS4_51
    have f64 := Fld.ext E55 FMS5_51
    have f65 := Fld.ext E55 FMS6_51
    have f66 := Fld.ext E55 FMS7_51
    have f67 := Fld.ext E55 FMS8_51
    have f68 := Fld.ext E55 FMS9_51
    have sz_b55 : LeA (h0.size) (b55) := Nat.le_trans (Keep.refl h0 [a1]).1 (Nat.le_of_eq g55.symm)
    have K55 : Keep h0 h55 [a1] := (Keep.refl h0 [a1]).ext E55
    refine OwnG.v2 31 (putF X55 hx hZ hown (host := "") (Or.inl (ww hw 45 rfl)) Via.refl e55 f64 f58 (Or.inl (ww hw 46 rfl)) (ww hw 9 rfl) (ty := (.array .byte)) (by decide) rfl rfl (g := mkF m 28 _ _) rfl rfl (hb hby d6_28)) ?_
    intro T70 h70 X70 e70 W70
    have f71 := Exa.wr W70 f58
    have f72 := Fld.other W70 f59 (Or.inr (sn_10 hw))
    have f73 := Fld.other W70 f60 (Or.inr (sn_11 hw))
    have f74 := Fld.other W70 f61 (Or.inr (sn_12 hw))
    have f75 := Fld.other W70 f62 (Or.inr (sn_13 hw))
    have f76 := Fld.other W70 f63 (Or.inr (sn_14 hw))
    have f77 := Fld.other W70 f65 (Or.inr (sn_15 hw))
    have f78 := Fld.other W70 f66 (Or.inr (sn_16 hw))
    have f79 := Fld.other W70 f67 (Or.inr (sn_17 hw))
    have f80 := Fld.other W70 f68 (Or.inr (sn_18 hw))
    have f82 := V55.other W70 (Ne.symm ne55_56)
    have Fw70 : Fld Z h70 a1 "com/example/deft_nets/deftnets/MarkingStore" "mEncoded" "[B" (.ref b55) := Fld.same W70 f64
    have N70 := Fr.snoc X70 N54 gb_a1
    have K70 : Keep h0 h70 [a1] := K55.wr W70 (Or.inl (List.mem_of_getElem? (i := 0) rfl))
    refine OwnG.st (y_aloadN X70 H d6_31 rfl) ?_
    refine OwnG.st (y_iconst X70 H (0) d6_32 rfl) ?_
    refine OwnG.v2 36 (putF X70 hx hZ hown (host := "") (Or.inl (ww hw 59 rfl)) Via.refl e70 f77 f71 (Or.inl (ww hw 60 rfl)) (ww hw 9 rfl) (ty := .int) (by decide) rfl rfl (g := mkF m 33 _ _) rfl rfl (hb hby d6_33)) ?_
    intro T83 h83 X83 e83 W83
    have f84 := Exa.wr W83 f71
    have f85 := Fld.other W83 f72 (Or.inr (sn_19 hw))
    have f86 := Fld.other W83 f73 (Or.inr (sn_20 hw))
    have f87 := Fld.other W83 f74 (Or.inr (sn_21 hw))
    have f88 := Fld.other W83 f75 (Or.inr (sn_22 hw))
    have f89 := Fld.other W83 f76 (Or.inr (sn_23 hw))
    have f90 := Fld.other W83 Fw70 (Or.inr (sn_24 hw))
    have f91 := Fld.other W83 f78 (Or.inr (sn_25 hw))
    have f92 := Fld.other W83 f79 (Or.inr (sn_26 hw))
    have f93 := Fld.other W83 f80 (Or.inr (sn_27 hw))
    have f95 := f82.other W83 (Ne.symm ne55_56)
    have Fw83 : Fld Z h83 a1 "com/example/deft_nets/deftnets/MarkingStore" "mEncodedLength" "I" (.int (0 : Int32)) := Fld.same W83 f77
    have N83 := Fr.snoc X83 N70 gb_a1
    have K83 : Keep h0 h83 [a1] := K70.wr W83 (Or.inl (List.mem_of_getElem? (i := 0) rfl))
    refine OwnG.st (y_aloadN X83 H d6_36 rfl) ?_
    refine OwnG.st (y_lconst X83 H 0 d6_37 rfl) ?_
    refine OwnG.v2 41 (putF X83 hx hZ hown (host := "") (Or.inl (ww hw 61 rfl)) Via.refl e83 f91 f84 (Or.inl (ww hw 62 rfl)) (ww hw 9 rfl) (ty := .long) (by decide) rfl rfl (g := mkF m 38 _ _) rfl rfl (hb hby d6_38)) ?_
    intro T96 h96 X96 e96 W96
    have f97 := Exa.wr W96 f84
    have f98 := Fld.other W96 f85 (Or.inr (sn_28 hw))
    have f99 := Fld.other W96 f86 (Or.inr (sn_29 hw))
    have f100 := Fld.other W96 f87 (Or.inr (sn_30 hw))
    have f101 := Fld.other W96 f88 (Or.inr (sn_31 hw))
    have f102 := Fld.other W96 f89 (Or.inr (sn_32 hw))
    have f103 := Fld.other W96 f90 (Or.inr (sn_33 hw))
    have f104 := Fld.other W96 Fw83 (Or.inr (sn_34 hw))
    have f105 := Fld.other W96 f92 (Or.inr (sn_35 hw))
    have f106 := Fld.other W96 f93 (Or.inr (sn_36 hw))
    have f108 := f95.other W96 (Ne.symm ne55_56)
    have Fw96 : Fld Z h96 a1 "com/example/deft_nets/deftnets/MarkingStore" "mNextPlace" "J" (.long (0 : Int64)) := Fld.same W96 f91
    have N96 := Fr.snoc X96 N83 gb_a1
    have K96 : Keep h0 h96 [a1] := K83.wr W96 (Or.inl (List.mem_of_getElem? (i := 0) rfl))
    exact OwnG.retV X96 hx Bd.returns (BodyLoose.notSynchronized Bd) (hb hby d6_41) (by rw [e96]; exact ⟨b55, _, _, rfl, N96, K96, ⟨f97, f98, f99, f100, f101, f102, f103, f104, Fw96, f105, f106⟩, f108, own_z0, Or.inr sz_b55, by omega, by omega⟩) (by decide) (by decide)
  · refine OwnG.st (y_ifY X52 H 31 d6_13 ((if0 _ _).trans (flt (mt (lw_lt ((nE.toInt32).toInt64) ((14 : Int64) * (p2.toInt64))).mp hc13_53)).2.1) (by decide) (by decide)) ?_
    refine OwnG.st (y_aloadN X52 H d6_31 rfl) ?_
    refine OwnG.st (y_iconst X52 H (0) d6_32 rfl) ?_
    refine OwnG.v2 36 (putF X52 hx hZ hown (host := "") (Or.inl (ww hw 59 rfl)) Via.refl e52 FMS6_51 EMS_51 (Or.inl (ww hw 60 rfl)) (ww hw 9 rfl) (ty := .int) (by decide) rfl rfl (g := mkF m 33 _ _) rfl rfl (hb hby d6_33)) ?_
    intro T109 h109 X109 e109 W109
    have f110 := Exa.wr W109 EMS_51
    have f111 := Fld.other W109 FMS0_51 (Or.inr (sn_19 hw))
    have f112 := Fld.other W109 FMS1_51 (Or.inr (sn_20 hw))
    have f113 := Fld.other W109 FMS2_51 (Or.inr (sn_21 hw))
    have f114 := Fld.other W109 FMS3_51 (Or.inr (sn_22 hw))
    have f115 := Fld.other W109 FMS4_51 (Or.inr (sn_23 hw))
    have f116 := Fld.other W109 FMS5_51 (Or.inr (sn_24 hw))
    have f117 := Fld.other W109 FMS7_51 (Or.inr (sn_25 hw))
    have f118 := Fld.other W109 FMS8_51 (Or.inr (sn_26 hw))
    have f119 := Fld.other W109 FMS9_51 (Or.inr (sn_27 hw))
    have f120 := A_e.other W109 ne_e
    have Fw109 : Fld Z h109 a1 "com/example/deft_nets/deftnets/MarkingStore" "mEncodedLength" "I" (.int (0 : Int32)) := Fld.same W109 FMS6_51
    have N109 := Fr.snoc X109 N0 gb_a1
    have K109 : Keep h0 h109 [a1] := (Keep.refl h0 [a1]).wr W109 (Or.inl (List.mem_of_getElem? (i := 0) rfl))
    refine OwnG.st (y_aloadN X109 H d6_36 rfl) ?_
    refine OwnG.st (y_lconst X109 H 0 d6_37 rfl) ?_
    refine OwnG.v2 41 (putF X109 hx hZ hown (host := "") (Or.inl (ww hw 61 rfl)) Via.refl e109 f117 f110 (Or.inl (ww hw 62 rfl)) (ww hw 9 rfl) (ty := .long) (by decide) rfl rfl (g := mkF m 38 _ _) rfl rfl (hb hby d6_38)) ?_
    intro T121 h121 X121 e121 W121
    have f122 := Exa.wr W121 f110
    have f123 := Fld.other W121 f111 (Or.inr (sn_28 hw))
    have f124 := Fld.other W121 f112 (Or.inr (sn_29 hw))
    have f125 := Fld.other W121 f113 (Or.inr (sn_30 hw))
    have f126 := Fld.other W121 f114 (Or.inr (sn_31 hw))
    have f127 := Fld.other W121 f115 (Or.inr (sn_32 hw))
    have f128 := Fld.other W121 f116 (Or.inr (sn_33 hw))
    have f129 := Fld.other W121 Fw109 (Or.inr (sn_34 hw))
    have f130 := Fld.other W121 f118 (Or.inr (sn_35 hw))
    have f131 := Fld.other W121 f119 (Or.inr (sn_36 hw))
    have f132 := f120.other W121 ne_e
    have Fw121 : Fld Z h121 a1 "com/example/deft_nets/deftnets/MarkingStore" "mNextPlace" "J" (.long (0 : Int64)) := Fld.same W121 f117
    have N121 := Fr.snoc X121 N109 gb_a1
    have K121 : Keep h0 h121 [a1] := K109.wr W121 (Or.inl (List.mem_of_getElem? (i := 0) rfl))
    have hge0 : 14 * p2.toInt ≤ (nE : Int) := by rw [← h14.1, ← own_t64 nE (by omega)]; exact Int.not_lt.mp (mt Int64.lt_iff_toInt_lt.mpr hc13_53)
    exact OwnG.retV X121 hx Bd.returns (BodyLoose.notSynchronized Bd) (hb hby d6_41) (by rw [e121]; exact ⟨enc, nE, gE, rfl, N121, K121, ⟨f122, f123, f124, f125, f126, f127, f128, f129, Fw121, f130, f131⟩, f132, hBy, Or.inl rfl, by omega, hn⟩) (by decide) (by decide)
theorem d20_0 : decode k20_ 0 = .ok (.lload_n 1, 1) := by decide +kernel
theorem d20_1 : decode k20_ 1 = .ok (.lstore 4, 2) := by decide +kernel
theorem d20_3 : decode k20_ 3 = .ok (.lload 4, 2) := by decide +kernel
theorem d20_5 : decode k20_ 5 = .ok (.ldc2_w 137, 3) := by decide +kernel
theorem d20_8 : decode k20_ 8 = .ok (.lcmp, 1) := by decide +kernel
theorem d20_9 : decode k20_ 9 = .ok (.ifCond .lt 30, 3) := by decide +kernel
theorem d20_12 : decode k20_ 12 = .ok (.aload_n 0, 1) := by decide +kernel
theorem d20_13 : decode k20_ 13 = .ok (.getfield 23, 3) := by decide +kernel
theorem d20_16 : decode k20_ 16 = .ok (.iload_n 3, 1) := by decide +kernel
theorem d20_17 : decode k20_ 17 = .ok (.iinc 3 1, 3) := by decide +kernel
theorem d20_20 : decode k20_ 20 = .ok (.lload 4, 2) := by decide +kernel
theorem d20_22 : decode k20_ 22 = .ok (.ldc2_w 137, 3) := by decide +kernel
theorem d20_25 : decode k20_ 25 = .ok (.lor, 1) := by decide +kernel
theorem d20_26 : decode k20_ 26 = .ok (.l2i, 1) := by decide +kernel
theorem d20_27 : decode k20_ 27 = .ok (.i2b, 1) := by decide +kernel
theorem d20_28 : decode k20_ 28 = .ok (.bastore, 1) := by decide +kernel
theorem d20_29 : decode k20_ 29 = .ok (.lload 4, 2) := by decide +kernel
theorem d20_31 : decode k20_ 31 = .ok (.bipush 7, 2) := by decide +kernel
theorem d20_33 : decode k20_ 33 = .ok (.lushr, 1) := by decide +kernel
theorem d20_34 : decode k20_ 34 = .ok (.lstore 4, 2) := by decide +kernel
theorem d20_36 : decode k20_ 36 = .ok (.goto (-33), 3) := by decide +kernel
theorem d20_39 : decode k20_ 39 = .ok (.aload_n 0, 1) := by decide +kernel
theorem d20_40 : decode k20_ 40 = .ok (.getfield 23, 3) := by decide +kernel
theorem d20_43 : decode k20_ 43 = .ok (.iload_n 3, 1) := by decide +kernel
theorem d20_44 : decode k20_ 44 = .ok (.iinc 3 1, 3) := by decide +kernel
theorem d20_47 : decode k20_ 47 = .ok (.lload 4, 2) := by decide +kernel
theorem d20_49 : decode k20_ 49 = .ok (.l2i, 1) := by decide +kernel
theorem d20_50 : decode k20_ 50 = .ok (.i2b, 1) := by decide +kernel
theorem d20_51 : decode k20_ 51 = .ok (.bastore, 1) := by decide +kernel
theorem d20_52 : decode k20_ 52 = .ok (.iload_n 3, 1) := by decide +kernel
theorem d20_53 : decode k20_ 53 = .ok (.ireturn, 1) := by decide +kernel
theorem pn_20 : plainName "com/example/deft_nets/deftnets/MarkingStore" = true := by first | (simp [plainName, overriddenIn]; done) | decide +kernel
theorem ef_20 (m : MethodId) (a1 : Addr) (q2 : Int64) (p3 : Int32) : entryFrame m #[(.ref a1), (.long q2), (.int p3)] 6 = mkF m 0 #[.val (.ref a1), .val (.long q2), .second, .val (.int p3), .unset, .unset] [] := by first | (simp [entryFrame, mkF, argsToLocals, Value.category]; done) | rfl
def Q20 (Z : State) (a1 : Addr) (q2 : Int64) (p3 : Int32) (enc : Addr) (M nE : Nat) (gE : Nat → Int32) (h0 : Heap) (n0 : Nat) (v : Option Value) (h : Heap) (L : List Loc) : Prop := v = some (.int (p3 + Int32.ofNat M)) ∧ Fr n0 L ∧ Keep h0 h [enc] ∧ OwnA Z h enc .byte nE (iv' (own_wf gE p3.toInt.toNat q2 M))
set_option maxRecDepth 65536 in
set_option maxHeartbeats 40000000 in
theorem rm20 (l : Launch) (Z : State) (a0 : Array Value) (hw : HW a0 Z) (ws : List Jvm.Cond) (a1 : Addr) (q2 : Int64) (p3 : Int32) (enc : Addr) (M nE : Nat) (gE : Nat → Int32) (h0 : Heap) (n0 : Nat) (Z0 : n0 ≤ h0.size) (gb_enc : n0 ≤ enc) (Fe : Fld Z h0 a1 "com/example/deft_nets/deftnets/MarkingStore" "mEncoded" "[B" (.ref enc)) (A_e : OwnA Z h0 enc .byte nE (iv' gE)) (ne_e : enc ≠ a1) (hs0 : 0 ≤ p3.toInt ∧ p3.toInt + M ≤ nE) (hn : nE ≤ 28) (hN : 1 ≤ M ∧ M ≤ 9) (hmore : ∀ j, j + 1 < M → ¬ own_rs q2 j < (128 : Int64)) (hlast : own_rs q2 (M - 1) < (128 : Int64)) :
    MetFree l mn_20 (head1 (Jvm.Cond.code mn_20 prog_31_method_13_code 6 (some .int) :: ws) ({ frames := 0, cells := 0, slots := 0, locals := 0 } : Room)) (fun a U => a = #[(.ref a1), (.long q2), (.int p3)] ∧ Z.Warmed39 U.vm ∧ U.heap = h0) (fun _ _ _ _ _ => True) (fun _ U o U' => ∃ v L, o = .returned v ∧ Q20 Z a1 q2 p3 enc M nE gE h0 n0 v U'.heap L ∧ FrameEnd U o U' L ({ frames := 0, cells := 0, slots := 0, locals := 0 } : Room).cells ({ frames := 0, cells := 0, slots := 0, locals := 0 } : Room).slots) := by
  refine MetFree.of_bodySF (plainFor_of_name pn_20) hisR ?_
  intro p e s m args below meth c s₁ Bd hml0 hP hK
  obtain ⟨rfl, hZ, hh⟩ := hP
  have hx := Bd.exec
  have hby := Bd.bytes
  have H := And.intro hx hby
  have hml : c.maxLocals = 6 := hml0
  have hown : s.vm.findClass "com/example/deft_nets/deftnets/MarkingStore" = some m.cls := findClass_of_methodNamed Bd.named
  have hnm := (name_of_methodNamed Bd.named Bd.method).1
  have X0 : Stand p l e ({ frames := 0, cells := 0, slots := 0, locals := 0 } : Room) s m #[(.ref a1), (.long q2), (.int p3)] below meth c s₁ [] 0 0 := Stand.of_body Bd
  have e0 : s₁.heap = h0 := by rw [← hh, Bd.state]; rfl
  have N0 := Fr.nil n0
  suffices hG : OwnG p e below s (Q20 Z a1 q2 p3 enc M nE gE h0 n0) ({ frames := 0, cells := 0, slots := 0, locals := 0 } : Room).cells ({ frames := 0, cells := 0, slots := 0, locals := 0 } : Room).slots s₁ (mkF m 0 #[.val (.ref a1), .val (.long q2), .second, .val (.int p3), .unset, .unset] []) by
    obtain ⟨s2, o2, g1, g2⟩ := hG
    exact ⟨s2, o2, castTop (ef_20 m a1 q2 p3) g1, g2⟩
  refine OwnG.st (y_lloadN X0 H d20_0 rfl) ?_
  refine OwnG.st (y_lstore X0 H #[.val (.ref a1), .val (.long q2), .second, .val (.int p3), .val (.long q2), .second] d20_1 rfl) ?_
  have lp51 : ∀ (k : Nat) (T : State) (lc : List Loc) (hh : Heap) (j : Nat) (i4 : Int32) (r5 : Int64) (X : Stand p l e ({ frames := 0, cells := 0, slots := 0, locals := 0 } : Room) s m #[(.ref a1), (.long q2), (.int p3)] below meth c T lc 0 0) (eT : T.heap = hh) (N : Fr n0 lc) (Hf : Fld Z hh a1 "com/example/deft_nets/deftnets/MarkingStore" "mEncoded" "[B" (.ref enc)) (Ha : OwnA Z hh enc .byte nE (iv' (own_w gE p3.toInt.toNat q2 j))) (Hk : Keep h0 hh [enc]) (Hz : n0 ≤ hh.size) (hi4 : i4 = p3 + Int32.ofNat j) (hr : r5 = own_rs q2 j) (hj : j < M), M - j = k → OwnG p e below s (Q20 Z a1 q2 p3 enc M nE gE h0 n0) ({ frames := 0, cells := 0, slots := 0, locals := 0 } : Room).cells ({ frames := 0, cells := 0, slots := 0, locals := 0 } : Room).slots T (mkF m 3 #[.val (.ref a1), .val (.long q2), .second, .val (.int i4), .val (.long r5), .second] []) := by
    intro k
    induction k using Nat.strongRecOn with
    | _ k ih =>
      intro T lc hh j i4 r5 X eT N Hf Ha Hk Hz hi4 hr hj hk
      refine OwnG.st (y_lload X H d20_3 rfl) ?_
      refine OwnG.st (y_ldc2 X H hown (mvT hZ (ww hw 138 rfl)) d20_5) ?_
      refine OwnG.st (y_lcmp X H d20_8) ?_
      by_cases hc9_52 : r5 < (128 : Int64)
      · refine OwnG.st (y_ifY X H 39 d20_9 ((if0 _ _).trans (tlt ((lw_lt r5 (128 : Int64)).mpr hc9_52)).1) (by decide) (by decide)) ?_
        refine OwnG.st (y_aloadN X H d20_39 rfl) ?_
        refine OwnG.v1 43 (getF X hx hZ hown (host := "") (Or.inl (ww hw 45 rfl)) Via.refl eT Hf (g := mkF m 40 _ _) rfl rfl (hb hby d20_40)) ?_
        intro T53 X53 e53
        refine OwnG.st (y_iloadN X53 H d20_43 rfl) ?_
        refine OwnG.st (y_iinc X53 H #[.val (.ref a1), .val (.long q2), .second, .val (.int (i4 + (1 : Int32))), .val (.long r5), .second] d20_44 rfl rfl) ?_
        refine OwnG.st (y_lload X53 H d20_47 rfl) ?_
        refine OwnG.st (y_l2i X53 H d20_49) ?_
        refine OwnG.st (y_i2b X53 H d20_50) ?_
        refine OwnG.v3 52 (own_stB Ha X53 hx hZ e53 (by rw [hi4, (own_ia p3 j (by omega) (by omega)).1]; omega) (by rw [hi4, (own_ia p3 j (by omega) (by omega)).1]; omega) (gf := mkF m 51 _ _) rfl rfl (hb hby d20_51)) ?_
        intro T54 h54 X54 e54 W54 V54
        have V54' : OwnA Z h54 enc .byte nE (iv' (updv (own_w gE p3.toInt.toNat q2 j) i4.toInt.toNat ((r5.toInt32).toInt8.toInt32))) := by have q := V54; rw [Int8.toInt8_toInt32] at q; exact q
        have N54 := Fr.snoc X54 N gb_enc
        have K54 : Keep h0 h54 [enc] := Hk.wr W54 (Or.inl (by simp))
        refine OwnG.st (y_iloadN X54 H d20_52 rfl) ?_
        have hjN : j = M - 1 := by
          rcases Nat.lt_or_ge (j + 1) M with q | q
          · exact absurd hc9_52 (by rw [hr]; exact hmore j q)
          · omega
        have hV : OwnA Z h54 enc .byte nE (iv' (own_wf gE p3.toInt.toNat q2 M)) := by
          have q := V54'
          rw [show i4.toInt.toNat = p3.toInt.toNat + j by rw [hi4]; exact (own_ia p3 j (by omega) (by omega)).2, hr, hjN] at q
          exact q
        have hv : (i4 + (1 : Int32)) = p3 + Int32.ofNat M := by rw [hi4, own_is, show j + 1 = M by omega]
        exact OwnG.retI X54 hx Bd.returns (BodyLoose.notSynchronized Bd) (hb hby d20_53) (by rw [e54]; exact ⟨congrArg (fun w => some (Value.int w)) hv, N54, K54, hV⟩) (by decide) (by decide)
      · refine OwnG.st (y_ifN X H d20_9 ((if0 _ _).trans (flt (mt (lw_lt r5 (128 : Int64)).mp hc9_52)).1)) ?_
        refine OwnG.st (y_aloadN X H d20_12 rfl) ?_
        refine OwnG.v1 16 (getF X hx hZ hown (host := "") (Or.inl (ww hw 45 rfl)) Via.refl eT Hf (g := mkF m 13 _ _) rfl rfl (hb hby d20_13)) ?_
        intro T56 X56 e56
        refine OwnG.st (y_iloadN X56 H d20_16 rfl) ?_
        refine OwnG.st (y_iinc X56 H #[.val (.ref a1), .val (.long q2), .second, .val (.int (i4 + (1 : Int32))), .val (.long r5), .second] d20_17 rfl rfl) ?_
        refine OwnG.st (y_lload X56 H d20_20 rfl) ?_
        refine OwnG.st (y_ldc2 X56 H hown (mvT hZ (ww hw 138 rfl)) d20_22) ?_
        refine OwnG.st (y_lor X56 H d20_25) ?_
        refine OwnG.st (y_l2i X56 H d20_26) ?_
        refine OwnG.st (y_i2b X56 H d20_27) ?_
        refine OwnG.v3 29 (own_stB Ha X56 hx hZ e56 (by rw [hi4, (own_ia p3 j (by omega) (by omega)).1]; omega) (by rw [hi4, (own_ia p3 j (by omega) (by omega)).1]; omega) (gf := mkF m 28 _ _) rfl rfl (hb hby d20_28)) ?_
        intro T57 h57 X57 e57 W57 V57
        have V57' : OwnA Z h57 enc .byte nE (iv' (updv (own_w gE p3.toInt.toNat q2 j) i4.toInt.toNat (((r5 ||| (128 : Int64)).toInt32).toInt8.toInt32))) := by have q := V57; rw [Int8.toInt8_toInt32] at q; exact q
        have f58 := Fld.other W57 Hf (Or.inl (Ne.symm ne_e))
        have N57 := Fr.snoc X57 N gb_enc
        have Z57 : LeA (n0) (h57.size) := by rw [W57.size]; exact Hz
        have K57 : Keep h0 h57 [enc] := Hk.wr W57 (Or.inl (by simp))
        refine OwnG.st (y_lload X57 H d20_29 rfl) ?_
        refine OwnG.st (y_bipush X57 H (7) d20_31 rfl) ?_
        refine OwnG.st (y_lushr X57 H d20_33) ?_
        refine OwnG.st (y_lstore X57 H #[.val (.ref a1), .val (.long q2), .second, .val (.int (i4 + (1 : Int32))), .val (.long ((r5.toUInt64 >>> ((7 : Int32) &&& 0x3f).toInt64.toUInt64).toInt64)), .second] d20_34 rfl) ?_
        refine OwnG.st (y_goto X57 H 3 d20_36 (by decide) (by decide)) ?_
        have hj1 : j + 1 < M := by
          rcases Nat.lt_or_ge (j + 1) M with q | q
          · exact q
          · exact absurd (by rw [hr, show j = M - 1 by omega]; exact hlast) hc9_52
        have hV : OwnA Z h57 enc .byte nE (iv' (own_w gE p3.toInt.toNat q2 (j + 1))) := by
          have q := V57'
          rw [show i4.toInt.toNat = p3.toInt.toNat + j by rw [hi4]; exact (own_ia p3 j (by omega) (by omega)).2, hr] at q
          exact q
        exact ih _ (by rw [← hk]; omega) T57 _ h57 (j + 1) _ _ X57 e57 N57 f58 hV K57 Z57 (by rw [hi4]; exact own_is p3 j) (by rw [own_rss, hr]) hj1 rfl
  exact lp51 _ s₁ _  h0 0 _ _ X0 e0 N0 Fe A_e (Keep.refl h0 [enc]) Z0 (Int32.add_zero p3).symm rfl (by omega)  rfl
theorem d19_0 : decode k19_ 0 = .ok (.aload_n 0, 1) := by decide +kernel
theorem d19_1 : decode k19_ 1 = .ok (.aload_n 0, 1) := by decide +kernel
theorem d19_2 : decode k19_ 2 = .ok (.lload_n 1, 1) := by decide +kernel
theorem d19_3 : decode k19_ 3 = .ok (.aload_n 0, 1) := by decide +kernel
theorem d19_4 : decode k19_ 4 = .ok (.getfield 130, 3) := by decide +kernel
theorem d19_7 : decode k19_ 7 = .ok (.lsub, 1) := by decide +kernel
theorem d19_8 : decode k19_ 8 = .ok (.iconst 1, 1) := by decide +kernel
theorem d19_9 : decode k19_ 9 = .ok (.lshl, 1) := by decide +kernel
theorem d19_10 : decode k19_ 10 = .ok (.iload_n 3, 1) := by decide +kernel
theorem d19_11 : decode k19_ 11 = .ok (.iconst 1, 1) := by decide +kernel
theorem d19_12 : decode k19_ 12 = .ok (.if_icmp .ne 7, 3) := by decide +kernel
theorem d19_15 : decode k19_ 15 = .ok (.iconst 0, 1) := by decide +kernel
theorem d19_16 : decode k19_ 16 = .ok (.goto 4, 3) := by decide +kernel
theorem d19_19 : decode k19_ 19 = .ok (.iconst 1, 1) := by decide +kernel
theorem d19_20 : decode k19_ 20 = .ok (.i2l, 1) := by decide +kernel
theorem d19_21 : decode k19_ 21 = .ok (.lor, 1) := by decide +kernel
theorem d19_22 : decode k19_ 22 = .ok (.aload_n 0, 1) := by decide +kernel
theorem d19_23 : decode k19_ 23 = .ok (.getfield 54, 3) := by decide +kernel
theorem d19_26 : decode k19_ 26 = .ok (.invokevirtual 133, 3) := by decide +kernel
theorem d19_29 : decode k19_ 29 = .ok (.putfield 54, 3) := by decide +kernel
theorem d19_32 : decode k19_ 32 = .ok (.iload_n 3, 1) := by decide +kernel
theorem d19_33 : decode k19_ 33 = .ok (.iconst 1, 1) := by decide +kernel
theorem d19_34 : decode k19_ 34 = .ok (.if_icmp .eq 17, 3) := by decide +kernel
theorem d19_37 : decode k19_ 37 = .ok (.aload_n 0, 1) := by decide +kernel
theorem d19_38 : decode k19_ 38 = .ok (.aload_n 0, 1) := by decide +kernel
theorem d19_39 : decode k19_ 39 = .ok (.iload_n 3, 1) := by decide +kernel
theorem d19_40 : decode k19_ 40 = .ok (.i2l, 1) := by decide +kernel
theorem d19_41 : decode k19_ 41 = .ok (.aload_n 0, 1) := by decide +kernel
theorem d19_42 : decode k19_ 42 = .ok (.getfield 54, 3) := by decide +kernel
theorem d19_45 : decode k19_ 45 = .ok (.invokevirtual 133, 3) := by decide +kernel
theorem d19_48 : decode k19_ 48 = .ok (.putfield 54, 3) := by decide +kernel
theorem d19_51 : decode k19_ 51 = .ok (.aload_n 0, 1) := by decide +kernel
theorem d19_52 : decode k19_ 52 = .ok (.lload_n 1, 1) := by decide +kernel
theorem d19_53 : decode k19_ 53 = .ok (.lconst 1, 1) := by decide +kernel
theorem d19_54 : decode k19_ 54 = .ok (.ladd, 1) := by decide +kernel
theorem d19_55 : decode k19_ 55 = .ok (.putfield 130, 3) := by decide +kernel
theorem d19_58 : decode k19_ 58 = .ok (.return_, 1) := by decide +kernel
theorem pn_19 : plainName "com/example/deft_nets/deftnets/MarkingStore" = true := by first | (simp [plainName, overriddenIn]; done) | decide +kernel
theorem pd_19_0 : parseMethodDescriptor "(JI)I" = some ⟨[.long, .int], some .int⟩ := by decide +kernel
theorem ef_19 (m : MethodId) (a1 : Addr) (q2 : Int64) (p3 : Int32) : entryFrame m #[(.ref a1), (.long q2), (.int p3)] 4 = mkF m 0 #[.val (.ref a1), .val (.long q2), .second, .val (.int p3)] [] := by first | (simp [entryFrame, mkF, argsToLocals, Value.category]; done) | rfl
def Q19 (Z : State) (a1 : Addr) (q2 : Int64) (p3 : Int32) (pool : Addr) (psz : Int32) (start : Addr) (hash : Addr) (table : Addr) (enc : Addr) (elen : Int32) (next : Int64) (size : Int32) (bud : Addr) (nE : Nat) (gE : Nat → Int32) (h0 : Heap) (n0 : Nat) (v : Option Value) (h : Heap) (L : List Loc) : Prop := ∃ (g' : Nat → Int32) (e' : Int32), v = none ∧ Fr n0 L ∧ Keep h0 h [a1, enc] ∧ MS Z h a1 pool psz start hash table enc e' (q2 + (1 : Int64)) size bud ∧ OwnA Z h enc .byte nE (iv' g') ∧ Byt g' ∧ (∀ i, i < elen.toInt.toNat → g' i = gE i) ∧ Ent g' elen.toInt.toNat e'.toInt.toNat (own_V (q2 - next) p3) p3 ∧ elen.toInt ≤ e'.toInt ∧ e'.toInt ≤ elen.toInt + 14 ∧ (q2.toInt - next.toInt ≤ 255 → p3.toInt ≤ 4 → e'.toInt ≤ elen.toInt + 3)
set_option maxRecDepth 65536 in
set_option maxHeartbeats 40000000 in
theorem rm19 (l : Launch) (Z : State) (a0 : Array Value) (hw : HW a0 Z) (ws : List Jvm.Cond) (a1 : Addr) (q2 : Int64) (p3 : Int32) (pool : Addr) (psz : Int32) (start : Addr) (hash : Addr) (table : Addr) (enc : Addr) (elen : Int32) (next : Int64) (size : Int32) (bud : Addr) (nE : Nat) (gE : Nat → Int32) (h0 : Heap) (n0 : Nat) (Z0 : n0 ≤ h0.size) (gb_a1 : n0 ≤ a1) (gb_enc : n0 ≤ enc) (hM : MS Z h0 a1 pool psz start hash table enc elen next size bud) (A_e : OwnA Z h0 enc .byte nE (iv' gE)) (ne_e : enc ≠ a1) (hBy : Byt gE) (hn : nE ≤ 28) (he : 0 ≤ elen.toInt ∧ elen.toInt + 14 ≤ nE) (hp : 0 ≤ next.toInt ∧ next.toInt ≤ q2.toInt ∧ q2.toInt < 4611686018427387904) (hc : 1 ≤ p3.toInt) :
    MetFree l mn_19 (head1 (Jvm.Cond.code mn_19 prog_31_method_12_code 4 none :: ws) ({ frames := 1, cells := 0, slots := 0, locals := 18 } : Room)) (fun a U => a = #[(.ref a1), (.long q2), (.int p3)] ∧ Z.Warmed39 U.vm ∧ U.heap = h0) (fun _ _ _ _ _ => True) (fun _ U o U' => ∃ v L, o = .returned v ∧ Q19 Z a1 q2 p3 pool psz start hash table enc elen next size bud nE gE h0 n0 v U'.heap L ∧ FrameEnd U o U' L ({ frames := 1, cells := 0, slots := 0, locals := 18 } : Room).cells ({ frames := 1, cells := 0, slots := 0, locals := 18 } : Room).slots) := by
  refine MetFree.of_bodySF (plainFor_of_name pn_19) hisR ?_
  intro p e s m args below meth c s₁ Bd hml0 hP hK
  obtain ⟨rfl, hZ, hh⟩ := hP
  have hx := Bd.exec
  have hby := Bd.bytes
  have H := And.intro hx hby
  have hml : c.maxLocals = 4 := hml0
  have hown : s.vm.findClass "com/example/deft_nets/deftnets/MarkingStore" = some m.cls := findClass_of_methodNamed Bd.named
  have hnm := (name_of_methodNamed Bd.named Bd.method).1
  have X0 : Stand p l e ({ frames := 1, cells := 0, slots := 0, locals := 18 } : Room) s m #[(.ref a1), (.long q2), (.int p3)] below meth c s₁ [] 0 0 := Stand.of_body Bd
  have e0 : s₁.heap = h0 := by rw [← hh, Bd.state]; rfl
  have N0 := Fr.nil n0
  suffices hG : OwnG p e below s (Q19 Z a1 q2 p3 pool psz start hash table enc elen next size bud nE gE h0 n0) ({ frames := 1, cells := 0, slots := 0, locals := 18 } : Room).cells ({ frames := 1, cells := 0, slots := 0, locals := 18 } : Room).slots s₁ (mkF m 0 #[.val (.ref a1), .val (.long q2), .second, .val (.int p3)] []) by
    obtain ⟨s2, o2, g1, g2⟩ := hG
    exact ⟨s2, o2, castTop (ef_19 m a1 q2 p3) g1, g2⟩
  obtain ⟨EMS_51, FMS0_51, FMS1_51, FMS2_51, FMS3_51, FMS4_51, FMS5_51, FMS6_51, FMS7_51, FMS8_51, FMS9_51⟩ := hM
  have hd := x_lsub q2 next (by omega)
  have hVv := own_Vv (q2 - next) p3 (by omega)
  have hV1 := own_V1 (q2 - next) p3 (by omega)
  obtain ⟨V, hV⟩ : ∃ V, V = own_V (q2 - next) p3 := ⟨_, rfl⟩
  rw [← hV] at hVv hV1
  have hV0 : 0 ≤ V.toInt := by rw [hVv]; split <;> omega
  obtain ⟨M1, hM1, hm1, hl1, hb1, hb2, hb5⟩ := own_Mx V hV0
  have hc0 := c_i2l p3
  obtain ⟨M2, hM2, hm2, hl2, hd1, hd2, hd5⟩ := own_Mx p3.toInt64 (by omega)
  have hM25 := hd5 (by have := rng32 p3; omega)
  have hi1 := own_ia elen M1 (by omega) (by omega)
  have hi2 := own_ia (elen + Int32.ofNat M1) M2 (by omega) (by omega)
  refine OwnG.st (y_aloadN X0 H d19_0 rfl) ?_
  refine OwnG.st (y_aloadN X0 H d19_1 rfl) ?_
  refine OwnG.st (y_lloadN X0 H d19_2 rfl) ?_
  refine OwnG.st (y_aloadN X0 H d19_3 rfl) ?_
  refine OwnG.v1 7 (getF X0 hx hZ hown (host := "") (Or.inl (ww hw 61 rfl)) Via.refl e0 FMS7_51 (g := mkF m 4 _ _) rfl rfl (hb hby d19_4)) ?_
  intro T52 X52 e52
  refine OwnG.st (y_lsub X52 H d19_7) ?_
  refine OwnG.st (y_iconst X52 H (1) d19_8 rfl) ?_
  refine OwnG.st (y_lshl X52 H d19_9) ?_
  refine OwnG.st (y_iloadN X52 H d19_10 rfl) ?_
  refine OwnG.st (y_iconst X52 H (1) d19_11 rfl) ?_
  obtain ⟨z20_54, hz20_54⟩ : ∃ w : Int32, w = (if p3 = (1 : Int32) then (0 : Int32) else (1 : Int32)) := ⟨_, rfl⟩
  have dj55 : ∀ tgt, Steps p.tables e below (T52.setTop (mkF m 20 #[.val (.ref a1), .val (.long q2), .second, .val (.int p3)] [(.int z20_54), (.long ((q2 - next) <<< ((1 : Int32) &&& 0x3f).toInt64)), (.ref a1), (.ref a1)])) tgt → Steps p.tables e below (T52.setTop (mkF m 12 #[.val (.ref a1), .val (.long q2), .second, .val (.int p3)] [(.int (1 : Int32)), (.int p3), (.long ((q2 - next) <<< ((1 : Int32) &&& 0x3f).toInt64)), (.ref a1), (.ref a1)])) tgt := by
    intro tgt kt
    by_cases hc12_53 : p3 = (1 : Int32)
    · have qz20_54 : z20_54 = (0 : Int32) := by rw [hz20_54, if_pos hc12_53]
      rw [qz20_54] at kt
      refine y_icN X52 H d19_12 (teq hc12_53).2 _ ?_
      refine y_iconst X52 H (0) d19_15 rfl _ ?_
      refine y_goto X52 H 20 d19_16 (by decide) (by decide) _ ?_
      exact kt
    · have qz20_54 : z20_54 = (1 : Int32) := by rw [hz20_54, if_neg hc12_53]
      rw [qz20_54] at kt
      refine y_icY X52 H 19 d19_12 (feq hc12_53).2 (by decide) (by decide) _ ?_
      refine y_iconst X52 H (1) d19_19 rfl _ ?_
      exact kt
  refine OwnG.st dj55 ?_
  refine OwnG.st (y_i2l X52 H d19_20) ?_
  refine OwnG.st (y_lor X52 H d19_21) ?_
  refine OwnG.st (y_aloadN X52 H d19_22 rfl) ?_
  refine OwnG.v1 26 (getF X52 hx hZ hown (host := "") (Or.inl (ww hw 59 rfl)) Via.refl e52 FMS6_51 (g := mkF m 23 _ _) rfl rfl (hb hby d19_23)) ?_
  intro T56 X56 e56
  have hVz : V = (((q2 - next) <<< ((1 : Int32) &&& 0x3f).toInt64) ||| (z20_54.toInt64)) := by rw [hV, hz20_54]; rfl
  show OwnG p e below s _ _ _ T56 (mkF m 26 #[.val (.ref a1), .val (.long q2), .second, .val (.int p3)] [(.int elen), (.long (((q2 - next) <<< ((1 : Int32) &&& 0x3f).toInt64) ||| (z20_54.toInt64))), (.ref a1), (.ref a1)])
  rw [← hVz]
  obtain ⟨cq57, qc57, qd57⟩ := EMS_51.cell
  refine OwnG.cm 29 0 0 X56 (X56.privateBack hx (y := mn_20) hown (mvT hZ (ww hw 134 rfl)) (mvT hZ (ww hw 135 rfl)) (mvT hZ (own_selP (y := mn_20) (y0 := mn_5) rfl (ww hw 52 rfl) (ww hw 135 rfl) (ww hw 136 rfl) (by decide))) (Cond.privateMethod_at (mvP hZ (ww hw 136 rfl) (args := #[]))) (mvT hZ (ww hw 137 rfl)) (by decide) (backOf (W := 1) (rm20 l Z a0 hw [] a1 V elen enc M1 nE gE h0 n0 Z0 gb_enc FMS5_51 A_e ne_e (by omega) hn hM1 hm1 hl1) hZ (ww hw 137 rfl) (ww hw 10 rfl) (by decide) (by decide)) (g := mkF m 26 _ _) rfl (by rw [hml]; rfl) (Steps.refl _) (a := a1) (by rw [e56]; exact qc57) qd57 (argsL := [(.long V), (.int elen)]) (rest := [(.ref a1)]) (lenOf pd_19_0 rfl) rfl (by show 2 * 0 + _ ≤ _; exact Nat.le_of_eq rfl) (hb hby d19_26) (fun _ _ => ⟨rfl, e56, (by decide : 0 + 0 ≤ _), (by decide : 0 + 0 ≤ _)⟩)) rfl rfl ?_
  intro T57 Lc57 vc57 X57 hQ57
  obtain ⟨hv57, N57q, Kq57, Vq57⟩ := hQ57
  have Z57 : LeA (n0) (T57.heap.size) := Nat.le_trans Z0 Kq57.1
  have f58 := Exa.keep EMS_51 Kq57
  have f59 := Fld.keep FMS0_51 Kq57 (ninS (Ne.symm ne_e) nin0)
  have f60 := Fld.keep FMS1_51 Kq57 (ninS (Ne.symm ne_e) nin0)
  have f61 := Fld.keep FMS2_51 Kq57 (ninS (Ne.symm ne_e) nin0)
  have f62 := Fld.keep FMS3_51 Kq57 (ninS (Ne.symm ne_e) nin0)
  have f63 := Fld.keep FMS4_51 Kq57 (ninS (Ne.symm ne_e) nin0)
  have f64 := Fld.keep FMS5_51 Kq57 (ninS (Ne.symm ne_e) nin0)
  have f65 := Fld.keep FMS6_51 Kq57 (ninS (Ne.symm ne_e) nin0)
  have f66 := Fld.keep FMS7_51 Kq57 (ninS (Ne.symm ne_e) nin0)
  have f67 := Fld.keep FMS8_51 Kq57 (ninS (Ne.symm ne_e) nin0)
  have f68 := Fld.keep FMS9_51 Kq57 (ninS (Ne.symm ne_e) nin0)
  have K57 : Keep h0 T57.heap [a1, enc] := (Keep.refl h0 [a1, enc]).trans Kq57 (fun x hx => by simp only [List.mem_cons, List.not_mem_nil, or_false] at hx; simp only [List.mem_cons, List.not_mem_nil, or_false]; first | (left; exact hx) | (rcases hx with q | q <;> simp [q]) | (simp [hx]))
  have N57 := Fr.app N0 N57q
  refine OwnG.cv hv57 ?_
  clear hv57
  refine OwnG.v2 32 (putF X57 hx hZ hown (host := "") (Or.inl (ww hw 59 rfl)) Via.refl rfl f65 f58 (Or.inl (ww hw 60 rfl)) (ww hw 9 rfl) (ty := .int) (by decide) rfl rfl (g := mkF m 29 _ _) rfl rfl (hb hby d19_29)) ?_
  intro T69 h69 X69 e69 W69
  have f70 := Exa.wr W69 f58
  have f71 := Fld.other W69 f59 (Or.inr (sn_19 hw))
  have f72 := Fld.other W69 f60 (Or.inr (sn_20 hw))
  have f73 := Fld.other W69 f61 (Or.inr (sn_21 hw))
  have f74 := Fld.other W69 f62 (Or.inr (sn_22 hw))
  have f75 := Fld.other W69 f63 (Or.inr (sn_23 hw))
  have f76 := Fld.other W69 f64 (Or.inr (sn_24 hw))
  have f77 := Fld.other W69 f66 (Or.inr (sn_25 hw))
  have f78 := Fld.other W69 f67 (Or.inr (sn_26 hw))
  have f79 := Fld.other W69 f68 (Or.inr (sn_27 hw))
  have f80 := Vq57.other W69 ne_e
  have Fw69 : Fld Z h69 a1 "com/example/deft_nets/deftnets/MarkingStore" "mEncodedLength" "I" (.int (elen + Int32.ofNat M1)) := Fld.same W69 f65
  have N69 := Fr.snoc X69 N57 gb_a1
  have Z69 : LeA (n0) (h69.size) := by rw [W69.size]; exact Z57
  have K69 : Keep h0 h69 [a1, enc] := K57.wr W69 (Or.inl (by simp))
  refine OwnG.st (y_iloadN X69 H d19_32 rfl) ?_
  refine OwnG.st (y_iconst X69 H (1) d19_33 rfl) ?_
  by_cases hc34_81 : p3 = (1 : Int32)
  · refine OwnG.st (y_icY X69 H 51 d19_34 (teq hc34_81).1 (by decide) (by decide)) ?_
    refine OwnG.st (y_aloadN X69 H d19_51 rfl) ?_
    refine OwnG.st (y_lloadN X69 H d19_52 rfl) ?_
    refine OwnG.st (y_lconst X69 H 1 d19_53 rfl) ?_
    refine OwnG.st (y_ladd X69 H d19_54) ?_
    refine OwnG.v2 58 (putF X69 hx hZ hown (host := "") (Or.inl (ww hw 61 rfl)) Via.refl e69 f77 f70 (Or.inl (ww hw 62 rfl)) (ww hw 9 rfl) (ty := .long) (by decide) rfl rfl (g := mkF m 55 _ _) rfl rfl (hb hby d19_55)) ?_
    intro T82 h82 X82 e82 W82
    have f83 := Exa.wr W82 f70
    have f84 := Fld.other W82 f71 (Or.inr (sn_28 hw))
    have f85 := Fld.other W82 f72 (Or.inr (sn_29 hw))
    have f86 := Fld.other W82 f73 (Or.inr (sn_30 hw))
    have f87 := Fld.other W82 f74 (Or.inr (sn_31 hw))
    have f88 := Fld.other W82 f75 (Or.inr (sn_32 hw))
    have f89 := Fld.other W82 f76 (Or.inr (sn_33 hw))
    have f90 := Fld.other W82 Fw69 (Or.inr (sn_34 hw))
    have f91 := Fld.other W82 f78 (Or.inr (sn_35 hw))
    have f92 := Fld.other W82 f79 (Or.inr (sn_36 hw))
    have f93 := f80.other W82 ne_e
    have Fw82 : Fld Z h82 a1 "com/example/deft_nets/deftnets/MarkingStore" "mNextPlace" "J" (.long (q2 + (1 : Int64))) := Fld.same W82 f77
    have N82 := Fr.snoc X82 N69 gb_a1
    have K82 : Keep h0 h82 [a1, enc] := K69.wr W82 (Or.inl (by simp))
    have hE : Ent (own_wf gE elen.toInt.toNat V M1) elen.toInt.toNat (elen + Int32.ofNat M1).toInt.toNat V p3 := by rw [hi1.2, hc34_81]; exact own_ent1 gE _ V M1 hV0 hM1 hl1 (hV1.mpr hc34_81)
    rw [hV] at hE
    have hsm : q2.toInt - next.toInt ≤ 255 → p3.toInt ≤ 4 → (elen + Int32.ofNat M1).toInt ≤ elen.toInt + 3 := fun a c => by have := hb2 (by rw [hVv]; split <;> omega); omega
    exact OwnG.retV X82 hx Bd.returns (BodyLoose.notSynchronized Bd) (hb hby d19_58) (by rw [e82]; exact ⟨_, _, rfl, N82, K82, ⟨f83, f84, f85, f86, f87, f88, f89, f90, Fw82, f91, f92⟩, f93, own_wfb _ _ _ _ hM1.1 hBy, fun i hi => own_wfo _ _ _ _ _ hM1.1 hi, (by rw [← hV] at hE ⊢; exact hE), by omega, by omega, hsm⟩) (by decide) (by decide)
  · refine OwnG.st (y_icN X69 H d19_34 (feq hc34_81).1) ?_
    refine OwnG.st (y_aloadN X69 H d19_37 rfl) ?_
    refine OwnG.st (y_aloadN X69 H d19_38 rfl) ?_
    refine OwnG.st (y_iloadN X69 H d19_39 rfl) ?_
    refine OwnG.st (y_i2l X69 H d19_40) ?_
    refine OwnG.st (y_aloadN X69 H d19_41 rfl) ?_
    refine OwnG.v1 45 (getF X69 hx hZ hown (host := "") (Or.inl (ww hw 59 rfl)) Via.refl e69 Fw69 (g := mkF m 42 _ _) rfl rfl (hb hby d19_42)) ?_
    intro T94 X94 e94
    obtain ⟨cq95, qc95, qd95⟩ := f70.cell
    refine OwnG.cm 48 0 0 X94 (X94.privateBack hx (y := mn_20) hown (mvT hZ (ww hw 134 rfl)) (mvT hZ (ww hw 135 rfl)) (mvT hZ (own_selP (y := mn_20) (y0 := mn_5) rfl (ww hw 52 rfl) (ww hw 135 rfl) (ww hw 136 rfl) (by decide))) (Cond.privateMethod_at (mvP hZ (ww hw 136 rfl) (args := #[]))) (mvT hZ (ww hw 137 rfl)) (by decide) (backOf (W := 1) (rm20 l Z a0 hw [] a1 (p3.toInt64) (elen + Int32.ofNat M1) enc M2 nE (own_wf gE elen.toInt.toNat V M1) h69 n0 Z69 gb_enc f76 f80 ne_e (by omega) hn hM2 hm2 hl2) hZ (ww hw 137 rfl) (ww hw 10 rfl) (by decide) (by decide)) (g := mkF m 45 _ _) rfl (by rw [hml]; rfl) (Steps.refl _) (a := a1) (by rw [e94]; exact qc95) qd95 (argsL := [(.long (p3.toInt64)), (.int (elen + Int32.ofNat M1))]) (rest := [(.ref a1)]) (lenOf pd_19_0 rfl) rfl (by show 2 * 0 + _ ≤ _; exact Nat.le_of_eq rfl) (hb hby d19_45) (fun _ _ => ⟨rfl, e94, (by decide : 0 + 0 ≤ _), (by decide : 0 + 0 ≤ _)⟩)) rfl rfl ?_
    intro T95 Lc95 vc95 X95 hQ95
    obtain ⟨hv95, N95q, Kq95, Vq95⟩ := hQ95
    have f96 := Exa.keep f70 Kq95
    have f97 := Fld.keep f71 Kq95 (ninS (Ne.symm ne_e) nin0)
    have f98 := Fld.keep f72 Kq95 (ninS (Ne.symm ne_e) nin0)
    have f99 := Fld.keep f73 Kq95 (ninS (Ne.symm ne_e) nin0)
    have f100 := Fld.keep f74 Kq95 (ninS (Ne.symm ne_e) nin0)
    have f101 := Fld.keep f75 Kq95 (ninS (Ne.symm ne_e) nin0)
    have f102 := Fld.keep f76 Kq95 (ninS (Ne.symm ne_e) nin0)
    have f103 := Fld.keep Fw69 Kq95 (ninS (Ne.symm ne_e) nin0)
    have f104 := Fld.keep f77 Kq95 (ninS (Ne.symm ne_e) nin0)
    have f105 := Fld.keep f78 Kq95 (ninS (Ne.symm ne_e) nin0)
    have f106 := Fld.keep f79 Kq95 (ninS (Ne.symm ne_e) nin0)
    have K95 : Keep h0 T95.heap [a1, enc] := K69.trans Kq95 (fun x hx => by simp only [List.mem_cons, List.not_mem_nil, or_false] at hx; simp only [List.mem_cons, List.not_mem_nil, or_false]; first | (left; exact hx) | (rcases hx with q | q <;> simp [q]) | (simp [hx]))
    have N95 := Fr.app N69 N95q
    refine OwnG.cv hv95 ?_
    clear hv95
    refine OwnG.v2 51 (putF X95 hx hZ hown (host := "") (Or.inl (ww hw 59 rfl)) Via.refl rfl f103 f96 (Or.inl (ww hw 60 rfl)) (ww hw 9 rfl) (ty := .int) (by decide) rfl rfl (g := mkF m 48 _ _) rfl rfl (hb hby d19_48)) ?_
    intro T107 h107 X107 e107 W107
    have f108 := Exa.wr W107 f96
    have f109 := Fld.other W107 f97 (Or.inr (sn_19 hw))
    have f110 := Fld.other W107 f98 (Or.inr (sn_20 hw))
    have f111 := Fld.other W107 f99 (Or.inr (sn_21 hw))
    have f112 := Fld.other W107 f100 (Or.inr (sn_22 hw))
    have f113 := Fld.other W107 f101 (Or.inr (sn_23 hw))
    have f114 := Fld.other W107 f102 (Or.inr (sn_24 hw))
    have f115 := Fld.other W107 f104 (Or.inr (sn_25 hw))
    have f116 := Fld.other W107 f105 (Or.inr (sn_26 hw))
    have f117 := Fld.other W107 f106 (Or.inr (sn_27 hw))
    have f118 := Vq95.other W107 ne_e
    have Fw107 : Fld Z h107 a1 "com/example/deft_nets/deftnets/MarkingStore" "mEncodedLength" "I" (.int ((elen + Int32.ofNat M1) + Int32.ofNat M2)) := Fld.same W107 f103
    have N107 := Fr.snoc X107 N95 gb_a1
    have K107 : Keep h0 h107 [a1, enc] := K95.wr W107 (Or.inl (by simp))
    refine OwnG.st (y_aloadN X107 H d19_51 rfl) ?_
    refine OwnG.st (y_lloadN X107 H d19_52 rfl) ?_
    refine OwnG.st (y_lconst X107 H 1 d19_53 rfl) ?_
    refine OwnG.st (y_ladd X107 H d19_54) ?_
    refine OwnG.v2 58 (putF X107 hx hZ hown (host := "") (Or.inl (ww hw 61 rfl)) Via.refl e107 f115 f108 (Or.inl (ww hw 62 rfl)) (ww hw 9 rfl) (ty := .long) (by decide) rfl rfl (g := mkF m 55 _ _) rfl rfl (hb hby d19_55)) ?_
    intro T119 h119 X119 e119 W119
    have f120 := Exa.wr W119 f108
    have f121 := Fld.other W119 f109 (Or.inr (sn_28 hw))
    have f122 := Fld.other W119 f110 (Or.inr (sn_29 hw))
    have f123 := Fld.other W119 f111 (Or.inr (sn_30 hw))
    have f124 := Fld.other W119 f112 (Or.inr (sn_31 hw))
    have f125 := Fld.other W119 f113 (Or.inr (sn_32 hw))
    have f126 := Fld.other W119 f114 (Or.inr (sn_33 hw))
    have f127 := Fld.other W119 Fw107 (Or.inr (sn_34 hw))
    have f128 := Fld.other W119 f116 (Or.inr (sn_35 hw))
    have f129 := Fld.other W119 f117 (Or.inr (sn_36 hw))
    have f130 := f118.other W119 ne_e
    have Fw119 : Fld Z h119 a1 "com/example/deft_nets/deftnets/MarkingStore" "mNextPlace" "J" (.long (q2 + (1 : Int64))) := Fld.same W119 f115
    have N119 := Fr.snoc X119 N107 gb_a1
    have K119 : Keep h0 h119 [a1, enc] := K107.wr W119 (Or.inl (by simp))
    have hE : Ent (own_wf (own_wf gE elen.toInt.toNat V M1) (elen + Int32.ofNat M1).toInt.toNat (p3.toInt64) M2) elen.toInt.toNat (elen + Int32.ofNat M1 + Int32.ofNat M2).toInt.toNat V p3 := by rw [hi2.2, hi1.2]; exact own_ent2 gE _ V M1 hV0 hM1 hl1 (fun q => hc34_81 (hV1.mp q)) p3 M2 (by omega) hM2 hl2
    have hsm : q2.toInt - next.toInt ≤ 255 → p3.toInt ≤ 4 → (elen + Int32.ofNat M1 + Int32.ofNat M2).toInt ≤ elen.toInt + 3 := fun a c => by have := hb2 (by rw [hVv]; split <;> omega); have := hd1 (by omega); omega
    exact OwnG.retV X119 hx Bd.returns (BodyLoose.notSynchronized Bd) (hb hby d19_58) (by rw [e119]; exact ⟨_, _, rfl, N119, K119, ⟨f120, f121, f122, f123, f124, f125, f126, f127, Fw119, f128, f129⟩, f130, own_wfb _ _ _ _ hM2.1 (own_wfb _ _ _ _ hM1.1 hBy), fun i hi => by rw [own_wfo _ _ _ _ _ hM2.1 (by omega)]; exact own_wfo _ _ _ _ _ hM1.1 hi, (by rw [← hV]; exact hE), by omega, by omega, hsm⟩) (by decide) (by decide)
theorem d8_0 : decode k8_ 0 = .ok (.ldc 139, 2) := by decide +kernel
theorem d8_2 : decode k8_ 2 = .ok (.istore_n 1, 1) := by decide +kernel
theorem d8_3 : decode k8_ 3 = .ok (.iconst 0, 1) := by decide +kernel
theorem d8_4 : decode k8_ 4 = .ok (.istore_n 2, 1) := by decide +kernel
theorem d8_5 : decode k8_ 5 = .ok (.iload_n 2, 1) := by decide +kernel
theorem d8_6 : decode k8_ 6 = .ok (.aload_n 0, 1) := by decide +kernel
theorem d8_7 : decode k8_ 7 = .ok (.getfield 54, 3) := by decide +kernel
theorem d8_10 : decode k8_ 10 = .ok (.if_icmp .ge 25, 3) := by decide +kernel
theorem d8_13 : decode k8_ 13 = .ok (.iload_n 1, 1) := by decide +kernel
theorem d8_14 : decode k8_ 14 = .ok (.aload_n 0, 1) := by decide +kernel
theorem d8_15 : decode k8_ 15 = .ok (.getfield 23, 3) := by decide +kernel
theorem d8_18 : decode k8_ 18 = .ok (.iload_n 2, 1) := by decide +kernel
theorem d8_19 : decode k8_ 19 = .ok (.baload, 1) := by decide +kernel
theorem d8_20 : decode k8_ 20 = .ok (.sipush 255, 3) := by decide +kernel
theorem d8_23 : decode k8_ 23 = .ok (.iand, 1) := by decide +kernel
theorem d8_24 : decode k8_ 24 = .ok (.ixor, 1) := by decide +kernel
theorem d8_25 : decode k8_ 25 = .ok (.ldc 140, 2) := by decide +kernel
theorem d8_27 : decode k8_ 27 = .ok (.imul, 1) := by decide +kernel
theorem d8_28 : decode k8_ 28 = .ok (.istore_n 1, 1) := by decide +kernel
theorem d8_29 : decode k8_ 29 = .ok (.iinc 2 1, 3) := by decide +kernel
theorem d8_32 : decode k8_ 32 = .ok (.goto (-27), 3) := by decide +kernel
theorem d8_35 : decode k8_ 35 = .ok (.iload_n 1, 1) := by decide +kernel
theorem d8_36 : decode k8_ 36 = .ok (.iload_n 1, 1) := by decide +kernel
theorem d8_37 : decode k8_ 37 = .ok (.bipush 16, 2) := by decide +kernel
theorem d8_39 : decode k8_ 39 = .ok (.iushr, 1) := by decide +kernel
theorem d8_40 : decode k8_ 40 = .ok (.ixor, 1) := by decide +kernel
theorem d8_41 : decode k8_ 41 = .ok (.istore_n 1, 1) := by decide +kernel
theorem d8_42 : decode k8_ 42 = .ok (.iload_n 1, 1) := by decide +kernel
theorem d8_43 : decode k8_ 43 = .ok (.ldc 141, 2) := by decide +kernel
theorem d8_45 : decode k8_ 45 = .ok (.imul, 1) := by decide +kernel
theorem d8_46 : decode k8_ 46 = .ok (.istore_n 1, 1) := by decide +kernel
theorem d8_47 : decode k8_ 47 = .ok (.iload_n 1, 1) := by decide +kernel
theorem d8_48 : decode k8_ 48 = .ok (.iload_n 1, 1) := by decide +kernel
theorem d8_49 : decode k8_ 49 = .ok (.bipush 13, 2) := by decide +kernel
theorem d8_51 : decode k8_ 51 = .ok (.iushr, 1) := by decide +kernel
theorem d8_52 : decode k8_ 52 = .ok (.ixor, 1) := by decide +kernel
theorem d8_53 : decode k8_ 53 = .ok (.istore_n 1, 1) := by decide +kernel
theorem d8_54 : decode k8_ 54 = .ok (.iload_n 1, 1) := by decide +kernel
theorem d8_55 : decode k8_ 55 = .ok (.ldc 142, 2) := by decide +kernel
theorem d8_57 : decode k8_ 57 = .ok (.imul, 1) := by decide +kernel
theorem d8_58 : decode k8_ 58 = .ok (.istore_n 1, 1) := by decide +kernel
theorem d8_59 : decode k8_ 59 = .ok (.iload_n 1, 1) := by decide +kernel
theorem d8_60 : decode k8_ 60 = .ok (.iload_n 1, 1) := by decide +kernel
theorem d8_61 : decode k8_ 61 = .ok (.bipush 16, 2) := by decide +kernel
theorem d8_63 : decode k8_ 63 = .ok (.iushr, 1) := by decide +kernel
theorem d8_64 : decode k8_ 64 = .ok (.ixor, 1) := by decide +kernel
theorem d8_65 : decode k8_ 65 = .ok (.ireturn, 1) := by decide +kernel
theorem pn_8 : plainName "com/example/deft_nets/deftnets/MarkingStore" = true := by first | (simp [plainName, overriddenIn]; done) | decide +kernel
theorem ef_8 (m : MethodId) (a1 : Addr) : entryFrame m #[(.ref a1)] 3 = mkF m 0 #[.val (.ref a1), .unset, .unset] [] := by first | (simp [entryFrame, mkF, argsToLocals, Value.category]; done) | rfl
def Q8 (Z : State) (a1 : Addr) (enc : Addr) (elen : Int32) (nE : Nat) (gE : Nat → Int32) (h0 : Heap) (n0 : Nat) (v : Option Value) (h : Heap) (L : List Loc) : Prop := ∃ w : Int32, v = some (.int w) ∧ Fr n0 L ∧ h = h0
set_option maxRecDepth 65536 in
set_option maxHeartbeats 40000000 in
theorem rm8 (l : Launch) (Z : State) (a0 : Array Value) (hw : HW a0 Z) (ws : List Jvm.Cond) (a1 : Addr) (enc : Addr) (elen : Int32) (nE : Nat) (gE : Nat → Int32) (h0 : Heap) (n0 : Nat) (Z0 : n0 ≤ h0.size) (Fe : Fld Z h0 a1 "com/example/deft_nets/deftnets/MarkingStore" "mEncoded" "[B" (.ref enc)) (Fl : Fld Z h0 a1 "com/example/deft_nets/deftnets/MarkingStore" "mEncodedLength" "I" (.int elen)) (A_e : OwnA Z h0 enc .byte nE (iv' gE)) (he : 0 ≤ elen.toInt ∧ elen.toInt ≤ nE) (hn : nE ≤ 28) :
    MetFree l mn_8 (head1 (Jvm.Cond.code mn_8 prog_31_method_14_code 3 (some .int) :: ws) ({ frames := 0, cells := 0, slots := 0, locals := 0 } : Room)) (fun a U => a = #[(.ref a1)] ∧ Z.Warmed39 U.vm ∧ U.heap = h0) (fun _ _ _ _ _ => True) (fun _ U o U' => ∃ v L, o = .returned v ∧ Q8 Z a1 enc elen nE gE h0 n0 v U'.heap L ∧ FrameEnd U o U' L ({ frames := 0, cells := 0, slots := 0, locals := 0 } : Room).cells ({ frames := 0, cells := 0, slots := 0, locals := 0 } : Room).slots) := by
  refine MetFree.of_bodySF (plainFor_of_name pn_8) hisR ?_
  intro p e s m args below meth c s₁ Bd hml0 hP hK
  obtain ⟨rfl, hZ, hh⟩ := hP
  have hx := Bd.exec
  have hby := Bd.bytes
  have H := And.intro hx hby
  have hml : c.maxLocals = 3 := hml0
  have hown : s.vm.findClass "com/example/deft_nets/deftnets/MarkingStore" = some m.cls := findClass_of_methodNamed Bd.named
  have hnm := (name_of_methodNamed Bd.named Bd.method).1
  have X0 : Stand p l e ({ frames := 0, cells := 0, slots := 0, locals := 0 } : Room) s m #[(.ref a1)] below meth c s₁ [] 0 0 := Stand.of_body Bd
  have e0 : s₁.heap = h0 := by rw [← hh, Bd.state]; rfl
  have N0 := Fr.nil n0
  suffices hG : OwnG p e below s (Q8 Z a1 enc elen nE gE h0 n0) ({ frames := 0, cells := 0, slots := 0, locals := 0 } : Room).cells ({ frames := 0, cells := 0, slots := 0, locals := 0 } : Room).slots s₁ (mkF m 0 #[.val (.ref a1), .unset, .unset] []) by
    obtain ⟨s2, o2, g1, g2⟩ := hG
    exact ⟨s2, o2, castTop (ef_8 m a1) g1, g2⟩
  refine OwnG.st (y_ldcI X0 H hown (mvT hZ (ww hw 71 rfl)) d8_0) ?_
  refine OwnG.st (y_istoreN X0 H #[.val (.ref a1), .val (.int (-2128831035 : Int32)), .unset] d8_2 rfl) ?_
  refine OwnG.st (y_iconst X0 H (0) d8_3 rfl) ?_
  refine OwnG.st (y_istoreN X0 H #[.val (.ref a1), .val (.int (-2128831035 : Int32)), .val (.int (0 : Int32))] d8_4 rfl) ?_
  have lp51 : ∀ (k : Nat) (T : State) (lc : List Loc) (h1 : Int32) (i2 : Int32) (X : Stand p l e ({ frames := 0, cells := 0, slots := 0, locals := 0 } : Room) s m #[(.ref a1)] below meth c T lc 0 0) (eT : T.heap = h0) (N : Fr n0 lc) (hi0 : 0 ≤ i2.toInt), (elen.toInt - i2.toInt).toNat = k → OwnG p e below s (Q8 Z a1 enc elen nE gE h0 n0) ({ frames := 0, cells := 0, slots := 0, locals := 0 } : Room).cells ({ frames := 0, cells := 0, slots := 0, locals := 0 } : Room).slots T (mkF m 5 #[.val (.ref a1), .val (.int h1), .val (.int i2)] []) := by
    intro k
    induction k using Nat.strongRecOn with
    | _ k ih =>
      intro T lc h1 i2 X eT N hi0 hk
      refine OwnG.st (y_iloadN X H d8_5 rfl) ?_
      refine OwnG.st (y_aloadN X H d8_6 rfl) ?_
      refine OwnG.v1 10 (getF X hx hZ hown (host := "") (Or.inl (ww hw 59 rfl)) Via.refl eT Fl (g := mkF m 7 _ _) rfl rfl (hb hby d8_7)) ?_
      intro T52 X52 e52
      by_cases hc10_53 : i2 < elen
      · refine OwnG.st (y_icN X52 H d8_10 (tlt hc10_53).2.1) ?_
        refine OwnG.st (y_iloadN X52 H d8_13 rfl) ?_
        refine OwnG.st (y_aloadN X52 H d8_14 rfl) ?_
        refine OwnG.v1 18 (getF X52 hx hZ hown (host := "") (Or.inl (ww hw 45 rfl)) Via.refl e52 Fe (g := mkF m 15 _ _) rfl rfl (hb hby d8_15)) ?_
        intro T54 X54 e54
        refine OwnG.st (y_iloadN X54 H d8_18 rfl) ?_
        refine OwnG.st (y_ldB A_e X54 H hZ e54 hi0 (by have := Int32.lt_iff_toInt_lt.mp hc10_53; omega) d8_19 (gE i2.toInt.toNat) rfl) ?_
        refine OwnG.st (y_sipush X54 H (255) d8_20 rfl) ?_
        refine OwnG.st (y_iand X54 H d8_23) ?_
        refine OwnG.st (y_ixor X54 H d8_24) ?_
        refine OwnG.st (y_ldcI X54 H hown (mvT hZ (ww hw 139 rfl)) d8_25) ?_
        refine OwnG.st (y_imul X54 H d8_27) ?_
        refine OwnG.st (y_istoreN X54 H #[.val (.ref a1), .val (.int ((h1 ^^^ ((gE i2.toInt.toNat) &&& (255 : Int32))) * (16777619 : Int32))), .val (.int i2)] d8_28 rfl) ?_
        refine OwnG.st (y_iinc X54 H #[.val (.ref a1), .val (.int ((h1 ^^^ ((gE i2.toInt.toNat) &&& (255 : Int32))) * (16777619 : Int32))), .val (.int (i2 + (1 : Int32)))] d8_29 rfl rfl) ?_
        refine OwnG.st (y_goto X54 H 5 d8_32 (by decide) (by decide)) ?_
        have hlt0 := Int32.lt_iff_toInt_lt.mp hc10_53
        have hi1 := x_iadd i2 1 (by have e1 : (1 : Int32).toInt = 1 := rfl; omega)
        exact ih _ (by rw [← hk, hi1, show (1 : Int32).toInt = 1 from rfl]; omega) T54 _ _ _ X54 e54 N (by rw [hi1, show (1 : Int32).toInt = 1 from rfl]; omega) rfl
      · refine OwnG.st (y_icY X52 H 35 d8_10 (flt hc10_53).2.1 (by decide) (by decide)) ?_
        refine OwnG.st (y_iloadN X52 H d8_35 rfl) ?_
        refine OwnG.st (y_iloadN X52 H d8_36 rfl) ?_
        refine OwnG.st (y_bipush X52 H (16) d8_37 rfl) ?_
        refine OwnG.st (y_iushr X52 H d8_39) ?_
        refine OwnG.st (y_ixor X52 H d8_40) ?_
        refine OwnG.st (y_istoreN X52 H #[.val (.ref a1), .val (.int (h1 ^^^ ((h1.toUInt32 >>> ((16 : Int32) &&& 31).toUInt32).toInt32))), .val (.int i2)] d8_41 rfl) ?_
        refine OwnG.st (y_iloadN X52 H d8_42 rfl) ?_
        refine OwnG.st (y_ldcI X52 H hown (mvT hZ (ww hw 72 rfl)) d8_43) ?_
        refine OwnG.st (y_imul X52 H d8_45) ?_
        refine OwnG.st (y_istoreN X52 H #[.val (.ref a1), .val (.int ((h1 ^^^ ((h1.toUInt32 >>> ((16 : Int32) &&& 31).toUInt32).toInt32)) * (-2048144789 : Int32))), .val (.int i2)] d8_46 rfl) ?_
        refine OwnG.st (y_iloadN X52 H d8_47 rfl) ?_
        refine OwnG.st (y_iloadN X52 H d8_48 rfl) ?_
        refine OwnG.st (y_bipush X52 H (13) d8_49 rfl) ?_
        refine OwnG.st (y_iushr X52 H d8_51) ?_
        refine OwnG.st (y_ixor X52 H d8_52) ?_
        refine OwnG.st (y_istoreN X52 H #[.val (.ref a1), .val (.int (((h1 ^^^ ((h1.toUInt32 >>> ((16 : Int32) &&& 31).toUInt32).toInt32)) * (-2048144789 : Int32)) ^^^ ((((h1 ^^^ ((h1.toUInt32 >>> ((16 : Int32) &&& 31).toUInt32).toInt32)) * (-2048144789 : Int32)).toUInt32 >>> ((13 : Int32) &&& 31).toUInt32).toInt32))), .val (.int i2)] d8_53 rfl) ?_
        refine OwnG.st (y_iloadN X52 H d8_54 rfl) ?_
        refine OwnG.st (y_ldcI X52 H hown (mvT hZ (ww hw 73 rfl)) d8_55) ?_
        refine OwnG.st (y_imul X52 H d8_57) ?_
        refine OwnG.st (y_istoreN X52 H #[.val (.ref a1), .val (.int ((((h1 ^^^ ((h1.toUInt32 >>> ((16 : Int32) &&& 31).toUInt32).toInt32)) * (-2048144789 : Int32)) ^^^ ((((h1 ^^^ ((h1.toUInt32 >>> ((16 : Int32) &&& 31).toUInt32).toInt32)) * (-2048144789 : Int32)).toUInt32 >>> ((13 : Int32) &&& 31).toUInt32).toInt32)) * (-1028477387 : Int32))), .val (.int i2)] d8_58 rfl) ?_
        refine OwnG.st (y_iloadN X52 H d8_59 rfl) ?_
        refine OwnG.st (y_iloadN X52 H d8_60 rfl) ?_
        refine OwnG.st (y_bipush X52 H (16) d8_61 rfl) ?_
        refine OwnG.st (y_iushr X52 H d8_63) ?_
        refine OwnG.st (y_ixor X52 H d8_64) ?_
        exact OwnG.retI X52 hx Bd.returns (BodyLoose.notSynchronized Bd) (hb hby d8_65) ⟨_, rfl, N, e52⟩ (by decide) (by decide)
  exact lp51 _ s₁ _  _ _ X0 e0 N0 (by decide)  rfl
theorem d27_0 : decode k27_ 0 = .ok (.iload_n 1, 1) := by decide +kernel
theorem d27_1 : decode k27_ 1 = .ok (.iload_n 2, 1) := by decide +kernel
theorem d27_2 : decode k27_ 2 = .ok (.if_icmp .le 44, 3) := by decide +kernel
theorem d27_46 : decode k27_ 46 = .ok (.iload_n 1, 1) := by decide +kernel
theorem d27_47 : decode k27_ 47 = .ok (.ifCond .ge 12, 3) := by decide +kernel
theorem d27_59 : decode k27_ 59 = .ok (.iload_n 2, 1) := by decide +kernel
theorem d27_60 : decode k27_ 60 = .ok (.iload_n 0, 1) := by decide +kernel
theorem d27_61 : decode k27_ 61 = .ok (.if_icmp .le 12, 3) := by decide +kernel
theorem d27_73 : decode k27_ 73 = .ok (.return_, 1) := by decide +kernel
theorem pn_27 : plainName "java/util/Arrays" = true := by first | (simp [plainName, overriddenIn]; done) | decide +kernel
theorem ef_27 (m : MethodId) (p1 : Int32) (p2 : Int32) (p3 : Int32) : entryFrame m #[(.int p1), (.int p2), (.int p3)] 3 = mkF m 0 #[.val (.int p1), .val (.int p2), .val (.int p3)] [] := by first | (simp [entryFrame, mkF, argsToLocals, Value.category]; done) | rfl
def Q27 (Z : State) (p1 : Int32) (p2 : Int32) (p3 : Int32) (h0 : Heap) (n0 : Nat) (v : Option Value) (h : Heap) (L : List Loc) : Prop := v = none ∧ Fr n0 L ∧ h = h0
set_option maxRecDepth 65536 in
set_option maxHeartbeats 40000000 in
theorem rm27 (l : Launch) (Z : State) (a0 : Array Value) (hw : HW a0 Z) (ws : List Jvm.Cond) (p1 : Int32) (p2 : Int32) (p3 : Int32)  (h0 : Heap) (n0 : Nat) (Z0 : n0 ≤ h0.size) (hr : 0 ≤ p2.toInt ∧ p2.toInt ≤ p3.toInt ∧ p3.toInt ≤ p1.toInt) :
    MetFree l mn_27 (head1 (Jvm.Cond.code mn_27 jdk_65_method_30_code 3 none :: ws) ({ frames := 0, cells := 0, slots := 0, locals := 0 } : Room)) (fun a U => a = #[(.int p1), (.int p2), (.int p3)] ∧ Z.Warmed39 U.vm ∧ U.heap = h0) (fun _ _ _ _ _ => True) (fun _ U o U' => ∃ v L, o = .returned v ∧ Q27 Z p1 p2 p3 h0 n0 v U'.heap L ∧ FrameEnd U o U' L ({ frames := 0, cells := 0, slots := 0, locals := 0 } : Room).cells ({ frames := 0, cells := 0, slots := 0, locals := 0 } : Room).slots) := by
  refine MetFree.of_bodySF (plainFor_of_name pn_27) hisR ?_
  intro p e s m args below meth c s₁ Bd hml0 hP hK
  obtain ⟨rfl, hZ, hh⟩ := hP
  have hx := Bd.exec
  have hby := Bd.bytes
  have H := And.intro hx hby
  have hml : c.maxLocals = 3 := hml0
  have hown : s.vm.findClass "java/util/Arrays" = some m.cls := findClass_of_methodNamed Bd.named
  have hnm := (name_of_methodNamed Bd.named Bd.method).1
  have X0 : Stand p l e ({ frames := 0, cells := 0, slots := 0, locals := 0 } : Room) s m #[(.int p1), (.int p2), (.int p3)] below meth c s₁ [] 0 0 := Stand.of_body Bd
  have e0 : s₁.heap = h0 := by rw [← hh, Bd.state]; rfl
  have N0 := Fr.nil n0
  suffices hG : OwnG p e below s (Q27 Z p1 p2 p3 h0 n0) ({ frames := 0, cells := 0, slots := 0, locals := 0 } : Room).cells ({ frames := 0, cells := 0, slots := 0, locals := 0 } : Room).slots s₁ (mkF m 0 #[.val (.int p1), .val (.int p2), .val (.int p3)] []) by
    obtain ⟨s2, o2, g1, g2⟩ := hG
    exact ⟨s2, o2, castTop (ef_27 m p1 p2 p3) g1, g2⟩
  have hc2_51 : ¬ (p3 < p2) := by rw [Int32.lt_iff_toInt_lt]; omega
  have hc47_52 : ¬ (p2 < (0 : Int32)) := by rw [Int32.lt_iff_toInt_lt]; show ¬ _ < (0 : Int); omega
  have hc61_53 : ¬ (p1 < p3) := by rw [Int32.lt_iff_toInt_lt]; omega
  refine OwnG.st (y_iloadN X0 H d27_0 rfl) ?_
  refine OwnG.st (y_iloadN X0 H d27_1 rfl) ?_
  refine OwnG.st (y_icY X0 H 46 d27_2 (flt hc2_51).2.2.2 (by decide) (by decide)) ?_
  refine OwnG.st (y_iloadN X0 H d27_46 rfl) ?_
  refine OwnG.st (y_ifY X0 H 59 d27_47 ((if0 _ _).trans (flt hc47_52).2.1) (by decide) (by decide)) ?_
  refine OwnG.st (y_iloadN X0 H d27_59 rfl) ?_
  refine OwnG.st (y_iloadN X0 H d27_60 rfl) ?_
  refine OwnG.st (y_icY X0 H 73 d27_61 (flt hc61_53).2.2.2 (by decide) (by decide)) ?_
  exact OwnG.retV X0 hx Bd.returns (BodyLoose.notSynchronized Bd) (hb hby d27_73) (by rw [e0]; exact ⟨rfl, N0, rfl⟩) (by decide) (by decide)
theorem d28_0 : decode k28_ 0 = .ok (.iconst 0, 1) := by decide +kernel
theorem d28_1 : decode k28_ 1 = .ok (.istore 5, 2) := by decide +kernel
theorem d28_3 : decode k28_ 3 = .ok (.iload 4, 2) := by decide +kernel
theorem d28_5 : decode k28_ 5 = .ok (.bipush 7, 2) := by decide +kernel
theorem d28_7 : decode k28_ 7 = .ok (.if_icmp .le 63, 3) := by decide +kernel
theorem d28_70 : decode k28_ 70 = .ok (.iload 5, 2) := by decide +kernel
theorem d28_72 : decode k28_ 72 = .ok (.iload 4, 2) := by decide +kernel
theorem d28_74 : decode k28_ 74 = .ok (.if_icmp .ge 27, 3) := by decide +kernel
theorem d28_77 : decode k28_ 77 = .ok (.aload_n 0, 1) := by decide +kernel
theorem d28_78 : decode k28_ 78 = .ok (.iload_n 1, 1) := by decide +kernel
theorem d28_79 : decode k28_ 79 = .ok (.iload 5, 2) := by decide +kernel
theorem d28_81 : decode k28_ 81 = .ok (.iadd, 1) := by decide +kernel
theorem d28_82 : decode k28_ 82 = .ok (.baload, 1) := by decide +kernel
theorem d28_83 : decode k28_ 83 = .ok (.aload_n 2, 1) := by decide +kernel
theorem d28_84 : decode k28_ 84 = .ok (.iload_n 3, 1) := by decide +kernel
theorem d28_85 : decode k28_ 85 = .ok (.iload 5, 2) := by decide +kernel
theorem d28_87 : decode k28_ 87 = .ok (.iadd, 1) := by decide +kernel
theorem d28_88 : decode k28_ 88 = .ok (.baload, 1) := by decide +kernel
theorem d28_89 : decode k28_ 89 = .ok (.if_icmp .eq 6, 3) := by decide +kernel
theorem d28_92 : decode k28_ 92 = .ok (.iload 5, 2) := by decide +kernel
theorem d28_94 : decode k28_ 94 = .ok (.ireturn, 1) := by decide +kernel
theorem d28_95 : decode k28_ 95 = .ok (.iinc 5 1, 3) := by decide +kernel
theorem d28_98 : decode k28_ 98 = .ok (.goto (-28), 3) := by decide +kernel
theorem d28_101 : decode k28_ 101 = .ok (.iconst (-1), 1) := by decide +kernel
theorem d28_102 : decode k28_ 102 = .ok (.ireturn, 1) := by decide +kernel
theorem pn_28 : plainName "jdk/internal/util/ArraysSupport" = true := by first | (simp [plainName, overriddenIn]; done) | decide +kernel
theorem ef_28 (m : MethodId) (a1 : Addr) (p2 : Int32) (a3 : Addr) (p4 : Int32) (p5 : Int32) : entryFrame m #[(.ref a1), (.int p2), (.ref a3), (.int p4), (.int p5)] 8 = mkF m 0 #[.val (.ref a1), .val (.int p2), .val (.ref a3), .val (.int p4), .val (.int p5), .unset, .unset, .unset] [] := by first | (simp [entryFrame, mkF, argsToLocals, Value.category]; done) | rfl
def Q28 (Z : State) (a1 : Addr) (p2 : Int32) (a3 : Addr) (p4 : Int32) (p5 : Int32) (n1 n3 : Nat) (g1 g3 : Nat → Int32) (h0 : Heap) (n0 : Nat) (v : Option Value) (h : Heap) (L : List Loc) : Prop := ∃ w : Int32, v = some (.int w) ∧ Fr n0 L ∧ h = h0 ∧ (w.toInt < 0 → ∀ k : Nat, (k : Int) < p5.toInt → g1 (p2.toInt.toNat + k) = g3 (p4.toInt.toNat + k))
set_option maxRecDepth 65536 in
set_option maxHeartbeats 40000000 in
theorem rm28 (l : Launch) (Z : State) (a0 : Array Value) (hw : HW a0 Z) (ws : List Jvm.Cond) (a1 : Addr) (p2 : Int32) (a3 : Addr) (p4 : Int32) (p5 : Int32) (n1 n3 : Nat) (g1 g3 : Nat → Int32) (h0 : Heap) (n0 : Nat) (Z0 : n0 ≤ h0.size) (A_1 : OwnA Z h0 a1 .byte n1 (iv' g1)) (A_3 : OwnA Z h0 a3 .byte n3 (iv' g3)) (hn : n1 ≤ 100 ∧ n3 ≤ 100) (h5 : 0 ≤ p5.toInt ∧ p5.toInt ≤ 7) (hs : 0 ≤ p2.toInt ∧ p2.toInt + p5.toInt ≤ n1) (ht : 0 ≤ p4.toInt ∧ p4.toInt + p5.toInt ≤ n3) :
    MetFree l mn_28 (head1 (Jvm.Cond.code mn_28 jdk_48_method_14_code 8 (some .int) :: ws) ({ frames := 0, cells := 0, slots := 0, locals := 0 } : Room)) (fun a U => a = #[(.ref a1), (.int p2), (.ref a3), (.int p4), (.int p5)] ∧ Z.Warmed39 U.vm ∧ U.heap = h0) (fun _ _ _ _ _ => True) (fun _ U o U' => ∃ v L, o = .returned v ∧ Q28 Z a1 p2 a3 p4 p5 n1 n3 g1 g3 h0 n0 v U'.heap L ∧ FrameEnd U o U' L ({ frames := 0, cells := 0, slots := 0, locals := 0 } : Room).cells ({ frames := 0, cells := 0, slots := 0, locals := 0 } : Room).slots) := by
  refine MetFree.of_bodySF (plainFor_of_name pn_28) hisR ?_
  intro p e s m args below meth c s₁ Bd hml0 hP hK
  obtain ⟨rfl, hZ, hh⟩ := hP
  have hx := Bd.exec
  have hby := Bd.bytes
  have H := And.intro hx hby
  have hml : c.maxLocals = 8 := hml0
  have hown : s.vm.findClass "jdk/internal/util/ArraysSupport" = some m.cls := findClass_of_methodNamed Bd.named
  have hnm := (name_of_methodNamed Bd.named Bd.method).1
  have X0 : Stand p l e ({ frames := 0, cells := 0, slots := 0, locals := 0 } : Room) s m #[(.ref a1), (.int p2), (.ref a3), (.int p4), (.int p5)] below meth c s₁ [] 0 0 := Stand.of_body Bd
  have e0 : s₁.heap = h0 := by rw [← hh, Bd.state]; rfl
  have N0 := Fr.nil n0
  suffices hG : OwnG p e below s (Q28 Z a1 p2 a3 p4 p5 n1 n3 g1 g3 h0 n0) ({ frames := 0, cells := 0, slots := 0, locals := 0 } : Room).cells ({ frames := 0, cells := 0, slots := 0, locals := 0 } : Room).slots s₁ (mkF m 0 #[.val (.ref a1), .val (.int p2), .val (.ref a3), .val (.int p4), .val (.int p5), .unset, .unset, .unset] []) by
    obtain ⟨s2, o2, g1, g2⟩ := hG
    exact ⟨s2, o2, castTop (ef_28 m a1 p2 a3 p4 p5) g1, g2⟩
  have hc7_51 : ¬ ((7 : Int32) < p5) := by rw [Int32.lt_iff_toInt_lt]; show ¬ (7 : Int) < _; omega
  refine OwnG.st (y_iconst X0 H (0) d28_0 rfl) ?_
  refine OwnG.st (y_istore X0 H #[.val (.ref a1), .val (.int p2), .val (.ref a3), .val (.int p4), .val (.int p5), .val (.int (0 : Int32)), .unset, .unset] d28_1 rfl) ?_
  refine OwnG.st (y_iload X0 H d28_3 rfl) ?_
  refine OwnG.st (y_bipush X0 H (7) d28_5 rfl) ?_
  refine OwnG.st (y_icY X0 H 70 d28_7 (flt hc7_51).2.2.2 (by decide) (by decide)) ?_
  have lp52 : ∀ (k : Nat) (T : State) (lc : List Loc) (i5 : Int32) (X : Stand p l e ({ frames := 0, cells := 0, slots := 0, locals := 0 } : Room) s m #[(.ref a1), (.int p2), (.ref a3), (.int p4), (.int p5)] below meth c T lc 0 0) (eT : T.heap = h0) (N : Fr n0 lc) (hi0 : 0 ≤ i5.toInt) (hI : ∀ k : Nat, (k : Int) < i5.toInt → g1 (p2.toInt.toNat + k) = g3 (p4.toInt.toNat + k)), (p5.toInt - i5.toInt).toNat = k → OwnG p e below s (Q28 Z a1 p2 a3 p4 p5 n1 n3 g1 g3 h0 n0) ({ frames := 0, cells := 0, slots := 0, locals := 0 } : Room).cells ({ frames := 0, cells := 0, slots := 0, locals := 0 } : Room).slots T (mkF m 70 #[.val (.ref a1), .val (.int p2), .val (.ref a3), .val (.int p4), .val (.int p5), .val (.int i5), .unset, .unset] []) := by
    intro k
    induction k using Nat.strongRecOn with
    | _ k ih =>
      intro T lc i5 X eT N hi0 hI hk
      refine OwnG.st (y_iload X H d28_70 rfl) ?_
      refine OwnG.st (y_iload X H d28_72 rfl) ?_
      by_cases hc74_53 : i5 < p5
      · refine OwnG.st (y_icN X H d28_74 (tlt hc74_53).2.1) ?_
        refine OwnG.st (y_aloadN X H d28_77 rfl) ?_
        refine OwnG.st (y_iloadN X H d28_78 rfl) ?_
        refine OwnG.st (y_iload X H d28_79 rfl) ?_
        refine OwnG.st (y_iadd X H d28_81) ?_
        refine OwnG.st (y_ldB A_1 X H hZ eT (by have := Int32.lt_iff_toInt_lt.mp hc74_53; rw [x_iadd p2 i5 (by omega)]; omega) (by have := Int32.lt_iff_toInt_lt.mp hc74_53; rw [x_iadd p2 i5 (by omega)]; omega) d28_82 (g1 (p2 + i5).toInt.toNat) rfl) ?_
        refine OwnG.st (y_aloadN X H d28_83 rfl) ?_
        refine OwnG.st (y_iloadN X H d28_84 rfl) ?_
        refine OwnG.st (y_iload X H d28_85 rfl) ?_
        refine OwnG.st (y_iadd X H d28_87) ?_
        refine OwnG.st (y_ldB A_3 X H hZ eT (by have := Int32.lt_iff_toInt_lt.mp hc74_53; rw [x_iadd p4 i5 (by omega)]; omega) (by have := Int32.lt_iff_toInt_lt.mp hc74_53; rw [x_iadd p4 i5 (by omega)]; omega) d28_88 (g3 (p4 + i5).toInt.toNat) rfl) ?_
        by_cases hc89_54 : (g1 (p2 + i5).toInt.toNat) = (g3 (p4 + i5).toInt.toNat)
        · refine OwnG.st (y_icY X H 95 d28_89 (teq hc89_54).1 (by decide) (by decide)) ?_
          refine OwnG.st (y_iinc X H #[.val (.ref a1), .val (.int p2), .val (.ref a3), .val (.int p4), .val (.int p5), .val (.int (i5 + (1 : Int32))), .unset, .unset] d28_95 rfl rfl) ?_
          refine OwnG.st (y_goto X H 70 d28_98 (by decide) (by decide)) ?_
          have hlt0 := Int32.lt_iff_toInt_lt.mp hc74_53
          have e1 : (1 : Int32).toInt = 1 := rfl
          have hi1 := x_iadd i5 1 (by omega)
          have ha := x_iadd p2 i5 (by omega)
          have hb := x_iadd p4 i5 (by omega)
          have hstep : ∀ k : Nat, (k : Int) < (i5 + 1).toInt → g1 (p2.toInt.toNat + k) = g3 (p4.toInt.toNat + k) := by
            intro k hk'
            by_cases q : (k : Int) < i5.toInt
            · exact hI k q
            · have q2 := hc89_54
              rw [show p2.toInt.toNat + k = (p2 + i5).toInt.toNat by omega, show p4.toInt.toNat + k = (p4 + i5).toInt.toNat by omega]; exact q2
          exact ih _ (by rw [← hk]; omega) T _ _ X eT N (by omega) hstep rfl
        · refine OwnG.st (y_icN X H d28_89 (feq hc89_54).1) ?_
          refine OwnG.st (y_iload X H d28_92 rfl) ?_
          have hq : i5.toInt < 0 → ∀ k : Nat, (k : Int) < p5.toInt → g1 (p2.toInt.toNat + k) = g3 (p4.toInt.toNat + k) := fun q => absurd q (by omega)
          exact OwnG.retI X hx Bd.returns (BodyLoose.notSynchronized Bd) (hb hby d28_94) ⟨_, rfl, N, eT, hq⟩ (by decide) (by decide)
      · refine OwnG.st (y_icY X H 101 d28_74 (flt hc74_53).2.1 (by decide) (by decide)) ?_
        refine OwnG.st (y_iconst X H (-1) d28_101 rfl) ?_
        have hq : (-1 : Int32).toInt < 0 → ∀ k : Nat, (k : Int) < p5.toInt → g1 (p2.toInt.toNat + k) = g3 (p4.toInt.toNat + k) := fun _ k hk' => hI k (by have := mt Int32.lt_iff_toInt_lt.mpr hc74_53; omega)
        exact OwnG.retI X hx Bd.returns (BodyLoose.notSynchronized Bd) (hb hby d28_102) ⟨_, rfl, N, eT, hq⟩ (by decide) (by decide)
  exact lp52 _ s₁ _  _ X0 e0 N0 (by decide) (fun k hk => absurd hk (by show ¬ (k : Int) < 0; omega))  rfl
theorem d26_0 : decode k26_ 0 = .ok (.aload_n 0, 1) := by decide +kernel
theorem d26_1 : decode k26_ 1 = .ok (.arraylength, 1) := by decide +kernel
theorem d26_2 : decode k26_ 2 = .ok (.iload_n 1, 1) := by decide +kernel
theorem d26_3 : decode k26_ 3 = .ok (.iload_n 2, 1) := by decide +kernel
theorem d26_4 : decode k26_ 4 = .ok (.invokestatic 13, 3) := by decide +kernel
theorem d26_7 : decode k26_ 7 = .ok (.aload_n 3, 1) := by decide +kernel
theorem d26_8 : decode k26_ 8 = .ok (.arraylength, 1) := by decide +kernel
theorem d26_9 : decode k26_ 9 = .ok (.iload 4, 2) := by decide +kernel
theorem d26_11 : decode k26_ 11 = .ok (.iload 5, 2) := by decide +kernel
theorem d26_13 : decode k26_ 13 = .ok (.invokestatic 13, 3) := by decide +kernel
theorem d26_16 : decode k26_ 16 = .ok (.iload_n 2, 1) := by decide +kernel
theorem d26_17 : decode k26_ 17 = .ok (.iload_n 1, 1) := by decide +kernel
theorem d26_18 : decode k26_ 18 = .ok (.isub, 1) := by decide +kernel
theorem d26_19 : decode k26_ 19 = .ok (.istore 6, 2) := by decide +kernel
theorem d26_21 : decode k26_ 21 = .ok (.iload 5, 2) := by decide +kernel
theorem d26_23 : decode k26_ 23 = .ok (.iload 4, 2) := by decide +kernel
theorem d26_25 : decode k26_ 25 = .ok (.isub, 1) := by decide +kernel
theorem d26_26 : decode k26_ 26 = .ok (.istore 7, 2) := by decide +kernel
theorem d26_28 : decode k26_ 28 = .ok (.iload 6, 2) := by decide +kernel
theorem d26_30 : decode k26_ 30 = .ok (.iload 7, 2) := by decide +kernel
theorem d26_32 : decode k26_ 32 = .ok (.if_icmp .eq 5, 3) := by decide +kernel
theorem d26_35 : decode k26_ 35 = .ok (.iconst 0, 1) := by decide +kernel
theorem d26_36 : decode k26_ 36 = .ok (.ireturn, 1) := by decide +kernel
theorem d26_37 : decode k26_ 37 = .ok (.aload_n 0, 1) := by decide +kernel
theorem d26_38 : decode k26_ 38 = .ok (.iload_n 1, 1) := by decide +kernel
theorem d26_39 : decode k26_ 39 = .ok (.aload_n 3, 1) := by decide +kernel
theorem d26_40 : decode k26_ 40 = .ok (.iload 4, 2) := by decide +kernel
theorem d26_42 : decode k26_ 42 = .ok (.iload 6, 2) := by decide +kernel
theorem d26_44 : decode k26_ 44 = .ok (.invokestatic 275, 3) := by decide +kernel
theorem d26_47 : decode k26_ 47 = .ok (.ifCond .ge 7, 3) := by decide +kernel
theorem d26_50 : decode k26_ 50 = .ok (.iconst 1, 1) := by decide +kernel
theorem d26_51 : decode k26_ 51 = .ok (.goto 4, 3) := by decide +kernel
theorem d26_54 : decode k26_ 54 = .ok (.iconst 0, 1) := by decide +kernel
theorem d26_55 : decode k26_ 55 = .ok (.ireturn, 1) := by decide +kernel
theorem pn_26 : plainName "java/util/Arrays" = true := by first | (simp [plainName, overriddenIn]; done) | decide +kernel
theorem pd_26_0 : parseMethodDescriptor "(III)V" = some ⟨[.int, .int, .int], none⟩ := by decide +kernel
theorem pd_26_1 : parseMethodDescriptor "([BI[BII)I" = some ⟨[(.array .byte), .int, (.array .byte), .int, .int], some .int⟩ := by decide +kernel
theorem ef_26 (m : MethodId) (a1 : Addr) (p2 : Int32) (p3 : Int32) (a4 : Addr) (p5 : Int32) (p6 : Int32) : entryFrame m #[(.ref a1), (.int p2), (.int p3), (.ref a4), (.int p5), (.int p6)] 8 = mkF m 0 #[.val (.ref a1), .val (.int p2), .val (.int p3), .val (.ref a4), .val (.int p5), .val (.int p6), .unset, .unset] [] := by first | (simp [entryFrame, mkF, argsToLocals, Value.category]; done) | rfl
def Q26 (Z : State) (a1 : Addr) (p2 : Int32) (p3 : Int32) (a4 : Addr) (p5 : Int32) (p6 : Int32) (n1 n3 : Nat) (g1 g3 : Nat → Int32) (h0 : Heap) (n0 : Nat) (v : Option Value) (h : Heap) (L : List Loc) : Prop := ∃ w : Int32, v = some (.int w) ∧ Fr n0 L ∧ h = h0 ∧ (w = 0 ∨ w = 1) ∧ (w = 1 → p3.toInt - p2.toInt = p6.toInt - p5.toInt ∧ ∀ k : Nat, (k : Int) < p6.toInt - p5.toInt → g1 (p2.toInt.toNat + k) = g3 (p5.toInt.toNat + k))
set_option maxRecDepth 65536 in
set_option maxHeartbeats 40000000 in
theorem rm26 (l : Launch) (Z : State) (a0 : Array Value) (hw : HW a0 Z) (ws : List Jvm.Cond) (a1 : Addr) (p2 : Int32) (p3 : Int32) (a4 : Addr) (p5 : Int32) (p6 : Int32) (n1 n3 : Nat) (g1 g3 : Nat → Int32) (h0 : Heap) (n0 : Nat) (Z0 : n0 ≤ h0.size) (A_1 : OwnA Z h0 a1 .byte n1 (iv' g1)) (A_3 : OwnA Z h0 a4 .byte n3 (iv' g3)) (hn : n1 ≤ 100 ∧ n3 ≤ 100) (h7 : p3.toInt - p2.toInt = p6.toInt - p5.toInt → p6.toInt - p5.toInt ≤ 7) (hs : 0 ≤ p2.toInt ∧ p2.toInt ≤ p3.toInt ∧ p3.toInt ≤ n1) (ht : 0 ≤ p5.toInt ∧ p5.toInt ≤ p6.toInt ∧ p6.toInt ≤ n3) :
    MetFree l mn_26 (head1 (Jvm.Cond.code mn_26 jdk_65_method_90_code 8 (some .boolean) :: ws) ({ frames := 1, cells := 0, slots := 0, locals := 19 } : Room)) (fun a U => a = #[(.ref a1), (.int p2), (.int p3), (.ref a4), (.int p5), (.int p6)] ∧ Z.Warmed39 U.vm ∧ U.heap = h0) (fun _ _ _ _ _ => True) (fun _ U o U' => ∃ v L, o = .returned v ∧ Q26 Z a1 p2 p3 a4 p5 p6 n1 n3 g1 g3 h0 n0 v U'.heap L ∧ FrameEnd U o U' L ({ frames := 1, cells := 0, slots := 0, locals := 19 } : Room).cells ({ frames := 1, cells := 0, slots := 0, locals := 19 } : Room).slots) := by
  refine MetFree.of_bodySF (plainFor_of_name pn_26) hisR ?_
  intro p e s m args below meth c s₁ Bd hml0 hP hK
  obtain ⟨rfl, hZ, hh⟩ := hP
  have hx := Bd.exec
  have hby := Bd.bytes
  have H := And.intro hx hby
  have hml : c.maxLocals = 8 := hml0
  have hown : s.vm.findClass "java/util/Arrays" = some m.cls := findClass_of_methodNamed Bd.named
  have hnm := (name_of_methodNamed Bd.named Bd.method).1
  have X0 : Stand p l e ({ frames := 1, cells := 0, slots := 0, locals := 19 } : Room) s m #[(.ref a1), (.int p2), (.int p3), (.ref a4), (.int p5), (.int p6)] below meth c s₁ [] 0 0 := Stand.of_body Bd
  have e0 : s₁.heap = h0 := by rw [← hh, Bd.state]; rfl
  have N0 := Fr.nil n0
  suffices hG : OwnG p e below s (Q26 Z a1 p2 p3 a4 p5 p6 n1 n3 g1 g3 h0 n0) ({ frames := 1, cells := 0, slots := 0, locals := 19 } : Room).cells ({ frames := 1, cells := 0, slots := 0, locals := 19 } : Room).slots s₁ (mkF m 0 #[.val (.ref a1), .val (.int p2), .val (.int p3), .val (.ref a4), .val (.int p5), .val (.int p6), .unset, .unset] []) by
    obtain ⟨s2, o2, g1, g2⟩ := hG
    exact ⟨s2, o2, castTop (ef_26 m a1 p2 p3 a4 p5 p6) g1, g2⟩
  have t1 := own_t32 n1 (by omega)
  have t3 := own_t32 n3 (by omega)
  have hd1 := x_isub p3 p2 (by omega)
  have hd2 := x_isub p6 p5 (by omega)
  refine OwnG.st (y_aloadN X0 H d26_0 rfl) ?_
  refine OwnG.st (y_len A_1 X0 H hZ e0 d26_1 (n1.toInt32) rfl) ?_
  refine OwnG.st (y_iloadN X0 H d26_2 rfl) ?_
  refine OwnG.st (y_iloadN X0 H d26_3 rfl) ?_
  refine OwnG.cl 7 0 0 X0 (Jvm.LawKit.callS X0 hx (y := mn_27) hown (mvT hZ (ww hw 183 rfl)) (mvT hZ (ww hw 184 rfl)) (mvT hZ (ww hw 121 rfl)) (mvT hZ (ww hw 185 rfl)) (by decide) (backOf (W := 0) (rm27 l Z a0 hw [] (n1.toInt32) p2 p3  h0 n0 Z0 (by omega)) hZ (ww hw 185 rfl) (ww hw 121 rfl) (by decide) (by decide)) (g := mkF m 4 _ _) rfl (by rw [hml]; rfl) (argsL := [(.int (n1.toInt32)), (.int p2), (.int p3)]) (rest := []) (lenOf pd_26_0 rfl) rfl (by show 2 * 0 + _ ≤ _; exact Nat.le_of_eq rfl) (hb hby d26_4) (fun _ _ => ⟨rfl, e0, (by decide : 0 + 0 ≤ _), (by decide : 0 + 0 ≤ _)⟩)) rfl rfl ?_
  intro T51 Lc51 vc51 X51 hQ51
  obtain ⟨hv51, N51q, e51⟩ := hQ51
  have N51 := Fr.app N0 N51q
  refine OwnG.cn hv51 ?_
  clear hv51
  refine OwnG.st (y_aloadN X51 H d26_7 rfl) ?_
  refine OwnG.st (y_len A_3 X51 H hZ e51 d26_8 (n3.toInt32) rfl) ?_
  refine OwnG.st (y_iload X51 H d26_9 rfl) ?_
  refine OwnG.st (y_iload X51 H d26_11 rfl) ?_
  refine OwnG.cl 16 0 0 X51 (Jvm.LawKit.callS X51 hx (y := mn_27) hown (mvT hZ (ww hw 183 rfl)) (mvT hZ (ww hw 184 rfl)) (mvT hZ (ww hw 121 rfl)) (mvT hZ (ww hw 185 rfl)) (by decide) (backOf (W := 0) (rm27 l Z a0 hw [] (n3.toInt32) p5 p6  h0 n0 Z0 (by omega)) hZ (ww hw 185 rfl) (ww hw 121 rfl) (by decide) (by decide)) (g := mkF m 13 _ _) rfl (by rw [hml]; rfl) (argsL := [(.int (n3.toInt32)), (.int p5), (.int p6)]) (rest := []) (lenOf pd_26_0 rfl) rfl (by show 2 * 0 + _ ≤ _; exact Nat.le_of_eq rfl) (hb hby d26_13) (fun _ _ => ⟨rfl, e51, (by decide : 0 + 0 ≤ _), (by decide : 0 + 0 ≤ _)⟩)) rfl rfl ?_
  intro T52 Lc52 vc52 X52 hQ52
  obtain ⟨hv52, N52q, e52⟩ := hQ52
  have N52 := Fr.app N51 N52q
  refine OwnG.cn hv52 ?_
  clear hv52
  refine OwnG.st (y_iloadN X52 H d26_16 rfl) ?_
  refine OwnG.st (y_iloadN X52 H d26_17 rfl) ?_
  refine OwnG.st (y_isub X52 H d26_18) ?_
  refine OwnG.st (y_istore X52 H #[.val (.ref a1), .val (.int p2), .val (.int p3), .val (.ref a4), .val (.int p5), .val (.int p6), .val (.int (p3 - p2)), .unset] d26_19 rfl) ?_
  refine OwnG.st (y_iload X52 H d26_21 rfl) ?_
  refine OwnG.st (y_iload X52 H d26_23 rfl) ?_
  refine OwnG.st (y_isub X52 H d26_25) ?_
  refine OwnG.st (y_istore X52 H #[.val (.ref a1), .val (.int p2), .val (.int p3), .val (.ref a4), .val (.int p5), .val (.int p6), .val (.int (p3 - p2)), .val (.int (p6 - p5))] d26_26 rfl) ?_
  refine OwnG.st (y_iload X52 H d26_28 rfl) ?_
  refine OwnG.st (y_iload X52 H d26_30 rfl) ?_
  by_cases hc32_53 : (p3 - p2) = (p6 - p5)
  · refine OwnG.st (y_icY X52 H 37 d26_32 (teq hc32_53).1 (by decide) (by decide)) ?_
    refine OwnG.st (y_aloadN X52 H d26_37 rfl) ?_
    refine OwnG.st (y_iloadN X52 H d26_38 rfl) ?_
    refine OwnG.st (y_aloadN X52 H d26_39 rfl) ?_
    refine OwnG.st (y_iload X52 H d26_40 rfl) ?_
    refine OwnG.st (y_iload X52 H d26_42 rfl) ?_
    refine OwnG.cl 47 0 0 X52 (Jvm.LawKit.callS X52 hx (y := mn_28) hown (mvT hZ (ww hw 186 rfl)) (mvT hZ (ww hw 187 rfl)) (mvT hZ (ww hw 188 rfl)) (mvT hZ (ww hw 189 rfl)) (by decide) (backOf (W := 0) (rm28 l Z a0 hw [] a1 p2 a4 p5 (p3 - p2) n1 n3 g1 g3 h0 n0 Z0 A_1 A_3 hn (by have q := congrArg Int32.toInt hc32_53; omega) (by omega) (by have q := congrArg Int32.toInt hc32_53; omega)) hZ (ww hw 189 rfl) (ww hw 188 rfl) (by decide) (by decide)) (g := mkF m 44 _ _) rfl (by rw [hml]; rfl) (argsL := [(.ref a1), (.int p2), (.ref a4), (.int p5), (.int (p3 - p2))]) (rest := []) (lenOf pd_26_1 rfl) rfl (by show 2 * 0 + _ ≤ _; exact Nat.le_of_eq rfl) (hb hby d26_44) (fun _ _ => ⟨rfl, e52, (by decide : 0 + 0 ≤ _), (by decide : 0 + 0 ≤ _)⟩)) rfl rfl ?_
    intro T54 Lc54 vc54 X54 hQ54
    obtain ⟨w54, hv54, N54q, e54, hq54⟩ := hQ54
    have N54 := Fr.app N52 N54q
    refine OwnG.cv hv54 ?_
    clear hv54
    by_cases hc47_55 : w54 < (0 : Int32)
    · refine OwnG.st (y_ifN X54 H d26_47 ((if0 _ _).trans (tlt hc47_55).2.1)) ?_
      refine OwnG.st (y_iconst X54 H (1) d26_50 rfl) ?_
      refine OwnG.st (y_goto X54 H 55 d26_51 (by decide) (by decide)) ?_
      have hq : (1 : Int32) = 1 → p3.toInt - p2.toInt = p6.toInt - p5.toInt ∧ ∀ k : Nat, (k : Int) < p6.toInt - p5.toInt → g1 (p2.toInt.toNat + k) = g3 (p5.toInt.toNat + k) := fun _ => ⟨by have q := congrArg Int32.toInt hc32_53; omega, fun k hk => hq54 (by have q := Int32.lt_iff_toInt_lt.mp hc47_55; exact q) k (by have q := congrArg Int32.toInt hc32_53; omega)⟩
      exact OwnG.retN X54 hx (t := .boolean) (by simp) Bd.returns (BodyLoose.notSynchronized Bd) (hb hby d26_55) ⟨(1 : Int32), rfl, N54, e54, Or.inr rfl, hq⟩ (by decide) (by decide)
    · refine OwnG.st (y_ifY X54 H 54 d26_47 ((if0 _ _).trans (flt hc47_55).2.1) (by decide) (by decide)) ?_
      refine OwnG.st (y_iconst X54 H (0) d26_54 rfl) ?_
      have hq : (0 : Int32) = 1 → p3.toInt - p2.toInt = p6.toInt - p5.toInt ∧ ∀ k : Nat, (k : Int) < p6.toInt - p5.toInt → g1 (p2.toInt.toNat + k) = g3 (p5.toInt.toNat + k) := fun q => absurd q (by decide)
      exact OwnG.retN X54 hx (t := .boolean) (by simp) Bd.returns (BodyLoose.notSynchronized Bd) (hb hby d26_55) ⟨(0 : Int32), rfl, N54, e54, Or.inl rfl, hq⟩ (by decide) (by decide)
  · refine OwnG.st (y_icN X52 H d26_32 (feq hc32_53).1) ?_
    refine OwnG.st (y_iconst X52 H (0) d26_35 rfl) ?_
    have hq : (0 : Int32) = 1 → p3.toInt - p2.toInt = p6.toInt - p5.toInt ∧ ∀ k : Nat, (k : Int) < p6.toInt - p5.toInt → g1 (p2.toInt.toNat + k) = g3 (p5.toInt.toNat + k) := fun q => absurd q (by decide)
    exact OwnG.retN X52 hx (t := .boolean) (by simp) Bd.returns (BodyLoose.notSynchronized Bd) (hb hby d26_36) ⟨(0 : Int32), rfl, N52, e52, Or.inl rfl, hq⟩ (by decide) (by decide)
def ND (a1 bud pool start hash table enc : Addr) : Prop := bud ≠ a1 ∧ pool ≠ a1 ∧ pool ≠ bud ∧ start ≠ a1 ∧ start ≠ bud ∧ start ≠ pool ∧ hash ≠ a1 ∧ hash ≠ bud ∧ hash ≠ pool ∧ hash ≠ start ∧ table ≠ a1 ∧ table ≠ bud ∧ table ≠ pool ∧ table ≠ start ∧ table ≠ hash ∧ enc ≠ a1 ∧ enc ≠ bud ∧ enc ≠ pool ∧ enc ≠ start ∧ enc ≠ hash ∧ enc ≠ table
def GE (kk : Nat) (a1 bud pool start hash table enc : Addr) : Prop := kk ≤ a1 ∧ kk ≤ bud ∧ kk ≤ pool ∧ kk ≤ start ∧ kk ≤ hash ∧ kk ≤ table ∧ kk ≤ enc
def SA0 (Z : State) (h : Heap) (kk : Nat) (a1 : Addr) (eL : Nat) (gE : Nat → Int32) : Prop := ∃ (pool : Addr) (psz : Int32) (start hash table enc : Addr) (elen : Int32) (next : Int64) (size : Int32) (bud : Addr) (used : Int64) (nE : Nat) (gP gS gH gT : Nat → Int32), MS Z h a1 pool psz start hash table enc elen next size bud ∧ BG Z h bud used ∧ OwnA Z h pool .byte 0 (iv' gP) ∧ OwnA Z h start .int 1 (iv' gS) ∧ OwnA Z h hash .int 0 (iv' gH) ∧ OwnA Z h table .int 0 (iv' gT) ∧ OwnA Z h enc .byte nE (iv' gE) ∧ Byt gE ∧ Byt gP ∧ ND a1 bud pool start hash table enc ∧ GE kk a1 bud pool start hash table enc ∧ elen.toInt = eL ∧ eL ≤ nE ∧ nE ≤ 28 ∧ psz = 0 ∧ size = 0 ∧ (gS 0).toInt = 0 ∧ 0 ≤ used.toInt ∧ used.toInt ≤ 1000
def SA1 (Z : State) (h : Heap) (kk : Nat) (a1 : Addr) (e0 : Nat) (gX : Nat → Int32) (eL : Nat) (gE : Nat → Int32) : Prop := ∃ (pool : Addr) (psz : Int32) (start hash table enc : Addr) (elen : Int32) (next : Int64) (size : Int32) (bud : Addr) (used : Int64) (nE nP nS nH j0 : Nat) (t1 : Int32) (gP gS gH : Nat → Int32), MS Z h a1 pool psz start hash table enc elen next size bud ∧ BG Z h bud used ∧ OwnA Z h pool .byte nP (iv' gP) ∧ OwnA Z h start .int nS (iv' gS) ∧ OwnA Z h hash .int nH (iv' gH) ∧ OwnA Z h table .int 16 (iv' (updv (fun _ => 0) j0 t1)) ∧ OwnA Z h enc .byte nE (iv' gE) ∧ Byt gE ∧ Byt gP ∧ ND a1 bud pool start hash table enc ∧ GE kk a1 bud pool start hash table enc ∧ elen.toInt = eL ∧ eL ≤ nE ∧ nE ≤ 28 ∧ psz.toInt = e0 ∧ e0 ≤ nP ∧ nP ≤ 30 ∧ size = 1 ∧ 2 ≤ nS ∧ nS ≤ 30 ∧ 1 ≤ nH ∧ nH ≤ 30 ∧ t1 = 1 ∧ j0 < 16 ∧ (gS 0).toInt = 0 ∧ (gS 1).toInt = e0 ∧ (∀ i, i < e0 → gP i = gX i) ∧ 0 ≤ used.toInt ∧ used.toInt ≤ 5000
def SD (Z : State) (h : Heap) (kx : Nat) (a1 : Addr) (m : Int32) (eL : Nat) (gE : Nat → Int32) : Prop := ∃ (pool : Addr) (psz : Int32) (start hash table enc : Addr) (elen : Int32) (next : Int64) (size : Int32) (bud : Addr) (nP nS sA : Nat) (gP gS : Nat → Int32), MS Z h a1 pool psz start hash table enc elen next size bud ∧ OwnA Z h pool .byte nP (iv' gP) ∧ OwnA Z h start .int nS (iv' gS) ∧ pool ≠ a1 ∧ start ≠ a1 ∧ a1 < kx ∧ pool < kx ∧ start < kx ∧ nP ≤ 100 ∧ nS ≤ 100 ∧ 0 ≤ m.toInt ∧ m.toInt + 1 < nS ∧ (gS m.toInt.toNat).toInt = sA ∧ (gS (m.toInt.toNat + 1)).toInt = sA + eL ∧ sA + eL ≤ nP ∧ ∀ i, i < eL → gP (sA + i) = gE i
def KeepB (h0 h : Heap) (kk : Nat) : Prop := h0.size ≤ h.size ∧ ∀ (x : Addr) (c : Cell), x < kk → h0[x]? = some c → h[x]? = some c
theorem own_kb {h0 h : Heap} {ws : List Addr} {kk : Nat} (K : Keep h0 h ws) (q : ∀ x ∈ ws, kk ≤ x) : KeepB h0 h kk := ⟨K.1, fun x c hx hc => K.2.1 x c hc fun w => absurd (q x w) (Nat.not_le.mpr hx)⟩
theorem own_trS {P : Addr → Prop} {a : Addr} {l : List Addr} (h : P a) (r : ∀ x ∈ l, P x) : ∀ x ∈ (a :: l), P x := List.forall_mem_cons.mpr ⟨h, r⟩
theorem own_tr0 {P : Addr → Prop} : ∀ x ∈ ([] : List Addr), P x := fun _ h => nomatch h
theorem own_idx (w : Int32) : 0 ≤ (w &&& ((16 : Int32) - (1 : Int32))).toInt ∧ (w &&& ((16 : Int32) - (1 : Int32))).toInt < 16 := by
  have h := c_mask w ((16 : Int32) - (1 : Int32)) 4 (by decide) (by decide)
  omega
theorem own_cpl0 (g g2 : Nat → Int32) (d n : Nat) : ∀ i, i < n → cpv g g2 0 d n (d + i) = g i := fun i hi => by
  show (if d ≤ d + i ∧ d + i < d + n then g (0 + (d + i - d)) else g2 (d + i)) = g i
  rw [if_pos (by omega), Nat.zero_add, show d + i - d = i by omega]
theorem own_cpl1 (g g2 : Nat → Int32) (d n : Nat) : ∀ i, i < d → cpv g g2 0 d n i = g2 i := fun i hi => by
  show (if d ≤ i ∧ i < d + n then _ else g2 i) = g2 i
  rw [if_neg (by omega)]
theorem own_cplb (g g2 : Nat → Int32) (d n : Nat) (h : Byt g) (h2 : Byt g2) : Byt (cpv g g2 0 d n) := fun i => by
  show -128 ≤ (if d ≤ i ∧ i < d + n then g (0 + (i - d)) else g2 i).toInt ∧ (if d ≤ i ∧ i < d + n then g (0 + (i - d)) else g2 i).toInt ≤ 127
  split
  · exact h _
  · exact h2 _
theorem own_u0 {α : Type} (g : Nat → α) (j i : Nat) (v : α) (h : i ≠ j) : updv g j v i = g i := if_neg h
theorem own_u1 {α : Type} (g : Nat → α) (j : Nat) (v : α) : updv g j v j = v := if_pos rfl
theorem d7_0 : decode k7_ 0 = .ok (.aload_n 0, 1) := by decide +kernel
theorem d7_1 : decode k7_ 1 = .ok (.invokevirtual 46, 3) := by decide +kernel
theorem d7_4 : decode k7_ 4 = .ok (.istore_n 1, 1) := by decide +kernel
theorem d7_5 : decode k7_ 5 = .ok (.ldc2_w 49, 3) := by decide +kernel
theorem d7_8 : decode k7_ 8 = .ok (.aload_n 0, 1) := by decide +kernel
theorem d7_9 : decode k7_ 9 = .ok (.getfield 30, 3) := by decide +kernel
theorem d7_12 : decode k7_ 12 = .ok (.iconst 1, 1) := by decide +kernel
theorem d7_13 : decode k7_ 13 = .ok (.iadd, 1) := by decide +kernel
theorem d7_14 : decode k7_ 14 = .ok (.i2l, 1) := by decide +kernel
theorem d7_15 : decode k7_ 15 = .ok (.lmul, 1) := by decide +kernel
theorem d7_16 : decode k7_ 16 = .ok (.aload_n 0, 1) := by decide +kernel
theorem d7_17 : decode k7_ 17 = .ok (.getfield 20, 3) := by decide +kernel
theorem d7_20 : decode k7_ 20 = .ok (.arraylength, 1) := by decide +kernel
theorem d7_21 : decode k7_ 21 = .ok (.i2l, 1) := by decide +kernel
theorem d7_22 : decode k7_ 22 = .ok (.lcmp, 1) := by decide +kernel
theorem d7_23 : decode k7_ 23 = .ok (.ifCond .le 7, 3) := by decide +kernel
theorem d7_26 : decode k7_ 26 = .ok (.aload_n 0, 1) := by decide +kernel
theorem d7_27 : decode k7_ 27 = .ok (.invokevirtual 51, 3) := by decide +kernel
theorem d7_30 : decode k7_ 30 = .ok (.aload_n 0, 1) := by decide +kernel
theorem d7_31 : decode k7_ 31 = .ok (.getfield 20, 3) := by decide +kernel
theorem d7_34 : decode k7_ 34 = .ok (.arraylength, 1) := by decide +kernel
theorem d7_35 : decode k7_ 35 = .ok (.iconst 1, 1) := by decide +kernel
theorem d7_36 : decode k7_ 36 = .ok (.isub, 1) := by decide +kernel
theorem d7_37 : decode k7_ 37 = .ok (.istore_n 2, 1) := by decide +kernel
theorem d7_38 : decode k7_ 38 = .ok (.iload_n 1, 1) := by decide +kernel
theorem d7_39 : decode k7_ 39 = .ok (.iload_n 2, 1) := by decide +kernel
theorem d7_40 : decode k7_ 40 = .ok (.iand, 1) := by decide +kernel
theorem d7_41 : decode k7_ 41 = .ok (.istore_n 3, 1) := by decide +kernel
theorem d7_42 : decode k7_ 42 = .ok (.aload_n 0, 1) := by decide +kernel
theorem d7_43 : decode k7_ 43 = .ok (.getfield 20, 3) := by decide +kernel
theorem d7_46 : decode k7_ 46 = .ok (.iload_n 3, 1) := by decide +kernel
theorem d7_47 : decode k7_ 47 = .ok (.iaload, 1) := by decide +kernel
theorem d7_48 : decode k7_ 48 = .ok (.ifCond .eq 71, 3) := by decide +kernel
theorem d7_119 : decode k7_ 119 = .ok (.aload_n 0, 1) := by decide +kernel
theorem d7_120 : decode k7_ 120 = .ok (.aload_n 0, 1) := by decide +kernel
theorem d7_121 : decode k7_ 121 = .ok (.getfield 26, 3) := by decide +kernel
theorem d7_124 : decode k7_ 124 = .ok (.aload_n 0, 1) := by decide +kernel
theorem d7_125 : decode k7_ 125 = .ok (.getfield 7, 3) := by decide +kernel
theorem d7_128 : decode k7_ 128 = .ok (.aload_n 0, 1) := by decide +kernel
theorem d7_129 : decode k7_ 129 = .ok (.getfield 63, 3) := by decide +kernel
theorem d7_132 : decode k7_ 132 = .ok (.i2l, 1) := by decide +kernel
theorem d7_133 : decode k7_ 133 = .ok (.aload_n 0, 1) := by decide +kernel
theorem d7_134 : decode k7_ 134 = .ok (.getfield 54, 3) := by decide +kernel
theorem d7_137 : decode k7_ 137 = .ok (.i2l, 1) := by decide +kernel
theorem d7_138 : decode k7_ 138 = .ok (.ladd, 1) := by decide +kernel
theorem d7_139 : decode k7_ 139 = .ok (.invokevirtual 66, 3) := by decide +kernel
theorem d7_142 : decode k7_ 142 = .ok (.putfield 7, 3) := by decide +kernel
theorem d7_145 : decode k7_ 145 = .ok (.aload_n 0, 1) := by decide +kernel
theorem d7_146 : decode k7_ 146 = .ok (.getfield 23, 3) := by decide +kernel
theorem d7_149 : decode k7_ 149 = .ok (.iconst 0, 1) := by decide +kernel
theorem d7_150 : decode k7_ 150 = .ok (.aload_n 0, 1) := by decide +kernel
theorem d7_151 : decode k7_ 151 = .ok (.getfield 7, 3) := by decide +kernel
theorem d7_154 : decode k7_ 154 = .ok (.aload_n 0, 1) := by decide +kernel
theorem d7_155 : decode k7_ 155 = .ok (.getfield 63, 3) := by decide +kernel
theorem d7_158 : decode k7_ 158 = .ok (.aload_n 0, 1) := by decide +kernel
theorem d7_159 : decode k7_ 159 = .ok (.getfield 54, 3) := by decide +kernel
theorem d7_162 : decode k7_ 162 = .ok (.invokestatic 72, 3) := by decide +kernel
theorem d7_165 : decode k7_ 165 = .ok (.aload_n 0, 1) := by decide +kernel
theorem d7_166 : decode k7_ 166 = .ok (.dup, 1) := by decide +kernel
theorem d7_167 : decode k7_ 167 = .ok (.getfield 63, 3) := by decide +kernel
theorem d7_170 : decode k7_ 170 = .ok (.aload_n 0, 1) := by decide +kernel
theorem d7_171 : decode k7_ 171 = .ok (.getfield 54, 3) := by decide +kernel
theorem d7_174 : decode k7_ 174 = .ok (.iadd, 1) := by decide +kernel
theorem d7_175 : decode k7_ 175 = .ok (.putfield 63, 3) := by decide +kernel
theorem d7_178 : decode k7_ 178 = .ok (.aload_n 0, 1) := by decide +kernel
theorem d7_179 : decode k7_ 179 = .ok (.aload_n 0, 1) := by decide +kernel
theorem d7_180 : decode k7_ 180 = .ok (.getfield 26, 3) := by decide +kernel
theorem d7_183 : decode k7_ 183 = .ok (.aload_n 0, 1) := by decide +kernel
theorem d7_184 : decode k7_ 184 = .ok (.getfield 13, 3) := by decide +kernel
theorem d7_187 : decode k7_ 187 = .ok (.aload_n 0, 1) := by decide +kernel
theorem d7_188 : decode k7_ 188 = .ok (.getfield 30, 3) := by decide +kernel
theorem d7_191 : decode k7_ 191 = .ok (.i2l, 1) := by decide +kernel
theorem d7_192 : decode k7_ 192 = .ok (.ldc2_w 49, 3) := by decide +kernel
theorem d7_195 : decode k7_ 195 = .ok (.ladd, 1) := by decide +kernel
theorem d7_196 : decode k7_ 196 = .ok (.invokevirtual 78, 3) := by decide +kernel
theorem d7_199 : decode k7_ 199 = .ok (.putfield 13, 3) := by decide +kernel
theorem d7_202 : decode k7_ 202 = .ok (.aload_n 0, 1) := by decide +kernel
theorem d7_203 : decode k7_ 203 = .ok (.getfield 13, 3) := by decide +kernel
theorem d7_206 : decode k7_ 206 = .ok (.aload_n 0, 1) := by decide +kernel
theorem d7_207 : decode k7_ 207 = .ok (.getfield 30, 3) := by decide +kernel
theorem d7_210 : decode k7_ 210 = .ok (.iconst 1, 1) := by decide +kernel
theorem d7_211 : decode k7_ 211 = .ok (.iadd, 1) := by decide +kernel
theorem d7_212 : decode k7_ 212 = .ok (.aload_n 0, 1) := by decide +kernel
theorem d7_213 : decode k7_ 213 = .ok (.getfield 63, 3) := by decide +kernel
theorem d7_216 : decode k7_ 216 = .ok (.iastore, 1) := by decide +kernel
theorem d7_217 : decode k7_ 217 = .ok (.aload_n 0, 1) := by decide +kernel
theorem d7_218 : decode k7_ 218 = .ok (.aload_n 0, 1) := by decide +kernel
theorem d7_219 : decode k7_ 219 = .ok (.getfield 26, 3) := by decide +kernel
theorem d7_222 : decode k7_ 222 = .ok (.aload_n 0, 1) := by decide +kernel
theorem d7_223 : decode k7_ 223 = .ok (.getfield 17, 3) := by decide +kernel
theorem d7_226 : decode k7_ 226 = .ok (.aload_n 0, 1) := by decide +kernel
theorem d7_227 : decode k7_ 227 = .ok (.getfield 30, 3) := by decide +kernel
theorem d7_230 : decode k7_ 230 = .ok (.i2l, 1) := by decide +kernel
theorem d7_231 : decode k7_ 231 = .ok (.lconst 1, 1) := by decide +kernel
theorem d7_232 : decode k7_ 232 = .ok (.ladd, 1) := by decide +kernel
theorem d7_233 : decode k7_ 233 = .ok (.invokevirtual 78, 3) := by decide +kernel
theorem d7_236 : decode k7_ 236 = .ok (.putfield 17, 3) := by decide +kernel
theorem d7_239 : decode k7_ 239 = .ok (.aload_n 0, 1) := by decide +kernel
theorem d7_240 : decode k7_ 240 = .ok (.getfield 17, 3) := by decide +kernel
theorem d7_243 : decode k7_ 243 = .ok (.aload_n 0, 1) := by decide +kernel
theorem d7_244 : decode k7_ 244 = .ok (.getfield 30, 3) := by decide +kernel
theorem d7_247 : decode k7_ 247 = .ok (.iload_n 1, 1) := by decide +kernel
theorem d7_248 : decode k7_ 248 = .ok (.iastore, 1) := by decide +kernel
theorem d7_249 : decode k7_ 249 = .ok (.aload_n 0, 1) := by decide +kernel
theorem d7_250 : decode k7_ 250 = .ok (.getfield 20, 3) := by decide +kernel
theorem d7_253 : decode k7_ 253 = .ok (.iload_n 3, 1) := by decide +kernel
theorem d7_254 : decode k7_ 254 = .ok (.aload_n 0, 1) := by decide +kernel
theorem d7_255 : decode k7_ 255 = .ok (.getfield 30, 3) := by decide +kernel
theorem d7_258 : decode k7_ 258 = .ok (.iconst 1, 1) := by decide +kernel
theorem d7_259 : decode k7_ 259 = .ok (.iadd, 1) := by decide +kernel
theorem d7_260 : decode k7_ 260 = .ok (.iastore, 1) := by decide +kernel
theorem d7_261 : decode k7_ 261 = .ok (.aload_n 0, 1) := by decide +kernel
theorem d7_262 : decode k7_ 262 = .ok (.dup, 1) := by decide +kernel
theorem d7_263 : decode k7_ 263 = .ok (.getfield 30, 3) := by decide +kernel
theorem d7_266 : decode k7_ 266 = .ok (.dup_x1, 1) := by decide +kernel
theorem d7_267 : decode k7_ 267 = .ok (.iconst 1, 1) := by decide +kernel
theorem d7_268 : decode k7_ 268 = .ok (.iadd, 1) := by decide +kernel
theorem d7_269 : decode k7_ 269 = .ok (.putfield 30, 3) := by decide +kernel
theorem d7_272 : decode k7_ 272 = .ok (.ireturn, 1) := by decide +kernel
theorem pn_7 : plainName "com/example/deft_nets/deftnets/MarkingStore" = true := by first | (simp [plainName, overriddenIn]; done) | decide +kernel
theorem pd_7A_0 : parseMethodDescriptor "()I" = some ⟨[], some .int⟩ := by decide +kernel
theorem pd_7A_1 : parseMethodDescriptor "()V" = some ⟨[], none⟩ := by decide +kernel
theorem pd_7A_2 : parseMethodDescriptor "([BJ)[B" = some ⟨[(.array .byte), .long], some (.array .byte)⟩ := by decide +kernel
theorem pd_7A_3 : parseMethodDescriptor "([IJ)[I" = some ⟨[(.array .int), .long], some (.array .int)⟩ := by decide +kernel
theorem ef_7 (m : MethodId) (a1 : Addr) : entryFrame m #[(.ref a1)] 5 = mkF m 0 #[.val (.ref a1), .unset, .unset, .unset, .unset] [] := by first | (simp [entryFrame, mkF, argsToLocals, Value.category]; done) | rfl
def Q7A (Z : State) (a1 : Addr) (kk eL : Nat) (gE : Nat → Int32) (h0 : Heap) (n0 : Nat) (v : Option Value) (h : Heap) (L : List Loc) : Prop := v = some (.int 0) ∧ Fr n0 L ∧ KeepB h0 h kk ∧ SA1 Z h kk a1 eL gE eL gE
set_option maxRecDepth 65536 in
set_option maxHeartbeats 40000000 in
theorem rm7A (l : Launch) (Z : State) (a0 : Array Value) (hw : HW a0 Z) (ws : List Jvm.Cond) (a1 : Addr) (kk eL : Nat) (gE : Nat → Int32) (h0 : Heap) (n0 : Nat) (Z0 : n0 ≤ h0.size) (hkk : n0 ≤ kk) (hS : SA0 Z h0 kk a1 eL gE) :
    MetFree l mn_7 (head1 (Jvm.Cond.code mn_7 prog_31_method_5_code 5 (some .int) :: ws) ({ frames := 3, cells := 4, slots := 316, locals := 60 } : Room)) (fun a U => a = #[(.ref a1)] ∧ Z.Warmed39 U.vm ∧ U.heap = h0) (fun _ _ _ _ _ => True) (fun _ U o U' => ∃ v L, o = .returned v ∧ Q7A Z a1 kk eL gE h0 n0 v U'.heap L ∧ FrameEnd U o U' L ({ frames := 3, cells := 4, slots := 316, locals := 60 } : Room).cells ({ frames := 3, cells := 4, slots := 316, locals := 60 } : Room).slots) := by
  refine MetFree.of_bodySF (plainFor_of_name pn_7) hisR ?_
  intro p e s m args below meth c s₁ Bd hml0 hP hK
  obtain ⟨rfl, hZ, hh⟩ := hP
  have hx := Bd.exec
  have hby := Bd.bytes
  have H := And.intro hx hby
  have hml : c.maxLocals = 5 := hml0
  have hown : s.vm.findClass "com/example/deft_nets/deftnets/MarkingStore" = some m.cls := findClass_of_methodNamed Bd.named
  have hnm := (name_of_methodNamed Bd.named Bd.method).1
  have X0 : Stand p l e ({ frames := 3, cells := 4, slots := 316, locals := 60 } : Room) s m #[(.ref a1)] below meth c s₁ [] 0 0 := Stand.of_body Bd
  have e0 : s₁.heap = h0 := by rw [← hh, Bd.state]; rfl
  have N0 := Fr.nil n0
  suffices hG : OwnG p e below s (Q7A Z a1 kk eL gE h0 n0) ({ frames := 3, cells := 4, slots := 316, locals := 60 } : Room).cells ({ frames := 3, cells := 4, slots := 316, locals := 60 } : Room).slots s₁ (mkF m 0 #[.val (.ref a1), .unset, .unset, .unset, .unset] []) by
    obtain ⟨s2, o2, g1, g2⟩ := hG
    exact ⟨s2, o2, castTop (ef_7 m a1) g1, g2⟩
  obtain ⟨pool, psz, start, hash, table, enc, elen, next, size, bud, used, nE, gP, gS, gH, gT, hM, hB, A_p, A_s, A_h, A_t, A_e, hBy, hBP, hD, hG, heL, hle, hn, hps, hsz, hs0, hu0, hu1⟩ := hS
  have ge_a1 : LeA (kk) (a1) := hG.1
  have ge_bud : LeA (kk) (bud) := hG.2.1
  have ge_pool : LeA (kk) (pool) := hG.2.2.1
  have ge_start : LeA (kk) (start) := hG.2.2.2.1
  have ge_hash : LeA (kk) (hash) := hG.2.2.2.2.1
  have ge_table : LeA (kk) (table) := hG.2.2.2.2.2.1
  have ge_enc : LeA (kk) (enc) := hG.2.2.2.2.2.2
  have gb_a1 : LeA (n0) (a1) := Nat.le_trans hkk ge_a1
  have gb_bud : LeA (n0) (bud) := Nat.le_trans hkk ge_bud
  have gb_pool : LeA (n0) (pool) := Nat.le_trans hkk ge_pool
  have gb_start : LeA (n0) (start) := Nat.le_trans hkk ge_start
  have gb_hash : LeA (n0) (hash) := Nat.le_trans hkk ge_hash
  obtain ⟨EMS_51, FMS0_51, FMS1_51, FMS2_51, FMS3_51, FMS4_51, FMS5_51, FMS6_51, FMS7_51, FMS8_51, FMS9_51⟩ := hM
  obtain ⟨EBG_52, FBG0_52, FBG1_52⟩ := hB
  have hkz : kk ≤ h0.size := Nat.le_of_lt (Nat.lt_of_le_of_lt ge_a1 (Exa.lt EMS_51))
  have he : 0 ≤ elen.toInt ∧ elen.toInt ≤ nE := by omega
  have e1 : (1 : Int32).toInt = 1 := rfl
  have e2 : (2 : Int64).toInt = 2 := rfl
  have e1L : (1 : Int64).toInt = 1 := rfl
  have c_el := c_i2l elen
  have c_ps := c_i2l psz
  have c_sz := c_i2l size
  have z0 : (0 : Int32).toInt = 0 := rfl
  have hdl : elen.toInt.toNat = eL := by omega
  have hpz : psz.toInt = 0 := by rw [hps]; rfl
  have hszz : size.toInt = 0 := by rw [hsz]; rfl
  have hps' := x_iadd psz elen (by omega)
  have hd0 : psz.toInt.toNat = 0 := by omega
  refine OwnG.st (y_aloadN X0 H d7_0 rfl) ?_
  obtain ⟨cq53, qc53, qd53⟩ := EMS_51.cell
  refine OwnG.cm 4 0 0 X0 (X0.privateBack hx (y := mn_8) hown (mvT hZ (ww hw 67 rfl)) (mvT hZ (ww hw 68 rfl)) (mvT hZ (own_selP (y := mn_8) (y0 := mn_5) rfl (ww hw 52 rfl) (ww hw 68 rfl) (ww hw 69 rfl) (by decide))) (Cond.privateMethod_at (mvP hZ (ww hw 69 rfl) (args := #[]))) (mvT hZ (ww hw 70 rfl)) (by decide) (backOf (W := 0) (rm8 l Z a0 hw [] a1 enc elen nE gE h0 n0 Z0 FMS5_51 FMS6_51 A_e he hn) hZ (ww hw 70 rfl) (ww hw 10 rfl) (by decide) (by decide)) (g := mkF m 1 _ _) rfl (by rw [hml]; rfl) (Steps.refl _) (a := a1) (by rw [e0]; exact qc53) qd53 (argsL := []) (rest := []) (lenOf pd_7A_0 rfl) rfl (by show 2 * 0 + _ ≤ _; exact Nat.le_of_eq rfl) (hb hby d7_1) (fun _ _ => ⟨rfl, e0, (by decide : 0 + 0 ≤ _), (by decide : 0 + 0 ≤ _)⟩)) rfl rfl ?_
  intro T53 Lc53 vc53 X53 hQ53
  obtain ⟨w53, hv53, N53q, e53⟩ := hQ53
  have N53 := Fr.app N0 N53q
  refine OwnG.cv hv53 ?_
  clear hv53
  refine OwnG.st (y_istoreN X53 H #[.val (.ref a1), .val (.int w53), .unset, .unset, .unset] d7_4 rfl) ?_
  refine OwnG.st (y_ldc2 X53 H hown (mvT hZ (ww hw 74 rfl)) d7_5) ?_
  refine OwnG.st (y_aloadN X53 H d7_8 rfl) ?_
  refine OwnG.v1 12 (getF X53 hx hZ hown (host := "") (Or.inl (ww hw 75 rfl)) Via.refl e53 FMS8_51 (g := mkF m 9 _ _) rfl rfl (hb hby d7_9)) ?_
  intro T54 X54 e54
  refine OwnG.st (y_iconst X54 H (1) d7_12 rfl) ?_
  refine OwnG.st (y_iadd X54 H d7_13) ?_
  refine OwnG.st (y_i2l X54 H d7_14) ?_
  refine OwnG.st (y_lmul X54 H d7_15) ?_
  refine OwnG.st (y_aloadN X54 H d7_16 rfl) ?_
  refine OwnG.v1 20 (getF X54 hx hZ hown (host := "") (Or.inl (ww hw 43 rfl)) Via.refl e54 FMS4_51 (g := mkF m 17 _ _) rfl rfl (hb hby d7_17)) ?_
  intro T55 X55 e55
  have hc23_56 : ((0 : Int32).toInt64) < ((2 : Int64) * ((size + (1 : Int32)).toInt64)) := by rw [hsz]; decide
  refine OwnG.st (y_len A_t X55 H hZ e55 d7_20 (0 : Int32) rfl) ?_
  refine OwnG.st (y_i2l X55 H d7_21) ?_
  refine OwnG.st (y_lcmp X55 H d7_22) ?_
  refine OwnG.st (y_ifN X55 H d7_23 ((if0 _ _).trans (tlt ((lw_gt ((2 : Int64) * ((size + (1 : Int32)).toInt64)) ((0 : Int32).toInt64)).mpr hc23_56)).2.2.2)) ?_
  refine OwnG.st (y_aloadN X55 H d7_26 rfl) ?_
  obtain ⟨cq57, qc57, qd57⟩ := EMS_51.cell
  refine OwnG.cm 30 1 16 X55 (X55.privateBack hx (y := mn_9) hown (mvT hZ (ww hw 77 rfl)) (mvT hZ (ww hw 78 rfl)) (mvT hZ (own_selP (y := mn_9) (y0 := mn_5) rfl (ww hw 52 rfl) (ww hw 78 rfl) (ww hw 79 rfl) (by decide))) (Cond.privateMethod_at (mvP hZ (ww hw 79 rfl) (args := #[]))) (mvT hZ (ww hw 80 rfl)) (by decide) (backOf (W := 0) (rm9 l Z a0 hw [] a1 pool psz start hash table enc elen next bud used gT h0 n0 Z0 gb_a1 gb_bud (by have q : MS Z h0 a1 pool psz start hash table enc elen next size bud := ⟨EMS_51, FMS0_51, FMS1_51, FMS2_51, FMS3_51, FMS4_51, FMS5_51, FMS6_51, FMS7_51, FMS8_51, FMS9_51⟩; rw [hsz] at q; exact q) ⟨EBG_52, FBG0_52, FBG1_52⟩ A_t hD.1 hD.2.2.2.2.2.2.2.2.2.2.1 hD.2.2.2.2.2.2.2.2.2.2.2.1 (by omega)) hZ (ww hw 80 rfl) (ww hw 10 rfl) (by decide) (by decide)) (g := mkF m 27 _ _) rfl (by rw [hml]; rfl) (Steps.refl _) (a := a1) (by rw [e55]; exact qc57) qd57 (argsL := []) (rest := []) (lenOf pd_7A_1 rfl) rfl (by show 2 * 0 + _ ≤ _; exact Nat.le_of_eq rfl) (hb hby d7_27) (fun _ _ => ⟨rfl, e55, (by decide : 0 + 1 ≤ _), (by decide : 0 + 16 ≤ _)⟩)) rfl rfl ?_
  intro T57 Lc57 vc57 X57 hQ57
  obtain ⟨x57, u57, hv57, N57q, Kq57, M57q, B57q, sx57, Vq57, hu57a, hu57b⟩ := hQ57
  have ne57_58 : NeA a1 x57 := Nat.ne_of_lt (Nat.lt_of_lt_of_le (Exa.lt EMS_51) sx57)
  have ne57_59 : NeA bud x57 := Nat.ne_of_lt (Nat.lt_of_lt_of_le (Exa.lt EBG_52) sx57)
  have ne57_60 : NeA pool x57 := Nat.ne_of_lt (Nat.lt_of_lt_of_le A_p.lt sx57)
  have ne57_61 : NeA start x57 := Nat.ne_of_lt (Nat.lt_of_lt_of_le A_s.lt sx57)
  have ne57_62 : NeA hash x57 := Nat.ne_of_lt (Nat.lt_of_lt_of_le A_h.lt sx57)
  have ne57_64 : NeA enc x57 := Nat.ne_of_lt (Nat.lt_of_lt_of_le A_e.lt sx57)
  have sz_x57 : LeA (h0.size) (x57) := Nat.le_trans (Keep.refl h0 [a1, bud, pool, start, hash, table, enc]).1 sx57
  have ge_x57 : LeA (kk) (x57) := Nat.le_trans hkz (Nat.le_trans (Keep.refl h0 [a1, bud, pool, start, hash, table, enc]).1 sx57)
  have gb_x57 : LeA (n0) (x57) := Nat.le_trans Z0 sx57
  have Z57 : LeA (n0) (T57.heap.size) := Nat.le_trans Z0 Kq57.1
  have f67 := A_p.keep Kq57 (ninS hD.2.1 (ninS hD.2.2.1 nin0))
  have f68 := A_s.keep Kq57 (ninS hD.2.2.2.1 (ninS hD.2.2.2.2.1 nin0))
  have f69 := A_h.keep Kq57 (ninS hD.2.2.2.2.2.2.1 (ninS hD.2.2.2.2.2.2.2.1 nin0))
  have f71 := A_e.keep Kq57 (ninS hD.2.2.2.2.2.2.2.2.2.2.2.2.2.2.2.1 (ninS hD.2.2.2.2.2.2.2.2.2.2.2.2.2.2.2.2.1 nin0))
  have K57 : Keep h0 T57.heap [a1, bud, pool, start, hash, table, enc] := (Keep.refl h0 [a1, bud, pool, start, hash, table, enc]).trans Kq57 (own_trS (P := fun x => x ∈ [a1, bud, pool, start, hash, table, enc] ∨ h0.size ≤ x) (Or.inl (by simp)) (own_trS (P := fun x => x ∈ [a1, bud, pool, start, hash, table, enc] ∨ h0.size ≤ x) (Or.inl (by simp)) own_tr0))
  obtain ⟨EMS_72, FMS0_72, FMS1_72, FMS2_72, FMS3_72, FMS4_72, FMS5_72, FMS6_72, FMS7_72, FMS8_72, FMS9_72⟩ := M57q
  obtain ⟨EBG_73, FBG0_73, FBG1_73⟩ := B57q
  have N57 := Fr.app N53 N57q
  refine OwnG.cn hv57 ?_
  clear hv57
  refine OwnG.st (y_aloadN X57 H d7_30 rfl) ?_
  refine OwnG.v1 34 (getF X57 hx hZ hown (host := "") (Or.inl (ww hw 43 rfl)) Via.refl rfl FMS4_72 (g := mkF m 31 _ _) rfl rfl (hb hby d7_31)) ?_
  intro T74 X74 e74
  refine OwnG.st (y_len Vq57 X74 H hZ e74 d7_34 (16 : Int32) rfl) ?_
  refine OwnG.st (y_iconst X74 H (1) d7_35 rfl) ?_
  refine OwnG.st (y_isub X74 H d7_36) ?_
  refine OwnG.st (y_istoreN X74 H #[.val (.ref a1), .val (.int w53), .val (.int ((16 : Int32) - (1 : Int32))), .unset, .unset] d7_37 rfl) ?_
  refine OwnG.st (y_iloadN X74 H d7_38 rfl) ?_
  refine OwnG.st (y_iloadN X74 H d7_39 rfl) ?_
  refine OwnG.st (y_iand X74 H d7_40) ?_
  refine OwnG.st (y_istoreN X74 H #[.val (.ref a1), .val (.int w53), .val (.int ((16 : Int32) - (1 : Int32))), .val (.int (w53 &&& ((16 : Int32) - (1 : Int32)))), .unset] d7_41 rfl) ?_
  show OwnG p e below s _ _ _ T74 (mkF m 42 #[.val (.ref a1), .val (.int w53), .val (.int ((16 : Int32) - (1 : Int32))), .val (.int (w53 &&& ((16 : Int32) - (1 : Int32)))), .unset] [])
  obtain ⟨z3_75, hz3_75⟩ : ∃ w : Int32, w = (w53 &&& ((16 : Int32) - (1 : Int32))) := ⟨_, rfl⟩
  rw [← hz3_75]
  have hix := own_idx w53
  rw [← hz3_75] at hix
  refine OwnG.st (y_aloadN X74 H d7_42 rfl) ?_
  refine OwnG.v1 46 (getF X74 hx hZ hown (host := "") (Or.inl (ww hw 43 rfl)) Via.refl e74 FMS4_72 (g := mkF m 43 _ _) rfl rfl (hb hby d7_43)) ?_
  intro T76 X76 e76
  have hc48_77 : ((fun _ => 0) z3_75.toInt.toNat) = (0 : Int32) := rfl
  refine OwnG.st (y_iloadN X76 H d7_46 rfl) ?_
  refine OwnG.st (y_ldI Vq57 X76 H hZ e76 hix.1 hix.2 d7_47 ((fun _ => 0) z3_75.toInt.toNat) rfl) ?_
  refine OwnG.st (y_ifY X76 H 119 d7_48 ((if0 _ _).trans (teq hc48_77).1) (by decide) (by decide)) ?_
  refine OwnG.st (y_aloadN X76 H d7_119 rfl) ?_
  refine OwnG.st (y_aloadN X76 H d7_120 rfl) ?_
  refine OwnG.v1 124 (getF X76 hx hZ hown (host := "") (Or.inl (ww hw 47 rfl)) Via.refl e76 FMS9_72 (g := mkF m 121 _ _) rfl rfl (hb hby d7_121)) ?_
  intro T78 X78 e78
  refine OwnG.st (y_aloadN X78 H d7_124 rfl) ?_
  refine OwnG.v1 128 (getF X78 hx hZ hown (host := "") (Or.inl (ww hw 37 rfl)) Via.refl e78 FMS0_72 (g := mkF m 125 _ _) rfl rfl (hb hby d7_125)) ?_
  intro T79 X79 e79
  refine OwnG.st (y_aloadN X79 H d7_128 rfl) ?_
  refine OwnG.v1 132 (getF X79 hx hZ hown (host := "") (Or.inl (ww hw 94 rfl)) Via.refl e79 FMS1_72 (g := mkF m 129 _ _) rfl rfl (hb hby d7_129)) ?_
  intro T80 X80 e80
  refine OwnG.st (y_i2l X80 H d7_132) ?_
  refine OwnG.st (y_aloadN X80 H d7_133 rfl) ?_
  refine OwnG.v1 137 (getF X80 hx hZ hown (host := "") (Or.inl (ww hw 59 rfl)) Via.refl e80 FMS6_72 (g := mkF m 134 _ _) rfl rfl (hb hby d7_134)) ?_
  intro T81 X81 e81
  refine OwnG.st (y_i2l X81 H d7_137) ?_
  refine OwnG.st (y_ladd X81 H d7_138) ?_
  have hga := x_ladd psz.toInt64 elen.toInt64 (by omega)
  obtain ⟨cq82, kq82, q82a, q82b, q82c⟩ := isOf hZ e81 EBG_73
  refine OwnG.cm 142 2 116 X81 (X81.virtualBack hx (y := mn_12) (z := mn_12) hown (mvT hZ (ww hw 96 rfl)) (mvT hZ (ww hw 97 rfl)) (notFace_of_selects (args := #[]) (mvT hZ (ww hw 99 rfl))) (mvT hZ (ww hw 99 rfl)) (mvT hZ (ww hw 98 rfl)) (by decide) (backOf (W := 1) (rm12 l Z a0 hw [] bud pool ((psz.toInt64) + (elen.toInt64)) u57 0 gP T57.heap n0 Z57 gb_bud ⟨EBG_73, FBG0_73, FBG1_73⟩ f67 hD.2.2.1 (by omega) (by decide) (by omega) hBP) hZ (ww hw 100 rfl) (ww hw 13 rfl) (by decide) (by decide)) q82a q82c (g := mkF m 139 _ _) rfl (by rw [hml]; rfl) (Steps.refl _) (argsL := [(.ref pool), (.long ((psz.toInt64) + (elen.toInt64)))]) (rest := [(.ref a1)]) (lenOf pd_7A_2 rfl) rfl (by show 2 * 0 + _ ≤ _; exact Nat.le_of_eq rfl) (hb hby d7_139) (fun _ _ => ⟨rfl, e81, (by decide : 1 + 1 ≤ _), (by decide : 16 + 100 ≤ _)⟩)) rfl rfl ?_
  intro T82 Lc82 vc82 X82 hQ82
  obtain ⟨x82, n82', g82', u82, hv82, N82q, Kq82, B82q, Vq82, sx82, hn82a, hn82b, hn82c, hg82, hBy82, hu82a, hu82b⟩ := hQ82
  have ne82_83 : NeA a1 x82 := Or.elim sx82 (fun q => by rw [q]; exact (Ne.symm hD.2.1)) (fun q => Nat.ne_of_lt (Nat.lt_of_lt_of_le (Exa.lt EMS_72) q))
  have ne82_84 : NeA bud x82 := Or.elim sx82 (fun q => by rw [q]; exact (Ne.symm hD.2.2.1)) (fun q => Nat.ne_of_lt (Nat.lt_of_lt_of_le (Exa.lt EBG_73) q))
  have ne82_85 : NeA start x82 := Or.elim sx82 (fun q => by rw [q]; exact hD.2.2.2.2.2.1) (fun q => Nat.ne_of_lt (Nat.lt_of_lt_of_le f68.lt q))
  have ne82_86 : NeA hash x82 := Or.elim sx82 (fun q => by rw [q]; exact hD.2.2.2.2.2.2.2.2.1) (fun q => Nat.ne_of_lt (Nat.lt_of_lt_of_le f69.lt q))
  have ne82_87 : NeA enc x82 := Or.elim sx82 (fun q => by rw [q]; exact hD.2.2.2.2.2.2.2.2.2.2.2.2.2.2.2.2.2.1) (fun q => Nat.ne_of_lt (Nat.lt_of_lt_of_le f71.lt q))
  have ne82_88 : NeA x57 x82 := Or.elim sx82 (fun q => by rw [q]; exact (Ne.symm ne57_60)) (fun q => Nat.ne_of_lt (Nat.lt_of_lt_of_le Vq57.lt q))
  have inw_x82 : x82 ∈ [a1, bud, pool, start, hash, table, enc] ∨ h0.size ≤ x82 := Or.elim sx82 (fun q => by rw [q]; exact Or.inl (by simp)) (fun q => Or.inr (Nat.le_trans K57.1 q))
  have ge_x82 : LeA (kk) (x82) := Or.elim sx82 (fun q => by rw [q]; exact ge_pool) (fun q => Nat.le_trans hkz (Nat.le_trans K57.1 q))
  have gb_x82 : LeA (n0) (x82) := Or.elim sx82 (fun q => by rw [q]; exact gb_pool) (fun q => Nat.le_trans Z57 q)
  have Z82 : LeA (n0) (T82.heap.size) := Nat.le_trans Z57 Kq82.1
  have f89 := Exa.keep EMS_72 Kq82
  have f90 := Fld.keep FMS0_72 Kq82 (ninS (Ne.symm hD.1) nin0)
  have f91 := Fld.keep FMS1_72 Kq82 (ninS (Ne.symm hD.1) nin0)
  have f92 := Fld.keep FMS2_72 Kq82 (ninS (Ne.symm hD.1) nin0)
  have f93 := Fld.keep FMS3_72 Kq82 (ninS (Ne.symm hD.1) nin0)
  have f94 := Fld.keep FMS4_72 Kq82 (ninS (Ne.symm hD.1) nin0)
  have f95 := Fld.keep FMS5_72 Kq82 (ninS (Ne.symm hD.1) nin0)
  have f96 := Fld.keep FMS6_72 Kq82 (ninS (Ne.symm hD.1) nin0)
  have f97 := Fld.keep FMS7_72 Kq82 (ninS (Ne.symm hD.1) nin0)
  have f98 := Fld.keep FMS8_72 Kq82 (ninS (Ne.symm hD.1) nin0)
  have f99 := Fld.keep FMS9_72 Kq82 (ninS (Ne.symm hD.1) nin0)
  have f102 := f68.keep Kq82 (ninS hD.2.2.2.2.1 nin0)
  have f103 := f69.keep Kq82 (ninS hD.2.2.2.2.2.2.2.1 nin0)
  have f104 := f71.keep Kq82 (ninS hD.2.2.2.2.2.2.2.2.2.2.2.2.2.2.2.2.1 nin0)
  have f105 := Vq57.keep Kq82 (ninS (Ne.symm ne57_59) nin0)
  have K82 : Keep h0 T82.heap [a1, bud, pool, start, hash, table, enc] := K57.trans Kq82 (own_trS (P := fun x => x ∈ [a1, bud, pool, start, hash, table, enc] ∨ h0.size ≤ x) (Or.inl (by simp)) own_tr0)
  obtain ⟨EBG_106, FBG0_106, FBG1_106⟩ := B82q
  have N82 := Fr.app N57 N82q
  refine OwnG.cv hv82 ?_
  clear hv82
  refine OwnG.v2 145 (putF X82 hx hZ hown (host := "") (Or.inl (ww hw 37 rfl)) Via.refl rfl f90 f89 (Or.inl (ww hw 38 rfl)) (ww hw 9 rfl) (ty := (.array .byte)) (by decide) rfl rfl (g := mkF m 142 _ _) rfl rfl (hb hby d7_142)) ?_
  intro T107 h107 X107 e107 W107
  have f108 := Exa.wr W107 f89
  have f109 := Fld.other W107 f91 (Or.inr (sn_37 hw))
  have f110 := Fld.other W107 f92 (Or.inr (sn_38 hw))
  have f111 := Fld.other W107 f93 (Or.inr (sn_39 hw))
  have f112 := Fld.other W107 f94 (Or.inr (sn_40 hw))
  have f113 := Fld.other W107 f95 (Or.inr (sn_41 hw))
  have f114 := Fld.other W107 f96 (Or.inr (sn_42 hw))
  have f115 := Fld.other W107 f97 (Or.inr (sn_43 hw))
  have f116 := Fld.other W107 f98 (Or.inr (sn_44 hw))
  have f117 := Fld.other W107 f99 (Or.inr (sn_45 hw))
  have f118 := Exa.wr W107 EBG_106
  have f119 := Fld.other W107 FBG0_106 (Or.inl hD.1)
  have f120 := Fld.other W107 FBG1_106 (Or.inl hD.1)
  have f121 := f102.other W107 hD.2.2.2.1
  have f122 := f103.other W107 hD.2.2.2.2.2.2.1
  have f123 := f104.other W107 hD.2.2.2.2.2.2.2.2.2.2.2.2.2.2.2.1
  have f124 := f105.other W107 (Ne.symm ne57_58)
  have f125 := Vq82.other W107 (Ne.symm ne82_83)
  have Fw107 : Fld Z h107 a1 "com/example/deft_nets/deftnets/MarkingStore" "mPool" "[B" (.ref x82) := Fld.same W107 f90
  have N107 := Fr.snoc X107 N82 gb_a1
  have Z107 : LeA (n0) (h107.size) := by rw [W107.size]; exact Z82
  have K107 : Keep h0 h107 [a1, bud, pool, start, hash, table, enc] := K82.wr W107 (Or.inl (by simp))
  refine OwnG.st (y_aloadN X107 H d7_145 rfl) ?_
  refine OwnG.v1 149 (getF X107 hx hZ hown (host := "") (Or.inl (ww hw 45 rfl)) Via.refl e107 f113 (g := mkF m 146 _ _) rfl rfl (hb hby d7_146)) ?_
  intro T126 X126 e126
  refine OwnG.st (y_iconst X126 H (0) d7_149 rfl) ?_
  refine OwnG.st (y_aloadN X126 H d7_150 rfl) ?_
  refine OwnG.v1 154 (getF X126 hx hZ hown (host := "") (Or.inl (ww hw 37 rfl)) Via.refl e126 Fw107 (g := mkF m 151 _ _) rfl rfl (hb hby d7_151)) ?_
  intro T127 X127 e127
  refine OwnG.st (y_aloadN X127 H d7_154 rfl) ?_
  refine OwnG.v1 158 (getF X127 hx hZ hown (host := "") (Or.inl (ww hw 94 rfl)) Via.refl e127 f109 (g := mkF m 155 _ _) rfl rfl (hb hby d7_155)) ?_
  intro T128 X128 e128
  refine OwnG.st (y_aloadN X128 H d7_158 rfl) ?_
  refine OwnG.v1 162 (getF X128 hx hZ hown (host := "") (Or.inl (ww hw 59 rfl)) Via.refl e128 f114 (g := mkF m 159 _ _) rfl rfl (hb hby d7_159)) ?_
  intro T129 X129 e129
  refine OwnG.v6 165 (own_cp f123 f125 (by omega) (by omega) (Or.inr ⟨rfl, hBy, hBy82⟩) X129 hx hZ hown (ww hw 101 rfl) (ww hw 104 rfl) (ww hw 102 rfl) (ww hw 103 rfl) e129 (by decide) (by omega) (by omega) (by show (0 : Int) + _ ≤ _; omega) (by omega) N107 gb_x82 (gf := mkF m 162 _ _) rfl (by rw [hml]; rfl) (rest := []) rfl (hb hby d7_162) (by decide) (W := 0) (by show 2 * 0 + _ ≤ _; exact Nat.le_of_eq rfl) (by decide)) ?_
  intro T130 h130 L130 X130 e130 N130 Kc130 V130
  have V130' : OwnA Z h130 x82 .byte n82' (iv' (cpv gE g82' 0 psz.toInt.toNat elen.toInt.toNat)) := V130
  have Z130 : LeA (n0) (h130.size) := Nat.le_trans Z107 Kc130.1
  have f131 := Exa.keep f108 Kc130
  have f132 := Fld.keep Fw107 Kc130 (ninS ne82_83 nin0)
  have f133 := Fld.keep f109 Kc130 (ninS ne82_83 nin0)
  have f134 := Fld.keep f110 Kc130 (ninS ne82_83 nin0)
  have f135 := Fld.keep f111 Kc130 (ninS ne82_83 nin0)
  have f136 := Fld.keep f112 Kc130 (ninS ne82_83 nin0)
  have f137 := Fld.keep f113 Kc130 (ninS ne82_83 nin0)
  have f138 := Fld.keep f114 Kc130 (ninS ne82_83 nin0)
  have f139 := Fld.keep f115 Kc130 (ninS ne82_83 nin0)
  have f140 := Fld.keep f116 Kc130 (ninS ne82_83 nin0)
  have f141 := Fld.keep f117 Kc130 (ninS ne82_83 nin0)
  have f142 := Exa.keep f118 Kc130
  have f143 := Fld.keep f119 Kc130 (ninS ne82_84 nin0)
  have f144 := Fld.keep f120 Kc130 (ninS ne82_84 nin0)
  have f145 := f121.keep Kc130 (ninS ne82_85 nin0)
  have f146 := f122.keep Kc130 (ninS ne82_86 nin0)
  have f147 := f123.keep Kc130 (ninS ne82_87 nin0)
  have f148 := f124.keep Kc130 (ninS ne82_88 nin0)
  have K130 : Keep h0 h130 [a1, bud, pool, start, hash, table, enc] := K107.trans Kc130 (own_trS (P := fun x => x ∈ [a1, bud, pool, start, hash, table, enc] ∨ h0.size ≤ x) (inw_x82) own_tr0)
  refine OwnG.st (y_aloadN X130 H d7_165 rfl) ?_
  refine OwnG.st (y_dup X130 H d7_166 rfl) ?_
  refine OwnG.v1 170 (getF X130 hx hZ hown (host := "") (Or.inl (ww hw 94 rfl)) Via.refl e130 f133 (g := mkF m 167 _ _) rfl rfl (hb hby d7_167)) ?_
  intro T149 X149 e149
  refine OwnG.st (y_aloadN X149 H d7_170 rfl) ?_
  refine OwnG.v1 174 (getF X149 hx hZ hown (host := "") (Or.inl (ww hw 59 rfl)) Via.refl e149 f138 (g := mkF m 171 _ _) rfl rfl (hb hby d7_171)) ?_
  intro T150 X150 e150
  refine OwnG.st (y_iadd X150 H d7_174) ?_
  refine OwnG.v2 178 (putF X150 hx hZ hown (host := "") (Or.inl (ww hw 94 rfl)) Via.refl e150 f133 f131 (Or.inl (ww hw 95 rfl)) (ww hw 9 rfl) (ty := .int) (by decide) rfl rfl (g := mkF m 175 _ _) rfl rfl (hb hby d7_175)) ?_
  intro T151 h151 X151 e151 W151
  have f152 := Exa.wr W151 f131
  have f153 := Fld.other W151 f132 (Or.inr (sn_46 hw))
  have f154 := Fld.other W151 f134 (Or.inr (sn_47 hw))
  have f155 := Fld.other W151 f135 (Or.inr (sn_48 hw))
  have f156 := Fld.other W151 f136 (Or.inr (sn_49 hw))
  have f157 := Fld.other W151 f137 (Or.inr (sn_50 hw))
  have f158 := Fld.other W151 f138 (Or.inr (sn_51 hw))
  have f159 := Fld.other W151 f139 (Or.inr (sn_52 hw))
  have f160 := Fld.other W151 f140 (Or.inr (sn_53 hw))
  have f161 := Fld.other W151 f141 (Or.inr (sn_54 hw))
  have f162 := Exa.wr W151 f142
  have f163 := Fld.other W151 f143 (Or.inl hD.1)
  have f164 := Fld.other W151 f144 (Or.inl hD.1)
  have f165 := f145.other W151 hD.2.2.2.1
  have f166 := f146.other W151 hD.2.2.2.2.2.2.1
  have f167 := f147.other W151 hD.2.2.2.2.2.2.2.2.2.2.2.2.2.2.2.1
  have f168 := f148.other W151 (Ne.symm ne57_58)
  have f169 := V130'.other W151 (Ne.symm ne82_83)
  have Fw151 : Fld Z h151 a1 "com/example/deft_nets/deftnets/MarkingStore" "mPoolSize" "I" (.int (psz + elen)) := Fld.same W151 f133
  have N151 := Fr.snoc X151 N130 gb_a1
  have Z151 : LeA (n0) (h151.size) := by rw [W151.size]; exact Z130
  have K151 : Keep h0 h151 [a1, bud, pool, start, hash, table, enc] := K130.wr W151 (Or.inl (by simp))
  refine OwnG.st (y_aloadN X151 H d7_178 rfl) ?_
  refine OwnG.st (y_aloadN X151 H d7_179 rfl) ?_
  refine OwnG.v1 183 (getF X151 hx hZ hown (host := "") (Or.inl (ww hw 47 rfl)) Via.refl e151 f161 (g := mkF m 180 _ _) rfl rfl (hb hby d7_180)) ?_
  intro T170 X170 e170
  refine OwnG.st (y_aloadN X170 H d7_183 rfl) ?_
  refine OwnG.v1 187 (getF X170 hx hZ hown (host := "") (Or.inl (ww hw 39 rfl)) Via.refl e170 f154 (g := mkF m 184 _ _) rfl rfl (hb hby d7_184)) ?_
  intro T171 X171 e171
  refine OwnG.st (y_aloadN X171 H d7_187 rfl) ?_
  refine OwnG.v1 191 (getF X171 hx hZ hown (host := "") (Or.inl (ww hw 75 rfl)) Via.refl e171 f160 (g := mkF m 188 _ _) rfl rfl (hb hby d7_188)) ?_
  intro T172 X172 e172
  refine OwnG.st (y_i2l X172 H d7_191) ?_
  refine OwnG.st (y_ldc2 X172 H hown (mvT hZ (ww hw 74 rfl)) d7_192) ?_
  refine OwnG.st (y_ladd X172 H d7_195) ?_
  have hgb : (((0 : Int32).toInt64) + (2 : Int64)).toInt = 2 := by decide
  obtain ⟨cq173, kq173, q173a, q173b, q173c⟩ := isOf hZ e172 f162
  refine OwnG.cm 199 3 216 X172 (X172.virtualBack hx (y := mn_13) (z := mn_13) hown (mvT hZ (ww hw 105 rfl)) (mvT hZ (ww hw 106 rfl)) (notFace_of_selects (args := #[]) (mvT hZ (ww hw 108 rfl))) (mvT hZ (ww hw 108 rfl)) (mvT hZ (ww hw 107 rfl)) (by decide) (backOf (W := 1) (rm13 l Z a0 hw [] bud start (((0 : Int32).toInt64) + (2 : Int64)) u82 1 gS h151 n0 Z151 gb_bud ⟨f162, f163, f164⟩ f165 hD.2.2.2.2.1 (by omega) (by decide) (by decide)) hZ (ww hw 109 rfl) (ww hw 13 rfl) (by decide) (by decide)) q173a q173c (g := mkF m 196 _ _) rfl (by rw [hml]; rfl) (Steps.refl _) (argsL := [(.ref start), (.long (((0 : Int32).toInt64) + (2 : Int64)))]) (rest := [(.ref a1)]) (lenOf pd_7A_3 rfl) rfl (by show 2 * 0 + _ ≤ _; exact Nat.le_of_eq rfl) (hb hby d7_196) (fun _ _ => ⟨rfl, e172, (by decide : 2 + 1 ≤ _), (by decide : 116 + 100 ≤ _)⟩)) rfl rfl ?_
  intro T173 Lc173 vc173 X173 hQ173
  obtain ⟨x173, n173', g173', u173, hv173, N173q, Kq173, B173q, Vq173, sx173, hn173a, hn173b, hn173c, hg173, hu173a, hu173b⟩ := hQ173
  have ne173_174 : NeA a1 x173 := Or.elim sx173 (fun q => by rw [q]; exact (Ne.symm hD.2.2.2.1)) (fun q => Nat.ne_of_lt (Nat.lt_of_lt_of_le (Exa.lt f152) q))
  have ne173_175 : NeA bud x173 := Or.elim sx173 (fun q => by rw [q]; exact (Ne.symm hD.2.2.2.2.1)) (fun q => Nat.ne_of_lt (Nat.lt_of_lt_of_le (Exa.lt f162) q))
  have ne173_176 : NeA hash x173 := Or.elim sx173 (fun q => by rw [q]; exact hD.2.2.2.2.2.2.2.2.2.1) (fun q => Nat.ne_of_lt (Nat.lt_of_lt_of_le f166.lt q))
  have ne173_177 : NeA enc x173 := Or.elim sx173 (fun q => by rw [q]; exact hD.2.2.2.2.2.2.2.2.2.2.2.2.2.2.2.2.2.2.1) (fun q => Nat.ne_of_lt (Nat.lt_of_lt_of_le f167.lt q))
  have ne173_178 : NeA x57 x173 := Or.elim sx173 (fun q => by rw [q]; exact (Ne.symm ne57_61)) (fun q => Nat.ne_of_lt (Nat.lt_of_lt_of_le f168.lt q))
  have ne173_179 : NeA x82 x173 := Or.elim sx173 (fun q => by rw [q]; exact (Ne.symm ne82_85)) (fun q => Nat.ne_of_lt (Nat.lt_of_lt_of_le f169.lt q))
  have inw_x173 : x173 ∈ [a1, bud, pool, start, hash, table, enc] ∨ h0.size ≤ x173 := Or.elim sx173 (fun q => by rw [q]; exact Or.inl (by simp)) (fun q => Or.inr (Nat.le_trans K151.1 q))
  have ge_x173 : LeA (kk) (x173) := Or.elim sx173 (fun q => by rw [q]; exact ge_start) (fun q => Nat.le_trans hkz (Nat.le_trans K151.1 q))
  have gb_x173 : LeA (n0) (x173) := Or.elim sx173 (fun q => by rw [q]; exact gb_start) (fun q => Nat.le_trans Z151 q)
  have Z173 : LeA (n0) (T173.heap.size) := Nat.le_trans Z151 Kq173.1
  have f180 := Exa.keep f152 Kq173
  have f181 := Fld.keep f153 Kq173 (ninS (Ne.symm hD.1) nin0)
  have f182 := Fld.keep Fw151 Kq173 (ninS (Ne.symm hD.1) nin0)
  have f183 := Fld.keep f154 Kq173 (ninS (Ne.symm hD.1) nin0)
  have f184 := Fld.keep f155 Kq173 (ninS (Ne.symm hD.1) nin0)
  have f185 := Fld.keep f156 Kq173 (ninS (Ne.symm hD.1) nin0)
  have f186 := Fld.keep f157 Kq173 (ninS (Ne.symm hD.1) nin0)
  have f187 := Fld.keep f158 Kq173 (ninS (Ne.symm hD.1) nin0)
  have f188 := Fld.keep f159 Kq173 (ninS (Ne.symm hD.1) nin0)
  have f189 := Fld.keep f160 Kq173 (ninS (Ne.symm hD.1) nin0)
  have f190 := Fld.keep f161 Kq173 (ninS (Ne.symm hD.1) nin0)
  have f193 := f166.keep Kq173 (ninS hD.2.2.2.2.2.2.2.1 nin0)
  have f194 := f167.keep Kq173 (ninS hD.2.2.2.2.2.2.2.2.2.2.2.2.2.2.2.2.1 nin0)
  have f195 := f168.keep Kq173 (ninS (Ne.symm ne57_59) nin0)
  have f196 := f169.keep Kq173 (ninS (Ne.symm ne82_84) nin0)
  have K173 : Keep h0 T173.heap [a1, bud, pool, start, hash, table, enc] := K151.trans Kq173 (own_trS (P := fun x => x ∈ [a1, bud, pool, start, hash, table, enc] ∨ h0.size ≤ x) (Or.inl (by simp)) own_tr0)
  obtain ⟨EBG_197, FBG0_197, FBG1_197⟩ := B173q
  have N173 := Fr.app N151 N173q
  refine OwnG.cv hv173 ?_
  clear hv173
  refine OwnG.v2 202 (putF X173 hx hZ hown (host := "") (Or.inl (ww hw 39 rfl)) Via.refl rfl f183 f180 (Or.inl (ww hw 40 rfl)) (ww hw 9 rfl) (ty := (.array .int)) (by decide) rfl rfl (g := mkF m 199 _ _) rfl rfl (hb hby d7_199)) ?_
  intro T198 h198 X198 e198 W198
  have f199 := Exa.wr W198 f180
  have f200 := Fld.other W198 f181 (Or.inr (sn_55 hw))
  have f201 := Fld.other W198 f182 (Or.inr (sn_56 hw))
  have f202 := Fld.other W198 f184 (Or.inr (sn_57 hw))
  have f203 := Fld.other W198 f185 (Or.inr (sn_58 hw))
  have f204 := Fld.other W198 f186 (Or.inr (sn_59 hw))
  have f205 := Fld.other W198 f187 (Or.inr (sn_60 hw))
  have f206 := Fld.other W198 f188 (Or.inr (sn_61 hw))
  have f207 := Fld.other W198 f189 (Or.inr (sn_62 hw))
  have f208 := Fld.other W198 f190 (Or.inr (sn_63 hw))
  have f209 := Exa.wr W198 EBG_197
  have f210 := Fld.other W198 FBG0_197 (Or.inl hD.1)
  have f211 := Fld.other W198 FBG1_197 (Or.inl hD.1)
  have f212 := f193.other W198 hD.2.2.2.2.2.2.1
  have f213 := f194.other W198 hD.2.2.2.2.2.2.2.2.2.2.2.2.2.2.2.1
  have f214 := f195.other W198 (Ne.symm ne57_58)
  have f215 := f196.other W198 (Ne.symm ne82_83)
  have f216 := Vq173.other W198 (Ne.symm ne173_174)
  have Fw198 : Fld Z h198 a1 "com/example/deft_nets/deftnets/MarkingStore" "mStart" "[I" (.ref x173) := Fld.same W198 f183
  have N198 := Fr.snoc X198 N173 gb_a1
  have Z198 : LeA (n0) (h198.size) := by rw [W198.size]; exact Z173
  have K198 : Keep h0 h198 [a1, bud, pool, start, hash, table, enc] := K173.wr W198 (Or.inl (by simp))
  refine OwnG.st (y_aloadN X198 H d7_202 rfl) ?_
  refine OwnG.v1 206 (getF X198 hx hZ hown (host := "") (Or.inl (ww hw 39 rfl)) Via.refl e198 Fw198 (g := mkF m 203 _ _) rfl rfl (hb hby d7_203)) ?_
  intro T217 X217 e217
  refine OwnG.st (y_aloadN X217 H d7_206 rfl) ?_
  refine OwnG.v1 210 (getF X217 hx hZ hown (host := "") (Or.inl (ww hw 75 rfl)) Via.refl e217 f207 (g := mkF m 207 _ _) rfl rfl (hb hby d7_207)) ?_
  intro T218 X218 e218
  refine OwnG.st (y_iconst X218 H (1) d7_210 rfl) ?_
  refine OwnG.st (y_iadd X218 H d7_211) ?_
  refine OwnG.st (y_aloadN X218 H d7_212 rfl) ?_
  refine OwnG.v1 216 (getF X218 hx hZ hown (host := "") (Or.inl (ww hw 94 rfl)) Via.refl e218 f201 (g := mkF m 213 _ _) rfl rfl (hb hby d7_213)) ?_
  intro T219 X219 e219
  refine OwnG.v3 217 (own_stI f216 X219 hx hZ e219 (by decide) (by show (1 : Int) < _; omega) (gf := mkF m 216 _ _) rfl rfl (hb hby d7_216)) ?_
  intro T220 h220 X220 e220 W220 V220
  have V220' : OwnA Z h220 x173 .int n173' (iv' (updv g173' ((0 : Int32) + (1 : Int32)).toInt.toNat (psz + elen))) := V220
  have f221 := Exa.wr W220 f199
  have f222 := Fld.other W220 f200 (Or.inl ne173_174)
  have f223 := Fld.other W220 f201 (Or.inl ne173_174)
  have f224 := Fld.other W220 Fw198 (Or.inl ne173_174)
  have f225 := Fld.other W220 f202 (Or.inl ne173_174)
  have f226 := Fld.other W220 f203 (Or.inl ne173_174)
  have f227 := Fld.other W220 f204 (Or.inl ne173_174)
  have f228 := Fld.other W220 f205 (Or.inl ne173_174)
  have f229 := Fld.other W220 f206 (Or.inl ne173_174)
  have f230 := Fld.other W220 f207 (Or.inl ne173_174)
  have f231 := Fld.other W220 f208 (Or.inl ne173_174)
  have f232 := Exa.wr W220 f209
  have f233 := Fld.other W220 f210 (Or.inl ne173_175)
  have f234 := Fld.other W220 f211 (Or.inl ne173_175)
  have f235 := f212.other W220 ne173_176
  have f236 := f213.other W220 ne173_177
  have f237 := f214.other W220 ne173_178
  have f238 := f215.other W220 ne173_179
  have N220 := Fr.snoc X220 N198 gb_x173
  have Z220 : LeA (n0) (h220.size) := by rw [W220.size]; exact Z198
  have K220 : Keep h0 h220 [a1, bud, pool, start, hash, table, enc] := K198.wr W220 (inw_x173)
  refine OwnG.st (y_aloadN X220 H d7_217 rfl) ?_
  refine OwnG.st (y_aloadN X220 H d7_218 rfl) ?_
  refine OwnG.v1 222 (getF X220 hx hZ hown (host := "") (Or.inl (ww hw 47 rfl)) Via.refl e220 f231 (g := mkF m 219 _ _) rfl rfl (hb hby d7_219)) ?_
  intro T239 X239 e239
  refine OwnG.st (y_aloadN X239 H d7_222 rfl) ?_
  refine OwnG.v1 226 (getF X239 hx hZ hown (host := "") (Or.inl (ww hw 41 rfl)) Via.refl e239 f225 (g := mkF m 223 _ _) rfl rfl (hb hby d7_223)) ?_
  intro T240 X240 e240
  refine OwnG.st (y_aloadN X240 H d7_226 rfl) ?_
  refine OwnG.v1 230 (getF X240 hx hZ hown (host := "") (Or.inl (ww hw 75 rfl)) Via.refl e240 f230 (g := mkF m 227 _ _) rfl rfl (hb hby d7_227)) ?_
  intro T241 X241 e241
  refine OwnG.st (y_i2l X241 H d7_230) ?_
  refine OwnG.st (y_lconst X241 H 1 d7_231 rfl) ?_
  refine OwnG.st (y_ladd X241 H d7_232) ?_
  have hgc : (((0 : Int32).toInt64) + (1 : Int64)).toInt = 1 := by decide
  obtain ⟨cq242, kq242, q242a, q242b, q242c⟩ := isOf hZ e241 f232
  refine OwnG.cm 236 4 316 X241 (X241.virtualBack hx (y := mn_13) (z := mn_13) hown (mvT hZ (ww hw 105 rfl)) (mvT hZ (ww hw 106 rfl)) (notFace_of_selects (args := #[]) (mvT hZ (ww hw 108 rfl))) (mvT hZ (ww hw 108 rfl)) (mvT hZ (ww hw 107 rfl)) (by decide) (backOf (W := 1) (rm13 l Z a0 hw [] bud hash (((0 : Int32).toInt64) + (1 : Int64)) u173 0 gH h220 n0 Z220 gb_bud ⟨f232, f233, f234⟩ f235 hD.2.2.2.2.2.2.2.1 (by omega) (by decide) (by decide)) hZ (ww hw 109 rfl) (ww hw 13 rfl) (by decide) (by decide)) q242a q242c (g := mkF m 233 _ _) rfl (by rw [hml]; rfl) (Steps.refl _) (argsL := [(.ref hash), (.long (((0 : Int32).toInt64) + (1 : Int64)))]) (rest := [(.ref a1)]) (lenOf pd_7A_3 rfl) rfl (by show 2 * 0 + _ ≤ _; exact Nat.le_of_eq rfl) (hb hby d7_233) (fun _ _ => ⟨rfl, e241, (by decide : 3 + 1 ≤ _), (by decide : 216 + 100 ≤ _)⟩)) rfl rfl ?_
  intro T242 Lc242 vc242 X242 hQ242
  obtain ⟨x242, n242', g242', u242, hv242, N242q, Kq242, B242q, Vq242, sx242, hn242a, hn242b, hn242c, hg242, hu242a, hu242b⟩ := hQ242
  have ne242_243 : NeA a1 x242 := Or.elim sx242 (fun q => by rw [q]; exact (Ne.symm hD.2.2.2.2.2.2.1)) (fun q => Nat.ne_of_lt (Nat.lt_of_lt_of_le (Exa.lt f221) q))
  have ne242_244 : NeA bud x242 := Or.elim sx242 (fun q => by rw [q]; exact (Ne.symm hD.2.2.2.2.2.2.2.1)) (fun q => Nat.ne_of_lt (Nat.lt_of_lt_of_le (Exa.lt f232) q))
  have ne242_245 : NeA enc x242 := Or.elim sx242 (fun q => by rw [q]; exact hD.2.2.2.2.2.2.2.2.2.2.2.2.2.2.2.2.2.2.2.1) (fun q => Nat.ne_of_lt (Nat.lt_of_lt_of_le f236.lt q))
  have ne242_246 : NeA x57 x242 := Or.elim sx242 (fun q => by rw [q]; exact (Ne.symm ne57_62)) (fun q => Nat.ne_of_lt (Nat.lt_of_lt_of_le f237.lt q))
  have ne242_247 : NeA x82 x242 := Or.elim sx242 (fun q => by rw [q]; exact (Ne.symm ne82_86)) (fun q => Nat.ne_of_lt (Nat.lt_of_lt_of_le f238.lt q))
  have ne242_248 : NeA x173 x242 := Or.elim sx242 (fun q => by rw [q]; exact (Ne.symm ne173_176)) (fun q => Nat.ne_of_lt (Nat.lt_of_lt_of_le V220'.lt q))
  have inw_x242 : x242 ∈ [a1, bud, pool, start, hash, table, enc] ∨ h0.size ≤ x242 := Or.elim sx242 (fun q => by rw [q]; exact Or.inl (by simp)) (fun q => Or.inr (Nat.le_trans K220.1 q))
  have ge_x242 : LeA (kk) (x242) := Or.elim sx242 (fun q => by rw [q]; exact ge_hash) (fun q => Nat.le_trans hkz (Nat.le_trans K220.1 q))
  have gb_x242 : LeA (n0) (x242) := Or.elim sx242 (fun q => by rw [q]; exact gb_hash) (fun q => Nat.le_trans Z220 q)
  have f249 := Exa.keep f221 Kq242
  have f250 := Fld.keep f222 Kq242 (ninS (Ne.symm hD.1) nin0)
  have f251 := Fld.keep f223 Kq242 (ninS (Ne.symm hD.1) nin0)
  have f252 := Fld.keep f224 Kq242 (ninS (Ne.symm hD.1) nin0)
  have f253 := Fld.keep f225 Kq242 (ninS (Ne.symm hD.1) nin0)
  have f254 := Fld.keep f226 Kq242 (ninS (Ne.symm hD.1) nin0)
  have f255 := Fld.keep f227 Kq242 (ninS (Ne.symm hD.1) nin0)
  have f256 := Fld.keep f228 Kq242 (ninS (Ne.symm hD.1) nin0)
  have f257 := Fld.keep f229 Kq242 (ninS (Ne.symm hD.1) nin0)
  have f258 := Fld.keep f230 Kq242 (ninS (Ne.symm hD.1) nin0)
  have f259 := Fld.keep f231 Kq242 (ninS (Ne.symm hD.1) nin0)
  have f262 := f236.keep Kq242 (ninS hD.2.2.2.2.2.2.2.2.2.2.2.2.2.2.2.2.1 nin0)
  have f263 := f237.keep Kq242 (ninS (Ne.symm ne57_59) nin0)
  have f264 := f238.keep Kq242 (ninS (Ne.symm ne82_84) nin0)
  have f265 := V220'.keep Kq242 (ninS (Ne.symm ne173_175) nin0)
  have K242 : Keep h0 T242.heap [a1, bud, pool, start, hash, table, enc] := K220.trans Kq242 (own_trS (P := fun x => x ∈ [a1, bud, pool, start, hash, table, enc] ∨ h0.size ≤ x) (Or.inl (by simp)) own_tr0)
  obtain ⟨EBG_266, FBG0_266, FBG1_266⟩ := B242q
  have N242 := Fr.app N220 N242q
  refine OwnG.cv hv242 ?_
  clear hv242
  refine OwnG.v2 239 (putF X242 hx hZ hown (host := "") (Or.inl (ww hw 41 rfl)) Via.refl rfl f253 f249 (Or.inl (ww hw 42 rfl)) (ww hw 9 rfl) (ty := (.array .int)) (by decide) rfl rfl (g := mkF m 236 _ _) rfl rfl (hb hby d7_236)) ?_
  intro T267 h267 X267 e267 W267
  have f268 := Exa.wr W267 f249
  have f269 := Fld.other W267 f250 (Or.inr (sn_64 hw))
  have f270 := Fld.other W267 f251 (Or.inr (sn_65 hw))
  have f271 := Fld.other W267 f252 (Or.inr (sn_66 hw))
  have f272 := Fld.other W267 f254 (Or.inr (sn_67 hw))
  have f273 := Fld.other W267 f255 (Or.inr (sn_68 hw))
  have f274 := Fld.other W267 f256 (Or.inr (sn_69 hw))
  have f275 := Fld.other W267 f257 (Or.inr (sn_70 hw))
  have f276 := Fld.other W267 f258 (Or.inr (sn_71 hw))
  have f277 := Fld.other W267 f259 (Or.inr (sn_72 hw))
  have f278 := Exa.wr W267 EBG_266
  have f279 := Fld.other W267 FBG0_266 (Or.inl hD.1)
  have f280 := Fld.other W267 FBG1_266 (Or.inl hD.1)
  have f281 := f262.other W267 hD.2.2.2.2.2.2.2.2.2.2.2.2.2.2.2.1
  have f282 := f263.other W267 (Ne.symm ne57_58)
  have f283 := f264.other W267 (Ne.symm ne82_83)
  have f284 := f265.other W267 (Ne.symm ne173_174)
  have f285 := Vq242.other W267 (Ne.symm ne242_243)
  have Fw267 : Fld Z h267 a1 "com/example/deft_nets/deftnets/MarkingStore" "mHash" "[I" (.ref x242) := Fld.same W267 f253
  have N267 := Fr.snoc X267 N242 gb_a1
  have K267 : Keep h0 h267 [a1, bud, pool, start, hash, table, enc] := K242.wr W267 (Or.inl (by simp))
  refine OwnG.st (y_aloadN X267 H d7_239 rfl) ?_
  refine OwnG.v1 243 (getF X267 hx hZ hown (host := "") (Or.inl (ww hw 41 rfl)) Via.refl e267 Fw267 (g := mkF m 240 _ _) rfl rfl (hb hby d7_240)) ?_
  intro T286 X286 e286
  refine OwnG.st (y_aloadN X286 H d7_243 rfl) ?_
  refine OwnG.v1 247 (getF X286 hx hZ hown (host := "") (Or.inl (ww hw 75 rfl)) Via.refl e286 f276 (g := mkF m 244 _ _) rfl rfl (hb hby d7_244)) ?_
  intro T287 X287 e287
  refine OwnG.st (y_iloadN X287 H d7_247 rfl) ?_
  refine OwnG.v3 249 (own_stI f285 X287 hx hZ e287 (by decide) (by show (0 : Int) < _; omega) (gf := mkF m 248 _ _) rfl rfl (hb hby d7_248)) ?_
  intro T288 h288 X288 e288 W288 V288
  have V288' : OwnA Z h288 x242 .int n242' (iv' (updv g242' 0 w53)) := V288
  have f289 := Exa.wr W288 f268
  have f290 := Fld.other W288 f269 (Or.inl ne242_243)
  have f291 := Fld.other W288 f270 (Or.inl ne242_243)
  have f292 := Fld.other W288 f271 (Or.inl ne242_243)
  have f293 := Fld.other W288 Fw267 (Or.inl ne242_243)
  have f294 := Fld.other W288 f272 (Or.inl ne242_243)
  have f295 := Fld.other W288 f273 (Or.inl ne242_243)
  have f296 := Fld.other W288 f274 (Or.inl ne242_243)
  have f297 := Fld.other W288 f275 (Or.inl ne242_243)
  have f298 := Fld.other W288 f276 (Or.inl ne242_243)
  have f299 := Fld.other W288 f277 (Or.inl ne242_243)
  have f300 := Exa.wr W288 f278
  have f301 := Fld.other W288 f279 (Or.inl ne242_244)
  have f302 := Fld.other W288 f280 (Or.inl ne242_244)
  have f303 := f281.other W288 ne242_245
  have f304 := f282.other W288 ne242_246
  have f305 := f283.other W288 ne242_247
  have f306 := f284.other W288 ne242_248
  have N288 := Fr.snoc X288 N267 gb_x242
  have K288 : Keep h0 h288 [a1, bud, pool, start, hash, table, enc] := K267.wr W288 (inw_x242)
  refine OwnG.st (y_aloadN X288 H d7_249 rfl) ?_
  refine OwnG.v1 253 (getF X288 hx hZ hown (host := "") (Or.inl (ww hw 43 rfl)) Via.refl e288 f294 (g := mkF m 250 _ _) rfl rfl (hb hby d7_250)) ?_
  intro T307 X307 e307
  refine OwnG.st (y_iloadN X307 H d7_253 rfl) ?_
  refine OwnG.st (y_aloadN X307 H d7_254 rfl) ?_
  refine OwnG.v1 258 (getF X307 hx hZ hown (host := "") (Or.inl (ww hw 75 rfl)) Via.refl e307 f298 (g := mkF m 255 _ _) rfl rfl (hb hby d7_255)) ?_
  intro T308 X308 e308
  refine OwnG.st (y_iconst X308 H (1) d7_258 rfl) ?_
  refine OwnG.st (y_iadd X308 H d7_259) ?_
  refine OwnG.v3 261 (own_stI f304 X308 hx hZ e308 hix.1 hix.2 (gf := mkF m 260 _ _) rfl rfl (hb hby d7_260)) ?_
  intro T309 h309 X309 e309 W309 V309
  have V309' : OwnA Z h309 x57 .int 16 (iv' (updv (fun _ => 0) z3_75.toInt.toNat ((0 : Int32) + (1 : Int32)))) := V309
  have f310 := Exa.wr W309 f289
  have f311 := Fld.other W309 f290 (Or.inl ne57_58)
  have f312 := Fld.other W309 f291 (Or.inl ne57_58)
  have f313 := Fld.other W309 f292 (Or.inl ne57_58)
  have f314 := Fld.other W309 f293 (Or.inl ne57_58)
  have f315 := Fld.other W309 f294 (Or.inl ne57_58)
  have f316 := Fld.other W309 f295 (Or.inl ne57_58)
  have f317 := Fld.other W309 f296 (Or.inl ne57_58)
  have f318 := Fld.other W309 f297 (Or.inl ne57_58)
  have f319 := Fld.other W309 f298 (Or.inl ne57_58)
  have f320 := Fld.other W309 f299 (Or.inl ne57_58)
  have f321 := Exa.wr W309 f300
  have f322 := Fld.other W309 f301 (Or.inl ne57_59)
  have f323 := Fld.other W309 f302 (Or.inl ne57_59)
  have f324 := f303.other W309 ne57_64
  have f325 := f305.other W309 (Ne.symm ne82_88)
  have f326 := f306.other W309 (Ne.symm ne173_178)
  have f327 := V288'.other W309 (Ne.symm ne242_246)
  have N309 := Fr.snoc X309 N288 gb_x57
  have K309 : Keep h0 h309 [a1, bud, pool, start, hash, table, enc] := K288.wr W309 (Or.inr sz_x57)
  refine OwnG.st (y_aloadN X309 H d7_261 rfl) ?_
  refine OwnG.st (y_dup X309 H d7_262 rfl) ?_
  refine OwnG.v1 266 (getF X309 hx hZ hown (host := "") (Or.inl (ww hw 75 rfl)) Via.refl e309 f319 (g := mkF m 263 _ _) rfl rfl (hb hby d7_263)) ?_
  intro T328 X328 e328
  refine OwnG.st (y_dup_x1 X328 H d7_266 rfl rfl) ?_
  refine OwnG.st (y_iconst X328 H (1) d7_267 rfl) ?_
  refine OwnG.st (y_iadd X328 H d7_268) ?_
  refine OwnG.v2 272 (putF X328 hx hZ hown (host := "") (Or.inl (ww hw 75 rfl)) Via.refl e328 f319 f310 (Or.inl (ww hw 76 rfl)) (ww hw 9 rfl) (ty := .int) (by decide) rfl rfl (g := mkF m 269 _ _) rfl rfl (hb hby d7_269)) ?_
  intro T329 h329 X329 e329 W329
  have f330 := Exa.wr W329 f310
  have f331 := Fld.other W329 f311 (Or.inr (sn_73 hw))
  have f332 := Fld.other W329 f312 (Or.inr (sn_74 hw))
  have f333 := Fld.other W329 f313 (Or.inr (sn_75 hw))
  have f334 := Fld.other W329 f314 (Or.inr (sn_76 hw))
  have f335 := Fld.other W329 f315 (Or.inr (sn_77 hw))
  have f336 := Fld.other W329 f316 (Or.inr (sn_78 hw))
  have f337 := Fld.other W329 f317 (Or.inr (sn_79 hw))
  have f338 := Fld.other W329 f318 (Or.inr (sn_80 hw))
  have f339 := Fld.other W329 f320 (Or.inr (sn_81 hw))
  have f340 := Exa.wr W329 f321
  have f341 := Fld.other W329 f322 (Or.inl hD.1)
  have f342 := Fld.other W329 f323 (Or.inl hD.1)
  have f343 := f324.other W329 hD.2.2.2.2.2.2.2.2.2.2.2.2.2.2.2.1
  have f344 := V309'.other W329 (Ne.symm ne57_58)
  have f345 := f325.other W329 (Ne.symm ne82_83)
  have f346 := f326.other W329 (Ne.symm ne173_174)
  have f347 := f327.other W329 (Ne.symm ne242_243)
  have Fw329 : Fld Z h329 a1 "com/example/deft_nets/deftnets/MarkingStore" "mSize" "I" (.int ((0 : Int32) + (1 : Int32))) := Fld.same W329 f319
  have N329 := Fr.snoc X329 N309 gb_a1
  have K329 : Keep h0 h329 [a1, bud, pool, start, hash, table, enc] := K309.wr W329 (Or.inl (by simp))
  have hVp : OwnA Z h329 x82 .byte n82' (iv' (cpv gE g82' 0 0 eL)) := by have q := f345; rw [hd0, hdl] at q; exact q
  have hg0 : ((updv g173' ((0 : Int32) + (1 : Int32)).toInt.toNat (psz + elen)) 0).toInt = 0 := by rw [own_u0 _ _ _ _ (by decide), hg173 0 (by decide)]; exact hs0
  have hg1 : ((updv g173' ((0 : Int32) + (1 : Int32)).toInt.toNat (psz + elen)) 1).toInt = eL := by rw [show (updv g173' ((0 : Int32) + (1 : Int32)).toInt.toNat (psz + elen)) 1 = psz + elen from own_u1 _ 1 _]; omega
  have hSA : SA1 Z h329 kk a1 eL gE eL gE := ⟨x82, (psz + elen), x173, x242, x57, enc, elen, next, ((0 : Int32) + (1 : Int32)), bud, u242, nE, n82', n173', n242', z3_75.toInt.toNat, _, (cpv gE g82' 0 0 eL), (updv g173' ((0 : Int32) + (1 : Int32)).toInt.toNat (psz + elen)), (updv g242' 0 w53), ⟨f330, f331, f332, f333, f334, f335, f336, f337, f338, Fw329, f339⟩, ⟨f340, f341, f342⟩, hVp, f346, f347, f344, f343, hBy, own_cplb _ _ _ _ hBy hBy82, ⟨hD.1, (Ne.symm ne82_83), (Ne.symm ne82_84), (Ne.symm ne173_174), (Ne.symm ne173_175), (Ne.symm ne173_179), (Ne.symm ne242_243), (Ne.symm ne242_244), (Ne.symm ne242_247), (Ne.symm ne242_248), (Ne.symm ne57_58), (Ne.symm ne57_59), ne82_88, ne173_178, ne242_246, hD.2.2.2.2.2.2.2.2.2.2.2.2.2.2.2.1, hD.2.2.2.2.2.2.2.2.2.2.2.2.2.2.2.2.1, ne82_87, ne173_177, ne242_245, ne57_64⟩, ⟨ge_a1, ge_bud, ge_x82, ge_x173, ge_x242, ge_x57, ge_enc⟩, heL, hle, hn, by omega, by omega, by omega, by decide, by omega, by omega, by omega, by omega, by decide, by omega, hg0, hg1, fun i hi => by have q := own_cpl0 gE g82' 0 eL i hi; rw [Nat.zero_add] at q; exact q, by omega, by omega⟩
  exact OwnG.retI X329 hx Bd.returns (BodyLoose.notSynchronized Bd) (hb hby d7_272) (by rw [e329]; exact ⟨rfl, N329, own_kb K329 (own_trS (P := fun x => kk ≤ x) ge_a1 (own_trS ge_bud (own_trS ge_pool (own_trS ge_start (own_trS ge_hash (own_trS ge_table (own_trS ge_enc own_tr0))))))), hSA⟩) (by decide) (by decide)
theorem own_t1 (j0 : Nat) (t1 z1 z2 : Int32) (h : ¬ updv (fun _ => (0 : Int32)) j0 t1 z1.toInt.toNat = 0) (hz : z2 = ((z1 + (1 : Int32)) &&& ((16 : Int32) - (1 : Int32)))) (h1 : 0 ≤ z1.toInt ∧ z1.toInt < 16) : updv (fun _ => (0 : Int32)) j0 t1 z2.toInt.toNat = 0 := by
  by_cases q : z1.toInt.toNat = j0
  · have a := x_iadd z1 1 (by have e : (1 : Int32).toInt = 1 := rfl; omega)
    have e : (1 : Int32).toInt = 1 := rfl
    have b := c_mask (z1 + (1 : Int32)) ((16 : Int32) - (1 : Int32)) 4 (by decide) (by decide)
    rw [← hz] at b
    exact own_u0 _ _ _ _ (by omega)
  · exact absurd (own_u0 _ _ _ _ q) h
theorem own_t2 (j0 : Nat) (t1 : Int32) (i : Nat) (h : ¬ updv (fun _ => (0 : Int32)) j0 t1 i = 0) : updv (fun _ => (0 : Int32)) j0 t1 i = t1 := by
  by_cases q : i = j0
  · rw [q]; exact own_u1 _ _ _
  · exact absurd (own_u0 _ _ _ _ q) h
theorem d7_51 : decode k7_ 51 = .ok (.aload_n 0, 1) := by decide +kernel
theorem d7_52 : decode k7_ 52 = .ok (.getfield 20, 3) := by decide +kernel
theorem d7_55 : decode k7_ 55 = .ok (.iload_n 3, 1) := by decide +kernel
theorem d7_56 : decode k7_ 56 = .ok (.iaload, 1) := by decide +kernel
theorem d7_57 : decode k7_ 57 = .ok (.iconst 1, 1) := by decide +kernel
theorem d7_58 : decode k7_ 58 = .ok (.isub, 1) := by decide +kernel
theorem d7_59 : decode k7_ 59 = .ok (.istore 4, 2) := by decide +kernel
theorem d7_61 : decode k7_ 61 = .ok (.aload_n 0, 1) := by decide +kernel
theorem d7_62 : decode k7_ 62 = .ok (.getfield 17, 3) := by decide +kernel
theorem d7_65 : decode k7_ 65 = .ok (.iload 4, 2) := by decide +kernel
theorem d7_67 : decode k7_ 67 = .ok (.iaload, 1) := by decide +kernel
theorem d7_68 : decode k7_ 68 = .ok (.iload_n 1, 1) := by decide +kernel
theorem d7_69 : decode k7_ 69 = .ok (.if_icmp .ne 41, 3) := by decide +kernel
theorem d7_72 : decode k7_ 72 = .ok (.aload_n 0, 1) := by decide +kernel
theorem d7_73 : decode k7_ 73 = .ok (.getfield 7, 3) := by decide +kernel
theorem d7_76 : decode k7_ 76 = .ok (.aload_n 0, 1) := by decide +kernel
theorem d7_77 : decode k7_ 77 = .ok (.getfield 13, 3) := by decide +kernel
theorem d7_80 : decode k7_ 80 = .ok (.iload 4, 2) := by decide +kernel
theorem d7_82 : decode k7_ 82 = .ok (.iaload, 1) := by decide +kernel
theorem d7_83 : decode k7_ 83 = .ok (.aload_n 0, 1) := by decide +kernel
theorem d7_84 : decode k7_ 84 = .ok (.getfield 13, 3) := by decide +kernel
theorem d7_87 : decode k7_ 87 = .ok (.iload 4, 2) := by decide +kernel
theorem d7_89 : decode k7_ 89 = .ok (.iconst 1, 1) := by decide +kernel
theorem d7_90 : decode k7_ 90 = .ok (.iadd, 1) := by decide +kernel
theorem d7_91 : decode k7_ 91 = .ok (.iaload, 1) := by decide +kernel
theorem d7_92 : decode k7_ 92 = .ok (.aload_n 0, 1) := by decide +kernel
theorem d7_93 : decode k7_ 93 = .ok (.getfield 23, 3) := by decide +kernel
theorem d7_96 : decode k7_ 96 = .ok (.iconst 0, 1) := by decide +kernel
theorem d7_97 : decode k7_ 97 = .ok (.aload_n 0, 1) := by decide +kernel
theorem d7_98 : decode k7_ 98 = .ok (.getfield 54, 3) := by decide +kernel
theorem d7_101 : decode k7_ 101 = .ok (.invokestatic 57, 3) := by decide +kernel
theorem d7_104 : decode k7_ 104 = .ok (.ifCond .eq 6, 3) := by decide +kernel
theorem d7_107 : decode k7_ 107 = .ok (.iload 4, 2) := by decide +kernel
theorem d7_109 : decode k7_ 109 = .ok (.ireturn, 1) := by decide +kernel
theorem d7_110 : decode k7_ 110 = .ok (.iload_n 3, 1) := by decide +kernel
theorem d7_111 : decode k7_ 111 = .ok (.iconst 1, 1) := by decide +kernel
theorem d7_112 : decode k7_ 112 = .ok (.iadd, 1) := by decide +kernel
theorem d7_113 : decode k7_ 113 = .ok (.iload_n 2, 1) := by decide +kernel
theorem d7_114 : decode k7_ 114 = .ok (.iand, 1) := by decide +kernel
theorem d7_115 : decode k7_ 115 = .ok (.istore_n 3, 1) := by decide +kernel
theorem d7_116 : decode k7_ 116 = .ok (.goto (-74), 3) := by decide +kernel
theorem pd_7B_0 : parseMethodDescriptor "()I" = some ⟨[], some .int⟩ := by decide +kernel
theorem pd_7B_1 : parseMethodDescriptor "([BJ)[B" = some ⟨[(.array .byte), .long], some (.array .byte)⟩ := by decide +kernel
theorem pd_7B_2 : parseMethodDescriptor "([IJ)[I" = some ⟨[(.array .int), .long], some (.array .int)⟩ := by decide +kernel
theorem pd_7B_3 : parseMethodDescriptor "([BII[BII)Z" = some ⟨[(.array .byte), .int, .int, (.array .byte), .int, .int], some .boolean⟩ := by decide +kernel
def Q7B (Z : State) (a1 : Addr) (kk e0' : Nat) (gX : Nat → Int32) (eL : Nat) (gE : Nat → Int32) (h0 : Heap) (n0 : Nat) (v : Option Value) (h : Heap) (L : List Loc) : Prop := ∃ m : Int32, v = some (.int m) ∧ Fr n0 L ∧ KeepB h0 h kk ∧ SD Z h h.size a1 m eL gE ∧ SD Z h h.size a1 0 e0' gX
set_option maxRecDepth 65536 in
set_option maxHeartbeats 40000000 in
theorem rm7B (l : Launch) (Z : State) (a0 : Array Value) (hw : HW a0 Z) (ws : List Jvm.Cond) (a1 : Addr) (kk e0' : Nat) (gX : Nat → Int32) (eL : Nat) (gE : Nat → Int32) (h0 : Heap) (n0 : Nat) (Z0 : n0 ≤ h0.size) (hkk : n0 ≤ kk) (hS : SA1 Z h0 kk a1 e0' gX eL gE) (h40 : e0' + eL ≤ 40) (h7 : e0' = eL → eL ≤ 7) :
    MetFree l mn_7 (head1 (Jvm.Cond.code mn_7 prog_31_method_5_code 5 (some .int) :: ws) ({ frames := 3, cells := 3, slots := 300, locals := 60 } : Room)) (fun a U => a = #[(.ref a1)] ∧ Z.Warmed39 U.vm ∧ U.heap = h0) (fun _ _ _ _ _ => True) (fun _ U o U' => ∃ v L, o = .returned v ∧ Q7B Z a1 kk e0' gX eL gE h0 n0 v U'.heap L ∧ FrameEnd U o U' L ({ frames := 3, cells := 3, slots := 300, locals := 60 } : Room).cells ({ frames := 3, cells := 3, slots := 300, locals := 60 } : Room).slots) := by
  refine MetFree.of_bodySF (plainFor_of_name pn_7) hisR ?_
  intro p e s m args below meth c s₁ Bd hml0 hP hK
  obtain ⟨rfl, hZ, hh⟩ := hP
  have hx := Bd.exec
  have hby := Bd.bytes
  have H := And.intro hx hby
  have hml : c.maxLocals = 5 := hml0
  have hown : s.vm.findClass "com/example/deft_nets/deftnets/MarkingStore" = some m.cls := findClass_of_methodNamed Bd.named
  have hnm := (name_of_methodNamed Bd.named Bd.method).1
  have X0 : Stand p l e ({ frames := 3, cells := 3, slots := 300, locals := 60 } : Room) s m #[(.ref a1)] below meth c s₁ [] 0 0 := Stand.of_body Bd
  have e0 : s₁.heap = h0 := by rw [← hh, Bd.state]; rfl
  have N0 := Fr.nil n0
  suffices hG : OwnG p e below s (Q7B Z a1 kk e0' gX eL gE h0 n0) ({ frames := 3, cells := 3, slots := 300, locals := 60 } : Room).cells ({ frames := 3, cells := 3, slots := 300, locals := 60 } : Room).slots s₁ (mkF m 0 #[.val (.ref a1), .unset, .unset, .unset, .unset] []) by
    obtain ⟨s2, o2, g1, g2⟩ := hG
    exact ⟨s2, o2, castTop (ef_7 m a1) g1, g2⟩
  obtain ⟨pool, psz, start, hash, table, enc, elen, next, size, bud, used, nE, nP, nS, nH, j0, t1, gP, gS, gH, hM, hB, A_p, A_s, A_h, A_t, A_e, hBy, hBP, hD, hG, heL, hle, hn, hps, hle0, hnP, hsz, hnS, hnS2, hnH, hnH2, ht1, hj0, hs0, hs1, hX, hu0, hu1⟩ := hS
  have ge_a1 : LeA (kk) (a1) := hG.1
  have ge_bud : LeA (kk) (bud) := hG.2.1
  have ge_pool : LeA (kk) (pool) := hG.2.2.1
  have ge_start : LeA (kk) (start) := hG.2.2.2.1
  have ge_hash : LeA (kk) (hash) := hG.2.2.2.2.1
  have ge_table : LeA (kk) (table) := hG.2.2.2.2.2.1
  have ge_enc : LeA (kk) (enc) := hG.2.2.2.2.2.2
  have gb_a1 : LeA (n0) (a1) := Nat.le_trans hkk ge_a1
  have gb_bud : LeA (n0) (bud) := Nat.le_trans hkk ge_bud
  have gb_pool : LeA (n0) (pool) := Nat.le_trans hkk ge_pool
  have gb_start : LeA (n0) (start) := Nat.le_trans hkk ge_start
  have gb_hash : LeA (n0) (hash) := Nat.le_trans hkk ge_hash
  have gb_table : LeA (n0) (table) := Nat.le_trans hkk ge_table
  obtain ⟨EMS_51, FMS0_51, FMS1_51, FMS2_51, FMS3_51, FMS4_51, FMS5_51, FMS6_51, FMS7_51, FMS8_51, FMS9_51⟩ := hM
  obtain ⟨EBG_52, FBG0_52, FBG1_52⟩ := hB
  have hkz : kk ≤ h0.size := Nat.le_of_lt (Nat.lt_of_le_of_lt ge_a1 (Exa.lt EMS_51))
  have he : 0 ≤ elen.toInt ∧ elen.toInt ≤ nE := by omega
  have e1 : (1 : Int32).toInt = 1 := rfl
  have e2 : (2 : Int64).toInt = 2 := rfl
  have e1L : (1 : Int64).toInt = 1 := rfl
  have c_el := c_i2l elen
  have c_ps := c_i2l psz
  have c_sz := c_i2l size
  have z0 : (0 : Int32).toInt = 0 := rfl
  have hdl : elen.toInt.toNat = eL := by omega
  have hszz : size.toInt = 1 := by rw [hsz]; rfl
  have hps' := x_iadd psz elen (by omega)
  have hdp : psz.toInt.toNat = e0' := by omega
  have hsz1 := x_iadd size 1 (by omega)
  have hsn : size.toInt.toNat = 1 := by omega
  have hsn2 : (size + (1 : Int32)).toInt.toNat = 2 := by omega
  refine OwnG.st (y_aloadN X0 H d7_0 rfl) ?_
  obtain ⟨cq53, qc53, qd53⟩ := EMS_51.cell
  refine OwnG.cm 4 0 0 X0 (X0.privateBack hx (y := mn_8) hown (mvT hZ (ww hw 67 rfl)) (mvT hZ (ww hw 68 rfl)) (mvT hZ (own_selP (y := mn_8) (y0 := mn_5) rfl (ww hw 52 rfl) (ww hw 68 rfl) (ww hw 69 rfl) (by decide))) (Cond.privateMethod_at (mvP hZ (ww hw 69 rfl) (args := #[]))) (mvT hZ (ww hw 70 rfl)) (by decide) (backOf (W := 0) (rm8 l Z a0 hw [] a1 enc elen nE gE h0 n0 Z0 FMS5_51 FMS6_51 A_e he hn) hZ (ww hw 70 rfl) (ww hw 10 rfl) (by decide) (by decide)) (g := mkF m 1 _ _) rfl (by rw [hml]; rfl) (Steps.refl _) (a := a1) (by rw [e0]; exact qc53) qd53 (argsL := []) (rest := []) (lenOf pd_7B_0 rfl) rfl (by show 2 * 0 + _ ≤ _; exact Nat.le_of_eq rfl) (hb hby d7_1) (fun _ _ => ⟨rfl, e0, (by decide : 0 + 0 ≤ _), (by decide : 0 + 0 ≤ _)⟩)) rfl rfl ?_
  intro T53 Lc53 vc53 X53 hQ53
  obtain ⟨w53, hv53, N53q, e53⟩ := hQ53
  have N53 := Fr.app N0 N53q
  refine OwnG.cv hv53 ?_
  clear hv53
  refine OwnG.st (y_istoreN X53 H #[.val (.ref a1), .val (.int w53), .unset, .unset, .unset] d7_4 rfl) ?_
  refine OwnG.st (y_ldc2 X53 H hown (mvT hZ (ww hw 74 rfl)) d7_5) ?_
  refine OwnG.st (y_aloadN X53 H d7_8 rfl) ?_
  refine OwnG.v1 12 (getF X53 hx hZ hown (host := "") (Or.inl (ww hw 75 rfl)) Via.refl e53 FMS8_51 (g := mkF m 9 _ _) rfl rfl (hb hby d7_9)) ?_
  intro T54 X54 e54
  refine OwnG.st (y_iconst X54 H (1) d7_12 rfl) ?_
  refine OwnG.st (y_iadd X54 H d7_13) ?_
  refine OwnG.st (y_i2l X54 H d7_14) ?_
  refine OwnG.st (y_lmul X54 H d7_15) ?_
  refine OwnG.st (y_aloadN X54 H d7_16 rfl) ?_
  refine OwnG.v1 20 (getF X54 hx hZ hown (host := "") (Or.inl (ww hw 43 rfl)) Via.refl e54 FMS4_51 (g := mkF m 17 _ _) rfl rfl (hb hby d7_17)) ?_
  intro T55 X55 e55
  have hc23_56 : ¬ (((16 : Int32).toInt64) < ((2 : Int64) * ((size + (1 : Int32)).toInt64))) := by rw [hsz]; decide
  refine OwnG.st (y_len A_t X55 H hZ e55 d7_20 (16 : Int32) rfl) ?_
  refine OwnG.st (y_i2l X55 H d7_21) ?_
  refine OwnG.st (y_lcmp X55 H d7_22) ?_
  refine OwnG.st (y_ifY X55 H 30 d7_23 ((if0 _ _).trans (flt (mt (lw_gt ((2 : Int64) * ((size + (1 : Int32)).toInt64)) ((16 : Int32).toInt64)).mp hc23_56)).2.2.2) (by decide) (by decide)) ?_
  refine OwnG.st (y_aloadN X55 H d7_30 rfl) ?_
  refine OwnG.v1 34 (getF X55 hx hZ hown (host := "") (Or.inl (ww hw 43 rfl)) Via.refl e55 FMS4_51 (g := mkF m 31 _ _) rfl rfl (hb hby d7_31)) ?_
  intro T57 X57 e57
  refine OwnG.st (y_len A_t X57 H hZ e57 d7_34 (16 : Int32) rfl) ?_
  refine OwnG.st (y_iconst X57 H (1) d7_35 rfl) ?_
  refine OwnG.st (y_isub X57 H d7_36) ?_
  refine OwnG.st (y_istoreN X57 H #[.val (.ref a1), .val (.int w53), .val (.int ((16 : Int32) - (1 : Int32))), .unset, .unset] d7_37 rfl) ?_
  refine OwnG.st (y_iloadN X57 H d7_38 rfl) ?_
  refine OwnG.st (y_iloadN X57 H d7_39 rfl) ?_
  refine OwnG.st (y_iand X57 H d7_40) ?_
  refine OwnG.st (y_istoreN X57 H #[.val (.ref a1), .val (.int w53), .val (.int ((16 : Int32) - (1 : Int32))), .val (.int (w53 &&& ((16 : Int32) - (1 : Int32)))), .unset] d7_41 rfl) ?_
  show OwnG p e below s _ _ _ T57 (mkF m 42 #[.val (.ref a1), .val (.int w53), .val (.int ((16 : Int32) - (1 : Int32))), .val (.int (w53 &&& ((16 : Int32) - (1 : Int32)))), .unset] [])
  obtain ⟨z3_58, hz3_58⟩ : ∃ w : Int32, w = (w53 &&& ((16 : Int32) - (1 : Int32))) := ⟨_, rfl⟩
  rw [← hz3_58]
  have hix_z3_58 : 0 ≤ z3_58.toInt ∧ z3_58.toInt < 16 := by rw [hz3_58]; exact own_idx _
  refine OwnG.st (y_aloadN X57 H d7_42 rfl) ?_
  refine OwnG.v1 46 (getF X57 hx hZ hown (host := "") (Or.inl (ww hw 43 rfl)) Via.refl e57 FMS4_51 (g := mkF m 43 _ _) rfl rfl (hb hby d7_43)) ?_
  intro T59 X59 e59
  refine OwnG.st (y_iloadN X59 H d7_46 rfl) ?_
  refine OwnG.st (y_ldI A_t X59 H hZ e59 hix_z3_58.1 hix_z3_58.2 d7_47 ((updv (fun _ => 0) j0 t1) z3_58.toInt.toNat) rfl) ?_
  by_cases hc48_60 : ((updv (fun _ => 0) j0 t1) z3_58.toInt.toNat) = (0 : Int32)
  · refine OwnG.st (y_ifY X59 H 119 d7_48 ((if0 _ _).trans (teq hc48_60).1) (by decide) (by decide)) ?_
    refine OwnG.st (y_aloadN X59 H d7_119 rfl) ?_
    refine OwnG.st (y_aloadN X59 H d7_120 rfl) ?_
    refine OwnG.v1 124 (getF X59 hx hZ hown (host := "") (Or.inl (ww hw 47 rfl)) Via.refl e59 FMS9_51 (g := mkF m 121 _ _) rfl rfl (hb hby d7_121)) ?_
    intro T61 X61 e61
    refine OwnG.st (y_aloadN X61 H d7_124 rfl) ?_
    refine OwnG.v1 128 (getF X61 hx hZ hown (host := "") (Or.inl (ww hw 37 rfl)) Via.refl e61 FMS0_51 (g := mkF m 125 _ _) rfl rfl (hb hby d7_125)) ?_
    intro T62 X62 e62
    refine OwnG.st (y_aloadN X62 H d7_128 rfl) ?_
    refine OwnG.v1 132 (getF X62 hx hZ hown (host := "") (Or.inl (ww hw 94 rfl)) Via.refl e62 FMS1_51 (g := mkF m 129 _ _) rfl rfl (hb hby d7_129)) ?_
    intro T63 X63 e63
    refine OwnG.st (y_i2l X63 H d7_132) ?_
    refine OwnG.st (y_aloadN X63 H d7_133 rfl) ?_
    refine OwnG.v1 137 (getF X63 hx hZ hown (host := "") (Or.inl (ww hw 59 rfl)) Via.refl e63 FMS6_51 (g := mkF m 134 _ _) rfl rfl (hb hby d7_134)) ?_
    intro T64 X64 e64
    refine OwnG.st (y_i2l X64 H d7_137) ?_
    refine OwnG.st (y_ladd X64 H d7_138) ?_
    have hga := x_ladd psz.toInt64 elen.toInt64 (by omega)
    obtain ⟨cq65, kq65, q65a, q65b, q65c⟩ := isOf hZ e64 EBG_52
    refine OwnG.cm 142 1 100 X64 (X64.virtualBack hx (y := mn_12) (z := mn_12) hown (mvT hZ (ww hw 96 rfl)) (mvT hZ (ww hw 97 rfl)) (notFace_of_selects (args := #[]) (mvT hZ (ww hw 99 rfl))) (mvT hZ (ww hw 99 rfl)) (mvT hZ (ww hw 98 rfl)) (by decide) (backOf (W := 1) (rm12 l Z a0 hw [] bud pool ((psz.toInt64) + (elen.toInt64)) used nP gP h0 n0 Z0 gb_bud ⟨EBG_52, FBG0_52, FBG1_52⟩ A_p hD.2.2.1 (by omega) hnP (by omega) hBP) hZ (ww hw 100 rfl) (ww hw 13 rfl) (by decide) (by decide)) q65a q65c (g := mkF m 139 _ _) rfl (by rw [hml]; rfl) (Steps.refl _) (argsL := [(.ref pool), (.long ((psz.toInt64) + (elen.toInt64)))]) (rest := [(.ref a1)]) (lenOf pd_7B_1 rfl) rfl (by show 2 * 0 + _ ≤ _; exact Nat.le_of_eq rfl) (hb hby d7_139) (fun _ _ => ⟨rfl, e64, (by decide : 0 + 1 ≤ _), (by decide : 0 + 100 ≤ _)⟩)) rfl rfl ?_
    intro T65 Lc65 vc65 X65 hQ65
    obtain ⟨x65, n65', g65', u65, hv65, N65q, Kq65, B65q, Vq65, sx65, hn65a, hn65b, hn65c, hg65, hBy65, hu65a, hu65b⟩ := hQ65
    have ne65_66 : NeA a1 x65 := Or.elim sx65 (fun q => by rw [q]; exact (Ne.symm hD.2.1)) (fun q => Nat.ne_of_lt (Nat.lt_of_lt_of_le (Exa.lt EMS_51) q))
    have ne65_67 : NeA bud x65 := Or.elim sx65 (fun q => by rw [q]; exact (Ne.symm hD.2.2.1)) (fun q => Nat.ne_of_lt (Nat.lt_of_lt_of_le (Exa.lt EBG_52) q))
    have ne65_68 : NeA start x65 := Or.elim sx65 (fun q => by rw [q]; exact hD.2.2.2.2.2.1) (fun q => Nat.ne_of_lt (Nat.lt_of_lt_of_le A_s.lt q))
    have ne65_69 : NeA hash x65 := Or.elim sx65 (fun q => by rw [q]; exact hD.2.2.2.2.2.2.2.2.1) (fun q => Nat.ne_of_lt (Nat.lt_of_lt_of_le A_h.lt q))
    have ne65_70 : NeA table x65 := Or.elim sx65 (fun q => by rw [q]; exact hD.2.2.2.2.2.2.2.2.2.2.2.2.1) (fun q => Nat.ne_of_lt (Nat.lt_of_lt_of_le A_t.lt q))
    have inw_x65 : x65 ∈ [a1, bud, pool, start, hash, table, enc] ∨ h0.size ≤ x65 := Or.elim sx65 (fun q => by rw [q]; exact Or.inl (by simp)) (fun q => Or.inr (Nat.le_trans (Keep.refl h0 [a1, bud, pool, start, hash, table, enc]).1 q))
    have gb_x65 : LeA (n0) (x65) := Or.elim sx65 (fun q => by rw [q]; exact gb_pool) (fun q => Nat.le_trans Z0 q)
    have Z65 : LeA (n0) (T65.heap.size) := Nat.le_trans Z0 Kq65.1
    have f72 := Exa.keep EMS_51 Kq65
    have f73 := Fld.keep FMS0_51 Kq65 (ninS (Ne.symm hD.1) nin0)
    have f74 := Fld.keep FMS1_51 Kq65 (ninS (Ne.symm hD.1) nin0)
    have f75 := Fld.keep FMS2_51 Kq65 (ninS (Ne.symm hD.1) nin0)
    have f76 := Fld.keep FMS3_51 Kq65 (ninS (Ne.symm hD.1) nin0)
    have f77 := Fld.keep FMS4_51 Kq65 (ninS (Ne.symm hD.1) nin0)
    have f78 := Fld.keep FMS5_51 Kq65 (ninS (Ne.symm hD.1) nin0)
    have f79 := Fld.keep FMS6_51 Kq65 (ninS (Ne.symm hD.1) nin0)
    have f80 := Fld.keep FMS7_51 Kq65 (ninS (Ne.symm hD.1) nin0)
    have f81 := Fld.keep FMS8_51 Kq65 (ninS (Ne.symm hD.1) nin0)
    have f82 := Fld.keep FMS9_51 Kq65 (ninS (Ne.symm hD.1) nin0)
    have f85 := A_s.keep Kq65 (ninS hD.2.2.2.2.1 nin0)
    have f86 := A_h.keep Kq65 (ninS hD.2.2.2.2.2.2.2.1 nin0)
    have f87 := A_t.keep Kq65 (ninS hD.2.2.2.2.2.2.2.2.2.2.2.1 nin0)
    have f88 := A_e.keep Kq65 (ninS hD.2.2.2.2.2.2.2.2.2.2.2.2.2.2.2.2.1 nin0)
    have K65 : Keep h0 T65.heap [a1, bud, pool, start, hash, table, enc] := (Keep.refl h0 [a1, bud, pool, start, hash, table, enc]).trans Kq65 (own_trS (P := fun x => x ∈ [a1, bud, pool, start, hash, table, enc] ∨ h0.size ≤ x) (Or.inl (by simp)) own_tr0)
    obtain ⟨EBG_89, FBG0_89, FBG1_89⟩ := B65q
    have N65 := Fr.app N53 N65q
    refine OwnG.cv hv65 ?_
    clear hv65
    refine OwnG.v2 145 (putF X65 hx hZ hown (host := "") (Or.inl (ww hw 37 rfl)) Via.refl rfl f73 f72 (Or.inl (ww hw 38 rfl)) (ww hw 9 rfl) (ty := (.array .byte)) (by decide) rfl rfl (g := mkF m 142 _ _) rfl rfl (hb hby d7_142)) ?_
    intro T90 h90 X90 e90 W90
    have f91 := Exa.wr W90 f72
    have f92 := Fld.other W90 f74 (Or.inr (sn_37 hw))
    have f93 := Fld.other W90 f75 (Or.inr (sn_38 hw))
    have f94 := Fld.other W90 f76 (Or.inr (sn_39 hw))
    have f95 := Fld.other W90 f77 (Or.inr (sn_40 hw))
    have f96 := Fld.other W90 f78 (Or.inr (sn_41 hw))
    have f97 := Fld.other W90 f79 (Or.inr (sn_42 hw))
    have f98 := Fld.other W90 f80 (Or.inr (sn_43 hw))
    have f99 := Fld.other W90 f81 (Or.inr (sn_44 hw))
    have f100 := Fld.other W90 f82 (Or.inr (sn_45 hw))
    have f101 := Exa.wr W90 EBG_89
    have f102 := Fld.other W90 FBG0_89 (Or.inl hD.1)
    have f103 := Fld.other W90 FBG1_89 (Or.inl hD.1)
    have f104 := f85.other W90 hD.2.2.2.1
    have f105 := f86.other W90 hD.2.2.2.2.2.2.1
    have f106 := f87.other W90 hD.2.2.2.2.2.2.2.2.2.2.1
    have f107 := f88.other W90 hD.2.2.2.2.2.2.2.2.2.2.2.2.2.2.2.1
    have f108 := Vq65.other W90 (Ne.symm ne65_66)
    have Fw90 : Fld Z h90 a1 "com/example/deft_nets/deftnets/MarkingStore" "mPool" "[B" (.ref x65) := Fld.same W90 f73
    have N90 := Fr.snoc X90 N65 gb_a1
    have Z90 : LeA (n0) (h90.size) := by rw [W90.size]; exact Z65
    have K90 : Keep h0 h90 [a1, bud, pool, start, hash, table, enc] := K65.wr W90 (Or.inl (by simp))
    refine OwnG.st (y_aloadN X90 H d7_145 rfl) ?_
    refine OwnG.v1 149 (getF X90 hx hZ hown (host := "") (Or.inl (ww hw 45 rfl)) Via.refl e90 f96 (g := mkF m 146 _ _) rfl rfl (hb hby d7_146)) ?_
    intro T109 X109 e109
    refine OwnG.st (y_iconst X109 H (0) d7_149 rfl) ?_
    refine OwnG.st (y_aloadN X109 H d7_150 rfl) ?_
    refine OwnG.v1 154 (getF X109 hx hZ hown (host := "") (Or.inl (ww hw 37 rfl)) Via.refl e109 Fw90 (g := mkF m 151 _ _) rfl rfl (hb hby d7_151)) ?_
    intro T110 X110 e110
    refine OwnG.st (y_aloadN X110 H d7_154 rfl) ?_
    refine OwnG.v1 158 (getF X110 hx hZ hown (host := "") (Or.inl (ww hw 94 rfl)) Via.refl e110 f92 (g := mkF m 155 _ _) rfl rfl (hb hby d7_155)) ?_
    intro T111 X111 e111
    refine OwnG.st (y_aloadN X111 H d7_158 rfl) ?_
    refine OwnG.v1 162 (getF X111 hx hZ hown (host := "") (Or.inl (ww hw 59 rfl)) Via.refl e111 f97 (g := mkF m 159 _ _) rfl rfl (hb hby d7_159)) ?_
    intro T112 X112 e112
    refine OwnG.v6 165 (own_cp f107 f108 (by omega) (by omega) (Or.inr ⟨rfl, hBy, hBy65⟩) X112 hx hZ hown (ww hw 101 rfl) (ww hw 104 rfl) (ww hw 102 rfl) (ww hw 103 rfl) e112 (by decide) (by omega) (by omega) (by show (0 : Int) + _ ≤ _; omega) (by omega) N90 gb_x65 (gf := mkF m 162 _ _) rfl (by rw [hml]; rfl) (rest := []) rfl (hb hby d7_162) (by decide) (W := 0) (by show 2 * 0 + _ ≤ _; exact Nat.le_of_eq rfl) (by decide)) ?_
    intro T113 h113 L113 X113 e113 N113 Kc113 V113
    have V113' : OwnA Z h113 x65 .byte n65' (iv' (cpv gE g65' 0 psz.toInt.toNat elen.toInt.toNat)) := V113
    have Z113 : LeA (n0) (h113.size) := Nat.le_trans Z90 Kc113.1
    have f114 := Exa.keep f91 Kc113
    have f115 := Fld.keep Fw90 Kc113 (ninS ne65_66 nin0)
    have f116 := Fld.keep f92 Kc113 (ninS ne65_66 nin0)
    have f117 := Fld.keep f93 Kc113 (ninS ne65_66 nin0)
    have f118 := Fld.keep f94 Kc113 (ninS ne65_66 nin0)
    have f119 := Fld.keep f95 Kc113 (ninS ne65_66 nin0)
    have f120 := Fld.keep f96 Kc113 (ninS ne65_66 nin0)
    have f121 := Fld.keep f97 Kc113 (ninS ne65_66 nin0)
    have f122 := Fld.keep f98 Kc113 (ninS ne65_66 nin0)
    have f123 := Fld.keep f99 Kc113 (ninS ne65_66 nin0)
    have f124 := Fld.keep f100 Kc113 (ninS ne65_66 nin0)
    have f125 := Exa.keep f101 Kc113
    have f126 := Fld.keep f102 Kc113 (ninS ne65_67 nin0)
    have f127 := Fld.keep f103 Kc113 (ninS ne65_67 nin0)
    have f128 := f104.keep Kc113 (ninS ne65_68 nin0)
    have f129 := f105.keep Kc113 (ninS ne65_69 nin0)
    have f130 := f106.keep Kc113 (ninS ne65_70 nin0)
    have K113 : Keep h0 h113 [a1, bud, pool, start, hash, table, enc] := K90.trans Kc113 (own_trS (P := fun x => x ∈ [a1, bud, pool, start, hash, table, enc] ∨ h0.size ≤ x) (inw_x65) own_tr0)
    refine OwnG.st (y_aloadN X113 H d7_165 rfl) ?_
    refine OwnG.st (y_dup X113 H d7_166 rfl) ?_
    refine OwnG.v1 170 (getF X113 hx hZ hown (host := "") (Or.inl (ww hw 94 rfl)) Via.refl e113 f116 (g := mkF m 167 _ _) rfl rfl (hb hby d7_167)) ?_
    intro T132 X132 e132
    refine OwnG.st (y_aloadN X132 H d7_170 rfl) ?_
    refine OwnG.v1 174 (getF X132 hx hZ hown (host := "") (Or.inl (ww hw 59 rfl)) Via.refl e132 f121 (g := mkF m 171 _ _) rfl rfl (hb hby d7_171)) ?_
    intro T133 X133 e133
    refine OwnG.st (y_iadd X133 H d7_174) ?_
    refine OwnG.v2 178 (putF X133 hx hZ hown (host := "") (Or.inl (ww hw 94 rfl)) Via.refl e133 f116 f114 (Or.inl (ww hw 95 rfl)) (ww hw 9 rfl) (ty := .int) (by decide) rfl rfl (g := mkF m 175 _ _) rfl rfl (hb hby d7_175)) ?_
    intro T134 h134 X134 e134 W134
    have f135 := Exa.wr W134 f114
    have f136 := Fld.other W134 f115 (Or.inr (sn_46 hw))
    have f137 := Fld.other W134 f117 (Or.inr (sn_47 hw))
    have f138 := Fld.other W134 f118 (Or.inr (sn_48 hw))
    have f139 := Fld.other W134 f119 (Or.inr (sn_49 hw))
    have f140 := Fld.other W134 f120 (Or.inr (sn_50 hw))
    have f141 := Fld.other W134 f121 (Or.inr (sn_51 hw))
    have f142 := Fld.other W134 f122 (Or.inr (sn_52 hw))
    have f143 := Fld.other W134 f123 (Or.inr (sn_53 hw))
    have f144 := Fld.other W134 f124 (Or.inr (sn_54 hw))
    have f145 := Exa.wr W134 f125
    have f146 := Fld.other W134 f126 (Or.inl hD.1)
    have f147 := Fld.other W134 f127 (Or.inl hD.1)
    have f148 := f128.other W134 hD.2.2.2.1
    have f149 := f129.other W134 hD.2.2.2.2.2.2.1
    have f150 := f130.other W134 hD.2.2.2.2.2.2.2.2.2.2.1
    have f152 := V113'.other W134 (Ne.symm ne65_66)
    have Fw134 : Fld Z h134 a1 "com/example/deft_nets/deftnets/MarkingStore" "mPoolSize" "I" (.int (psz + elen)) := Fld.same W134 f116
    have N134 := Fr.snoc X134 N113 gb_a1
    have Z134 : LeA (n0) (h134.size) := by rw [W134.size]; exact Z113
    have K134 : Keep h0 h134 [a1, bud, pool, start, hash, table, enc] := K113.wr W134 (Or.inl (by simp))
    refine OwnG.st (y_aloadN X134 H d7_178 rfl) ?_
    refine OwnG.st (y_aloadN X134 H d7_179 rfl) ?_
    refine OwnG.v1 183 (getF X134 hx hZ hown (host := "") (Or.inl (ww hw 47 rfl)) Via.refl e134 f144 (g := mkF m 180 _ _) rfl rfl (hb hby d7_180)) ?_
    intro T153 X153 e153
    refine OwnG.st (y_aloadN X153 H d7_183 rfl) ?_
    refine OwnG.v1 187 (getF X153 hx hZ hown (host := "") (Or.inl (ww hw 39 rfl)) Via.refl e153 f137 (g := mkF m 184 _ _) rfl rfl (hb hby d7_184)) ?_
    intro T154 X154 e154
    refine OwnG.st (y_aloadN X154 H d7_187 rfl) ?_
    refine OwnG.v1 191 (getF X154 hx hZ hown (host := "") (Or.inl (ww hw 75 rfl)) Via.refl e154 f143 (g := mkF m 188 _ _) rfl rfl (hb hby d7_188)) ?_
    intro T155 X155 e155
    refine OwnG.st (y_i2l X155 H d7_191) ?_
    refine OwnG.st (y_ldc2 X155 H hown (mvT hZ (ww hw 74 rfl)) d7_192) ?_
    refine OwnG.st (y_ladd X155 H d7_195) ?_
    have hgb := x_ladd size.toInt64 2 (by omega)
    obtain ⟨cq156, kq156, q156a, q156b, q156c⟩ := isOf hZ e155 f145
    refine OwnG.cm 199 2 200 X155 (X155.virtualBack hx (y := mn_13) (z := mn_13) hown (mvT hZ (ww hw 105 rfl)) (mvT hZ (ww hw 106 rfl)) (notFace_of_selects (args := #[]) (mvT hZ (ww hw 108 rfl))) (mvT hZ (ww hw 108 rfl)) (mvT hZ (ww hw 107 rfl)) (by decide) (backOf (W := 1) (rm13 l Z a0 hw [] bud start ((size.toInt64) + (2 : Int64)) u65 nS gS h134 n0 Z134 gb_bud ⟨f145, f146, f147⟩ f148 hD.2.2.2.2.1 (by omega) hnS2 (by omega)) hZ (ww hw 109 rfl) (ww hw 13 rfl) (by decide) (by decide)) q156a q156c (g := mkF m 196 _ _) rfl (by rw [hml]; rfl) (Steps.refl _) (argsL := [(.ref start), (.long ((size.toInt64) + (2 : Int64)))]) (rest := [(.ref a1)]) (lenOf pd_7B_2 rfl) rfl (by show 2 * 0 + _ ≤ _; exact Nat.le_of_eq rfl) (hb hby d7_196) (fun _ _ => ⟨rfl, e155, (by decide : 1 + 1 ≤ _), (by decide : 100 + 100 ≤ _)⟩)) rfl rfl ?_
    intro T156 Lc156 vc156 X156 hQ156
    obtain ⟨x156, n156', g156', u156, hv156, N156q, Kq156, B156q, Vq156, sx156, hn156a, hn156b, hn156c, hg156, hu156a, hu156b⟩ := hQ156
    have ne156_157 : NeA a1 x156 := Or.elim sx156 (fun q => by rw [q]; exact (Ne.symm hD.2.2.2.1)) (fun q => Nat.ne_of_lt (Nat.lt_of_lt_of_le (Exa.lt f135) q))
    have ne156_158 : NeA bud x156 := Or.elim sx156 (fun q => by rw [q]; exact (Ne.symm hD.2.2.2.2.1)) (fun q => Nat.ne_of_lt (Nat.lt_of_lt_of_le (Exa.lt f145) q))
    have ne156_159 : NeA hash x156 := Or.elim sx156 (fun q => by rw [q]; exact hD.2.2.2.2.2.2.2.2.2.1) (fun q => Nat.ne_of_lt (Nat.lt_of_lt_of_le f149.lt q))
    have ne156_160 : NeA table x156 := Or.elim sx156 (fun q => by rw [q]; exact hD.2.2.2.2.2.2.2.2.2.2.2.2.2.1) (fun q => Nat.ne_of_lt (Nat.lt_of_lt_of_le f150.lt q))
    have ne156_162 : NeA x65 x156 := Or.elim sx156 (fun q => by rw [q]; exact (Ne.symm ne65_68)) (fun q => Nat.ne_of_lt (Nat.lt_of_lt_of_le f152.lt q))
    have inw_x156 : x156 ∈ [a1, bud, pool, start, hash, table, enc] ∨ h0.size ≤ x156 := Or.elim sx156 (fun q => by rw [q]; exact Or.inl (by simp)) (fun q => Or.inr (Nat.le_trans K134.1 q))
    have gb_x156 : LeA (n0) (x156) := Or.elim sx156 (fun q => by rw [q]; exact gb_start) (fun q => Nat.le_trans Z134 q)
    have Z156 : LeA (n0) (T156.heap.size) := Nat.le_trans Z134 Kq156.1
    have f163 := Exa.keep f135 Kq156
    have f164 := Fld.keep f136 Kq156 (ninS (Ne.symm hD.1) nin0)
    have f165 := Fld.keep Fw134 Kq156 (ninS (Ne.symm hD.1) nin0)
    have f166 := Fld.keep f137 Kq156 (ninS (Ne.symm hD.1) nin0)
    have f167 := Fld.keep f138 Kq156 (ninS (Ne.symm hD.1) nin0)
    have f168 := Fld.keep f139 Kq156 (ninS (Ne.symm hD.1) nin0)
    have f169 := Fld.keep f140 Kq156 (ninS (Ne.symm hD.1) nin0)
    have f170 := Fld.keep f141 Kq156 (ninS (Ne.symm hD.1) nin0)
    have f171 := Fld.keep f142 Kq156 (ninS (Ne.symm hD.1) nin0)
    have f172 := Fld.keep f143 Kq156 (ninS (Ne.symm hD.1) nin0)
    have f173 := Fld.keep f144 Kq156 (ninS (Ne.symm hD.1) nin0)
    have f176 := f149.keep Kq156 (ninS hD.2.2.2.2.2.2.2.1 nin0)
    have f177 := f150.keep Kq156 (ninS hD.2.2.2.2.2.2.2.2.2.2.2.1 nin0)
    have f179 := f152.keep Kq156 (ninS (Ne.symm ne65_67) nin0)
    have K156 : Keep h0 T156.heap [a1, bud, pool, start, hash, table, enc] := K134.trans Kq156 (own_trS (P := fun x => x ∈ [a1, bud, pool, start, hash, table, enc] ∨ h0.size ≤ x) (Or.inl (by simp)) own_tr0)
    obtain ⟨EBG_180, FBG0_180, FBG1_180⟩ := B156q
    have N156 := Fr.app N134 N156q
    refine OwnG.cv hv156 ?_
    clear hv156
    refine OwnG.v2 202 (putF X156 hx hZ hown (host := "") (Or.inl (ww hw 39 rfl)) Via.refl rfl f166 f163 (Or.inl (ww hw 40 rfl)) (ww hw 9 rfl) (ty := (.array .int)) (by decide) rfl rfl (g := mkF m 199 _ _) rfl rfl (hb hby d7_199)) ?_
    intro T181 h181 X181 e181 W181
    have f182 := Exa.wr W181 f163
    have f183 := Fld.other W181 f164 (Or.inr (sn_55 hw))
    have f184 := Fld.other W181 f165 (Or.inr (sn_56 hw))
    have f185 := Fld.other W181 f167 (Or.inr (sn_57 hw))
    have f186 := Fld.other W181 f168 (Or.inr (sn_58 hw))
    have f187 := Fld.other W181 f169 (Or.inr (sn_59 hw))
    have f188 := Fld.other W181 f170 (Or.inr (sn_60 hw))
    have f189 := Fld.other W181 f171 (Or.inr (sn_61 hw))
    have f190 := Fld.other W181 f172 (Or.inr (sn_62 hw))
    have f191 := Fld.other W181 f173 (Or.inr (sn_63 hw))
    have f192 := Exa.wr W181 EBG_180
    have f193 := Fld.other W181 FBG0_180 (Or.inl hD.1)
    have f194 := Fld.other W181 FBG1_180 (Or.inl hD.1)
    have f195 := f176.other W181 hD.2.2.2.2.2.2.1
    have f196 := f177.other W181 hD.2.2.2.2.2.2.2.2.2.2.1
    have f198 := f179.other W181 (Ne.symm ne65_66)
    have f199 := Vq156.other W181 (Ne.symm ne156_157)
    have Fw181 : Fld Z h181 a1 "com/example/deft_nets/deftnets/MarkingStore" "mStart" "[I" (.ref x156) := Fld.same W181 f166
    have N181 := Fr.snoc X181 N156 gb_a1
    have Z181 : LeA (n0) (h181.size) := by rw [W181.size]; exact Z156
    have K181 : Keep h0 h181 [a1, bud, pool, start, hash, table, enc] := K156.wr W181 (Or.inl (by simp))
    refine OwnG.st (y_aloadN X181 H d7_202 rfl) ?_
    refine OwnG.v1 206 (getF X181 hx hZ hown (host := "") (Or.inl (ww hw 39 rfl)) Via.refl e181 Fw181 (g := mkF m 203 _ _) rfl rfl (hb hby d7_203)) ?_
    intro T200 X200 e200
    refine OwnG.st (y_aloadN X200 H d7_206 rfl) ?_
    refine OwnG.v1 210 (getF X200 hx hZ hown (host := "") (Or.inl (ww hw 75 rfl)) Via.refl e200 f190 (g := mkF m 207 _ _) rfl rfl (hb hby d7_207)) ?_
    intro T201 X201 e201
    refine OwnG.st (y_iconst X201 H (1) d7_210 rfl) ?_
    refine OwnG.st (y_iadd X201 H d7_211) ?_
    refine OwnG.st (y_aloadN X201 H d7_212 rfl) ?_
    refine OwnG.v1 216 (getF X201 hx hZ hown (host := "") (Or.inl (ww hw 94 rfl)) Via.refl e201 f184 (g := mkF m 213 _ _) rfl rfl (hb hby d7_213)) ?_
    intro T202 X202 e202
    refine OwnG.v3 217 (own_stI f199 X202 hx hZ e202 (by omega) (by omega) (gf := mkF m 216 _ _) rfl rfl (hb hby d7_216)) ?_
    intro T203 h203 X203 e203 W203 V203
    have V203' : OwnA Z h203 x156 .int n156' (iv' (updv g156' (size + (1 : Int32)).toInt.toNat (psz + elen))) := V203
    have f204 := Exa.wr W203 f182
    have f205 := Fld.other W203 f183 (Or.inl ne156_157)
    have f206 := Fld.other W203 f184 (Or.inl ne156_157)
    have f207 := Fld.other W203 Fw181 (Or.inl ne156_157)
    have f208 := Fld.other W203 f185 (Or.inl ne156_157)
    have f209 := Fld.other W203 f186 (Or.inl ne156_157)
    have f210 := Fld.other W203 f187 (Or.inl ne156_157)
    have f211 := Fld.other W203 f188 (Or.inl ne156_157)
    have f212 := Fld.other W203 f189 (Or.inl ne156_157)
    have f213 := Fld.other W203 f190 (Or.inl ne156_157)
    have f214 := Fld.other W203 f191 (Or.inl ne156_157)
    have f215 := Exa.wr W203 f192
    have f216 := Fld.other W203 f193 (Or.inl ne156_158)
    have f217 := Fld.other W203 f194 (Or.inl ne156_158)
    have f218 := f195.other W203 ne156_159
    have f219 := f196.other W203 ne156_160
    have f221 := f198.other W203 ne156_162
    have N203 := Fr.snoc X203 N181 gb_x156
    have Z203 : LeA (n0) (h203.size) := by rw [W203.size]; exact Z181
    have K203 : Keep h0 h203 [a1, bud, pool, start, hash, table, enc] := K181.wr W203 (inw_x156)
    refine OwnG.st (y_aloadN X203 H d7_217 rfl) ?_
    refine OwnG.st (y_aloadN X203 H d7_218 rfl) ?_
    refine OwnG.v1 222 (getF X203 hx hZ hown (host := "") (Or.inl (ww hw 47 rfl)) Via.refl e203 f214 (g := mkF m 219 _ _) rfl rfl (hb hby d7_219)) ?_
    intro T222 X222 e222
    refine OwnG.st (y_aloadN X222 H d7_222 rfl) ?_
    refine OwnG.v1 226 (getF X222 hx hZ hown (host := "") (Or.inl (ww hw 41 rfl)) Via.refl e222 f208 (g := mkF m 223 _ _) rfl rfl (hb hby d7_223)) ?_
    intro T223 X223 e223
    refine OwnG.st (y_aloadN X223 H d7_226 rfl) ?_
    refine OwnG.v1 230 (getF X223 hx hZ hown (host := "") (Or.inl (ww hw 75 rfl)) Via.refl e223 f213 (g := mkF m 227 _ _) rfl rfl (hb hby d7_227)) ?_
    intro T224 X224 e224
    refine OwnG.st (y_i2l X224 H d7_230) ?_
    refine OwnG.st (y_lconst X224 H 1 d7_231 rfl) ?_
    refine OwnG.st (y_ladd X224 H d7_232) ?_
    have hgc := x_ladd size.toInt64 1 (by omega)
    obtain ⟨cq225, kq225, q225a, q225b, q225c⟩ := isOf hZ e224 f215
    refine OwnG.cm 236 3 300 X224 (X224.virtualBack hx (y := mn_13) (z := mn_13) hown (mvT hZ (ww hw 105 rfl)) (mvT hZ (ww hw 106 rfl)) (notFace_of_selects (args := #[]) (mvT hZ (ww hw 108 rfl))) (mvT hZ (ww hw 108 rfl)) (mvT hZ (ww hw 107 rfl)) (by decide) (backOf (W := 1) (rm13 l Z a0 hw [] bud hash ((size.toInt64) + (1 : Int64)) u156 nH gH h203 n0 Z203 gb_bud ⟨f215, f216, f217⟩ f218 hD.2.2.2.2.2.2.2.1 (by omega) hnH2 (by omega)) hZ (ww hw 109 rfl) (ww hw 13 rfl) (by decide) (by decide)) q225a q225c (g := mkF m 233 _ _) rfl (by rw [hml]; rfl) (Steps.refl _) (argsL := [(.ref hash), (.long ((size.toInt64) + (1 : Int64)))]) (rest := [(.ref a1)]) (lenOf pd_7B_2 rfl) rfl (by show 2 * 0 + _ ≤ _; exact Nat.le_of_eq rfl) (hb hby d7_233) (fun _ _ => ⟨rfl, e224, (by decide : 2 + 1 ≤ _), (by decide : 200 + 100 ≤ _)⟩)) rfl rfl ?_
    intro T225 Lc225 vc225 X225 hQ225
    obtain ⟨x225, n225', g225', u225, hv225, N225q, Kq225, B225q, Vq225, sx225, hn225a, hn225b, hn225c, hg225, hu225a, hu225b⟩ := hQ225
    have ne225_226 : NeA a1 x225 := Or.elim sx225 (fun q => by rw [q]; exact (Ne.symm hD.2.2.2.2.2.2.1)) (fun q => Nat.ne_of_lt (Nat.lt_of_lt_of_le (Exa.lt f204) q))
    have ne225_228 : NeA table x225 := Or.elim sx225 (fun q => by rw [q]; exact hD.2.2.2.2.2.2.2.2.2.2.2.2.2.2.1) (fun q => Nat.ne_of_lt (Nat.lt_of_lt_of_le f219.lt q))
    have ne225_230 : NeA x65 x225 := Or.elim sx225 (fun q => by rw [q]; exact (Ne.symm ne65_69)) (fun q => Nat.ne_of_lt (Nat.lt_of_lt_of_le f221.lt q))
    have ne225_231 : NeA x156 x225 := Or.elim sx225 (fun q => by rw [q]; exact (Ne.symm ne156_159)) (fun q => Nat.ne_of_lt (Nat.lt_of_lt_of_le V203'.lt q))
    have inw_x225 : x225 ∈ [a1, bud, pool, start, hash, table, enc] ∨ h0.size ≤ x225 := Or.elim sx225 (fun q => by rw [q]; exact Or.inl (by simp)) (fun q => Or.inr (Nat.le_trans K203.1 q))
    have gb_x225 : LeA (n0) (x225) := Or.elim sx225 (fun q => by rw [q]; exact gb_hash) (fun q => Nat.le_trans Z203 q)
    have f232 := Exa.keep f204 Kq225
    have f233 := Fld.keep f205 Kq225 (ninS (Ne.symm hD.1) nin0)
    have f234 := Fld.keep f206 Kq225 (ninS (Ne.symm hD.1) nin0)
    have f235 := Fld.keep f207 Kq225 (ninS (Ne.symm hD.1) nin0)
    have f236 := Fld.keep f208 Kq225 (ninS (Ne.symm hD.1) nin0)
    have f237 := Fld.keep f209 Kq225 (ninS (Ne.symm hD.1) nin0)
    have f238 := Fld.keep f210 Kq225 (ninS (Ne.symm hD.1) nin0)
    have f239 := Fld.keep f211 Kq225 (ninS (Ne.symm hD.1) nin0)
    have f240 := Fld.keep f212 Kq225 (ninS (Ne.symm hD.1) nin0)
    have f241 := Fld.keep f213 Kq225 (ninS (Ne.symm hD.1) nin0)
    have f242 := Fld.keep f214 Kq225 (ninS (Ne.symm hD.1) nin0)
    have f245 := f219.keep Kq225 (ninS hD.2.2.2.2.2.2.2.2.2.2.2.1 nin0)
    have f247 := f221.keep Kq225 (ninS (Ne.symm ne65_67) nin0)
    have f248 := V203'.keep Kq225 (ninS (Ne.symm ne156_158) nin0)
    have K225 : Keep h0 T225.heap [a1, bud, pool, start, hash, table, enc] := K203.trans Kq225 (own_trS (P := fun x => x ∈ [a1, bud, pool, start, hash, table, enc] ∨ h0.size ≤ x) (Or.inl (by simp)) own_tr0)
    obtain ⟨EBG_249, FBG0_249, FBG1_249⟩ := B225q
    have N225 := Fr.app N203 N225q
    refine OwnG.cv hv225 ?_
    clear hv225
    refine OwnG.v2 239 (putF X225 hx hZ hown (host := "") (Or.inl (ww hw 41 rfl)) Via.refl rfl f236 f232 (Or.inl (ww hw 42 rfl)) (ww hw 9 rfl) (ty := (.array .int)) (by decide) rfl rfl (g := mkF m 236 _ _) rfl rfl (hb hby d7_236)) ?_
    intro T250 h250 X250 e250 W250
    have f251 := Exa.wr W250 f232
    have f252 := Fld.other W250 f233 (Or.inr (sn_64 hw))
    have f253 := Fld.other W250 f234 (Or.inr (sn_65 hw))
    have f254 := Fld.other W250 f235 (Or.inr (sn_66 hw))
    have f255 := Fld.other W250 f237 (Or.inr (sn_67 hw))
    have f256 := Fld.other W250 f238 (Or.inr (sn_68 hw))
    have f257 := Fld.other W250 f239 (Or.inr (sn_69 hw))
    have f258 := Fld.other W250 f240 (Or.inr (sn_70 hw))
    have f259 := Fld.other W250 f241 (Or.inr (sn_71 hw))
    have f260 := Fld.other W250 f242 (Or.inr (sn_72 hw))
    have f264 := f245.other W250 hD.2.2.2.2.2.2.2.2.2.2.1
    have f266 := f247.other W250 (Ne.symm ne65_66)
    have f267 := f248.other W250 (Ne.symm ne156_157)
    have f268 := Vq225.other W250 (Ne.symm ne225_226)
    have Fw250 : Fld Z h250 a1 "com/example/deft_nets/deftnets/MarkingStore" "mHash" "[I" (.ref x225) := Fld.same W250 f236
    have N250 := Fr.snoc X250 N225 gb_a1
    have K250 : Keep h0 h250 [a1, bud, pool, start, hash, table, enc] := K225.wr W250 (Or.inl (by simp))
    refine OwnG.st (y_aloadN X250 H d7_239 rfl) ?_
    refine OwnG.v1 243 (getF X250 hx hZ hown (host := "") (Or.inl (ww hw 41 rfl)) Via.refl e250 Fw250 (g := mkF m 240 _ _) rfl rfl (hb hby d7_240)) ?_
    intro T269 X269 e269
    refine OwnG.st (y_aloadN X269 H d7_243 rfl) ?_
    refine OwnG.v1 247 (getF X269 hx hZ hown (host := "") (Or.inl (ww hw 75 rfl)) Via.refl e269 f259 (g := mkF m 244 _ _) rfl rfl (hb hby d7_244)) ?_
    intro T270 X270 e270
    refine OwnG.st (y_iloadN X270 H d7_247 rfl) ?_
    refine OwnG.v3 249 (own_stI f268 X270 hx hZ e270 (by omega) (by omega) (gf := mkF m 248 _ _) rfl rfl (hb hby d7_248)) ?_
    intro T271 h271 X271 e271 W271 V271
    have V271' : OwnA Z h271 x225 .int n225' (iv' (updv g225' size.toInt.toNat w53)) := V271
    have f272 := Exa.wr W271 f251
    have f273 := Fld.other W271 f252 (Or.inl ne225_226)
    have f274 := Fld.other W271 f253 (Or.inl ne225_226)
    have f275 := Fld.other W271 f254 (Or.inl ne225_226)
    have f276 := Fld.other W271 Fw250 (Or.inl ne225_226)
    have f277 := Fld.other W271 f255 (Or.inl ne225_226)
    have f278 := Fld.other W271 f256 (Or.inl ne225_226)
    have f279 := Fld.other W271 f257 (Or.inl ne225_226)
    have f280 := Fld.other W271 f258 (Or.inl ne225_226)
    have f281 := Fld.other W271 f259 (Or.inl ne225_226)
    have f282 := Fld.other W271 f260 (Or.inl ne225_226)
    have f286 := f264.other W271 ne225_228
    have f288 := f266.other W271 ne225_230
    have f289 := f267.other W271 ne225_231
    have N271 := Fr.snoc X271 N250 gb_x225
    have K271 : Keep h0 h271 [a1, bud, pool, start, hash, table, enc] := K250.wr W271 (inw_x225)
    refine OwnG.st (y_aloadN X271 H d7_249 rfl) ?_
    refine OwnG.v1 253 (getF X271 hx hZ hown (host := "") (Or.inl (ww hw 43 rfl)) Via.refl e271 f277 (g := mkF m 250 _ _) rfl rfl (hb hby d7_250)) ?_
    intro T290 X290 e290
    refine OwnG.st (y_iloadN X290 H d7_253 rfl) ?_
    refine OwnG.st (y_aloadN X290 H d7_254 rfl) ?_
    refine OwnG.v1 258 (getF X290 hx hZ hown (host := "") (Or.inl (ww hw 75 rfl)) Via.refl e290 f281 (g := mkF m 255 _ _) rfl rfl (hb hby d7_255)) ?_
    intro T291 X291 e291
    refine OwnG.st (y_iconst X291 H (1) d7_258 rfl) ?_
    refine OwnG.st (y_iadd X291 H d7_259) ?_
    refine OwnG.v3 261 (own_stI f286 X291 hx hZ e291 hix_z3_58.1 hix_z3_58.2 (gf := mkF m 260 _ _) rfl rfl (hb hby d7_260)) ?_
    intro T292 h292 X292 e292 W292 V292
    have V292' : OwnA Z h292 table .int 16 (iv' (updv (updv (fun _ => 0) j0 t1) z3_58.toInt.toNat (size + (1 : Int32)))) := V292
    have f293 := Exa.wr W292 f272
    have f294 := Fld.other W292 f273 (Or.inl (Ne.symm hD.2.2.2.2.2.2.2.2.2.2.1))
    have f295 := Fld.other W292 f274 (Or.inl (Ne.symm hD.2.2.2.2.2.2.2.2.2.2.1))
    have f296 := Fld.other W292 f275 (Or.inl (Ne.symm hD.2.2.2.2.2.2.2.2.2.2.1))
    have f297 := Fld.other W292 f276 (Or.inl (Ne.symm hD.2.2.2.2.2.2.2.2.2.2.1))
    have f298 := Fld.other W292 f277 (Or.inl (Ne.symm hD.2.2.2.2.2.2.2.2.2.2.1))
    have f299 := Fld.other W292 f278 (Or.inl (Ne.symm hD.2.2.2.2.2.2.2.2.2.2.1))
    have f300 := Fld.other W292 f279 (Or.inl (Ne.symm hD.2.2.2.2.2.2.2.2.2.2.1))
    have f301 := Fld.other W292 f280 (Or.inl (Ne.symm hD.2.2.2.2.2.2.2.2.2.2.1))
    have f302 := Fld.other W292 f281 (Or.inl (Ne.symm hD.2.2.2.2.2.2.2.2.2.2.1))
    have f303 := Fld.other W292 f282 (Or.inl (Ne.symm hD.2.2.2.2.2.2.2.2.2.2.1))
    have f308 := f288.other W292 (Ne.symm ne65_70)
    have f309 := f289.other W292 (Ne.symm ne156_160)
    have N292 := Fr.snoc X292 N271 gb_table
    have K292 : Keep h0 h292 [a1, bud, pool, start, hash, table, enc] := K271.wr W292 (Or.inl (by simp))
    refine OwnG.st (y_aloadN X292 H d7_261 rfl) ?_
    refine OwnG.st (y_dup X292 H d7_262 rfl) ?_
    refine OwnG.v1 266 (getF X292 hx hZ hown (host := "") (Or.inl (ww hw 75 rfl)) Via.refl e292 f302 (g := mkF m 263 _ _) rfl rfl (hb hby d7_263)) ?_
    intro T311 X311 e311
    refine OwnG.st (y_dup_x1 X311 H d7_266 rfl rfl) ?_
    refine OwnG.st (y_iconst X311 H (1) d7_267 rfl) ?_
    refine OwnG.st (y_iadd X311 H d7_268) ?_
    refine OwnG.v2 272 (putF X311 hx hZ hown (host := "") (Or.inl (ww hw 75 rfl)) Via.refl e311 f302 f293 (Or.inl (ww hw 76 rfl)) (ww hw 9 rfl) (ty := .int) (by decide) rfl rfl (g := mkF m 269 _ _) rfl rfl (hb hby d7_269)) ?_
    intro T312 h312 X312 e312 W312
    have f313 := Exa.wr W312 f293
    have f314 := Fld.other W312 f294 (Or.inr (sn_73 hw))
    have f315 := Fld.other W312 f295 (Or.inr (sn_74 hw))
    have f316 := Fld.other W312 f296 (Or.inr (sn_75 hw))
    have f317 := Fld.other W312 f297 (Or.inr (sn_76 hw))
    have f318 := Fld.other W312 f298 (Or.inr (sn_77 hw))
    have f319 := Fld.other W312 f299 (Or.inr (sn_78 hw))
    have f320 := Fld.other W312 f300 (Or.inr (sn_79 hw))
    have f321 := Fld.other W312 f301 (Or.inr (sn_80 hw))
    have f322 := Fld.other W312 f303 (Or.inr (sn_81 hw))
    have f328 := f308.other W312 (Ne.symm ne65_66)
    have f329 := f309.other W312 (Ne.symm ne156_157)
    have Fw312 : Fld Z h312 a1 "com/example/deft_nets/deftnets/MarkingStore" "mSize" "I" (.int (size + (1 : Int32))) := Fld.same W312 f302
    have N312 := Fr.snoc X312 N292 gb_a1
    have K312 : Keep h0 h312 [a1, bud, pool, start, hash, table, enc] := K292.wr W312 (Or.inl (by simp))
    have hVp : OwnA Z h312 x65 .byte n65' (iv' (cpv gE g65' 0 e0' eL)) := by have q := f328; rw [hdp, hdl] at q; exact q
    have hVs : OwnA Z h312 x156 .int n156' (iv' (updv g156' 2 (psz + elen))) := by have q := f329; rw [hsn2] at q; exact q
    have hg0 : (updv g156' 2 (psz + elen) 0).toInt = 0 := by rw [own_u0 _ _ _ _ (by decide), hg156 0 (by omega)]; exact hs0
    have hg1 : (updv g156' 2 (psz + elen) 1).toInt = e0' := by rw [own_u0 _ _ _ _ (by decide), hg156 1 (by omega)]; exact hs1
    have hg2 : (updv g156' 2 (psz + elen) 2).toInt = e0' + eL := by rw [own_u1]; omega
    have hSm : SD Z h312 h312.size a1 size eL gE := ⟨x65, (psz + elen), x156, x225, table, enc, elen, next, (size + (1 : Int32)), bud, n65', n156', e0', (cpv gE g65' 0 e0' eL), (updv g156' 2 (psz + elen)), ⟨f313, f314, f315, f316, f317, f318, f319, f320, f321, Fw312, f322⟩, hVp, hVs, (Ne.symm ne65_66), (Ne.symm ne156_157), Exa.lt f313, hVp.lt, hVs.lt, by omega, by omega, by omega, by omega, by rw [hsn]; exact hg1, by rw [hsn]; exact hg2, by omega, own_cpl0 gE g65' e0' eL⟩
    have hS0 : SD Z h312 h312.size a1 0 e0' gX := ⟨x65, (psz + elen), x156, x225, table, enc, elen, next, (size + (1 : Int32)), bud, n65', n156', 0, (cpv gE g65' 0 e0' eL), (updv g156' 2 (psz + elen)), ⟨f313, f314, f315, f316, f317, f318, f319, f320, f321, Fw312, f322⟩, hVp, hVs, (Ne.symm ne65_66), (Ne.symm ne156_157), Exa.lt f313, hVp.lt, hVs.lt, by omega, by omega, by decide, by rw [z0]; omega, hg0, by show ((updv g156' 2 (psz + elen)) 1).toInt = _; rw [hg1]; omega, by omega, fun i hi => by rw [Nat.zero_add, own_cpl1 gE g65' e0' eL i hi, hg65 i (by omega)]; exact hX i hi⟩
    exact OwnG.retI X312 hx Bd.returns (BodyLoose.notSynchronized Bd) (hb hby d7_272) (by rw [e312]; exact ⟨_, rfl, N312, own_kb K312 (own_trS (P := fun x => kk ≤ x) ge_a1 (own_trS ge_bud (own_trS ge_pool (own_trS ge_start (own_trS ge_hash (own_trS ge_table (own_trS ge_enc own_tr0))))))), hSm, hS0⟩) (by decide) (by decide)
  · refine OwnG.st (y_ifN X59 H d7_48 ((if0 _ _).trans (feq hc48_60).1)) ?_
    refine OwnG.st (y_aloadN X59 H d7_51 rfl) ?_
    refine OwnG.v1 55 (getF X59 hx hZ hown (host := "") (Or.inl (ww hw 43 rfl)) Via.refl e59 FMS4_51 (g := mkF m 52 _ _) rfl rfl (hb hby d7_52)) ?_
    intro T331 X331 e331
    refine OwnG.st (y_iloadN X331 H d7_55 rfl) ?_
    refine OwnG.st (y_ldI A_t X331 H hZ e331 hix_z3_58.1 hix_z3_58.2 d7_56 ((updv (fun _ => 0) j0 t1) z3_58.toInt.toNat) rfl) ?_
    refine OwnG.st (y_iconst X331 H (1) d7_57 rfl) ?_
    refine OwnG.st (y_isub X331 H d7_58) ?_
    refine OwnG.st (y_istore X331 H #[.val (.ref a1), .val (.int w53), .val (.int ((16 : Int32) - (1 : Int32))), .val (.int z3_58), .val (.int (((updv (fun _ => 0) j0 t1) z3_58.toInt.toNat) - (1 : Int32)))] d7_59 rfl) ?_
    show OwnG p e below s _ _ _ T331 (mkF m 61 #[.val (.ref a1), .val (.int w53), .val (.int ((16 : Int32) - (1 : Int32))), .val (.int z3_58), .val (.int (((updv (fun _ => 0) j0 t1) z3_58.toInt.toNat) - (1 : Int32)))] [])
    obtain ⟨z4_332, hz4_332⟩ : ∃ w : Int32, w = (((updv (fun _ => 0) j0 t1) z3_58.toInt.toNat) - (1 : Int32)) := ⟨_, rfl⟩
    rw [← hz4_332]
    have h4 : z4_332.toInt = 0 := by rw [hz4_332, own_t2 _ _ _ hc48_60, ht1]; rfl
    have h41 := x_iadd z4_332 1 (by omega)
    have hs0' : (gS z4_332.toInt.toNat).toInt = 0 := by rw [show z4_332.toInt.toNat = 0 by omega]; exact hs0
    have hs1' : (gS (z4_332 + (1 : Int32)).toInt.toNat).toInt = e0' := by rw [show (z4_332 + (1 : Int32)).toInt.toNat = 1 by omega]; exact hs1
    refine OwnG.st (y_aloadN X331 H d7_61 rfl) ?_
    refine OwnG.v1 65 (getF X331 hx hZ hown (host := "") (Or.inl (ww hw 41 rfl)) Via.refl e331 FMS3_51 (g := mkF m 62 _ _) rfl rfl (hb hby d7_62)) ?_
    intro T333 X333 e333
    refine OwnG.st (y_iload X333 H d7_65 rfl) ?_
    refine OwnG.st (y_ldI A_h X333 H hZ e333 (by omega) (by omega) d7_67 (gH z4_332.toInt.toNat) rfl) ?_
    refine OwnG.st (y_iloadN X333 H d7_68 rfl) ?_
    by_cases hc69_334 : (gH z4_332.toInt.toNat) = w53
    · refine OwnG.st (y_icN X333 H d7_69 (teq hc69_334).2) ?_
      refine OwnG.st (y_aloadN X333 H d7_72 rfl) ?_
      refine OwnG.v1 76 (getF X333 hx hZ hown (host := "") (Or.inl (ww hw 37 rfl)) Via.refl e333 FMS0_51 (g := mkF m 73 _ _) rfl rfl (hb hby d7_73)) ?_
      intro T335 X335 e335
      refine OwnG.st (y_aloadN X335 H d7_76 rfl) ?_
      refine OwnG.v1 80 (getF X335 hx hZ hown (host := "") (Or.inl (ww hw 39 rfl)) Via.refl e335 FMS2_51 (g := mkF m 77 _ _) rfl rfl (hb hby d7_77)) ?_
      intro T336 X336 e336
      refine OwnG.st (y_iload X336 H d7_80 rfl) ?_
      refine OwnG.st (y_ldI A_s X336 H hZ e336 (by omega) (by omega) d7_82 (gS z4_332.toInt.toNat) rfl) ?_
      refine OwnG.st (y_aloadN X336 H d7_83 rfl) ?_
      refine OwnG.v1 87 (getF X336 hx hZ hown (host := "") (Or.inl (ww hw 39 rfl)) Via.refl e336 FMS2_51 (g := mkF m 84 _ _) rfl rfl (hb hby d7_84)) ?_
      intro T337 X337 e337
      refine OwnG.st (y_iload X337 H d7_87 rfl) ?_
      refine OwnG.st (y_iconst X337 H (1) d7_89 rfl) ?_
      refine OwnG.st (y_iadd X337 H d7_90) ?_
      refine OwnG.st (y_ldI A_s X337 H hZ e337 (by omega) (by omega) d7_91 (gS (z4_332 + (1 : Int32)).toInt.toNat) rfl) ?_
      refine OwnG.st (y_aloadN X337 H d7_92 rfl) ?_
      refine OwnG.v1 96 (getF X337 hx hZ hown (host := "") (Or.inl (ww hw 45 rfl)) Via.refl e337 FMS5_51 (g := mkF m 93 _ _) rfl rfl (hb hby d7_93)) ?_
      intro T338 X338 e338
      refine OwnG.st (y_iconst X338 H (0) d7_96 rfl) ?_
      refine OwnG.st (y_aloadN X338 H d7_97 rfl) ?_
      refine OwnG.v1 101 (getF X338 hx hZ hown (host := "") (Or.inl (ww hw 59 rfl)) Via.refl e338 FMS6_51 (g := mkF m 98 _ _) rfl rfl (hb hby d7_98)) ?_
      intro T339 X339 e339
      refine OwnG.cl 104 0 0 X339 (Jvm.LawKit.callS X339 hx (y := mn_26) hown (mvT hZ (ww hw 180 rfl)) (mvT hZ (ww hw 181 rfl)) (mvT hZ (ww hw 121 rfl)) (mvT hZ (ww hw 182 rfl)) (by decide) (backOf (W := 0) (rm26 l Z a0 hw [] pool (gS z4_332.toInt.toNat) (gS (z4_332 + (1 : Int32)).toInt.toNat) enc (0 : Int32) elen nP nE gP gE h0 n0 Z0 A_p A_e ⟨by omega, by omega⟩ (by rw [hs0', hs1', z0]; omega) (by rw [hs0', hs1']; omega) (by rw [z0]; omega)) hZ (ww hw 182 rfl) (ww hw 121 rfl) (by decide) (by decide)) (g := mkF m 101 _ _) rfl (by rw [hml]; rfl) (argsL := [(.ref pool), (.int (gS z4_332.toInt.toNat)), (.int (gS (z4_332 + (1 : Int32)).toInt.toNat)), (.ref enc), (.int (0 : Int32)), (.int elen)]) (rest := []) (lenOf pd_7B_3 rfl) rfl (by show 2 * 0 + _ ≤ _; exact Nat.le_of_eq rfl) (hb hby d7_101) (fun _ _ => ⟨rfl, e339, (by decide : 0 + 0 ≤ _), (by decide : 0 + 0 ≤ _)⟩)) rfl rfl ?_
      intro T340 Lc340 vc340 X340 hQ340
      obtain ⟨w340, hv340, N340q, e340, hw340, hq340⟩ := hQ340
      have N340 := Fr.app N53 N340q
      refine OwnG.cv hv340 ?_
      clear hv340
      by_cases hc104_341 : w340 = (0 : Int32)
      · refine OwnG.st (y_ifY X340 H 110 d7_104 ((if0 _ _).trans (teq hc104_341).1) (by decide) (by decide)) ?_
        refine OwnG.st (y_iloadN X340 H d7_110 rfl) ?_
        refine OwnG.st (y_iconst X340 H (1) d7_111 rfl) ?_
        refine OwnG.st (y_iadd X340 H d7_112) ?_
        refine OwnG.st (y_iloadN X340 H d7_113 rfl) ?_
        refine OwnG.st (y_iand X340 H d7_114) ?_
        refine OwnG.st (y_istoreN X340 H #[.val (.ref a1), .val (.int w53), .val (.int ((16 : Int32) - (1 : Int32))), .val (.int ((z3_58 + (1 : Int32)) &&& ((16 : Int32) - (1 : Int32)))), .val (.int z4_332)] d7_115 rfl) ?_
        refine OwnG.st (y_goto X340 H 42 d7_116 (by decide) (by decide)) ?_
        show OwnG p e below s _ _ _ T340 (mkF m 42 #[.val (.ref a1), .val (.int w53), .val (.int ((16 : Int32) - (1 : Int32))), .val (.int ((z3_58 + (1 : Int32)) &&& ((16 : Int32) - (1 : Int32)))), .val (.int z4_332)] [])
        obtain ⟨z3_342, hz3_342⟩ : ∃ w : Int32, w = ((z3_58 + (1 : Int32)) &&& ((16 : Int32) - (1 : Int32))) := ⟨_, rfl⟩
        rw [← hz3_342]
        have hix_z3_342 : 0 ≤ z3_342.toInt ∧ z3_342.toInt < 16 := by rw [hz3_342]; exact own_idx _
        refine OwnG.st (y_aloadN X340 H d7_42 rfl) ?_
        refine OwnG.v1 46 (getF X340 hx hZ hown (host := "") (Or.inl (ww hw 43 rfl)) Via.refl e340 FMS4_51 (g := mkF m 43 _ _) rfl rfl (hb hby d7_43)) ?_
        intro T343 X343 e343
        have hc48_344 : ((updv (fun _ => 0) j0 t1) z3_342.toInt.toNat) = (0 : Int32) := own_t1 j0 t1 _ _ hc48_60 hz3_342 hix_z3_58
        refine OwnG.st (y_iloadN X343 H d7_46 rfl) ?_
        refine OwnG.st (y_ldI A_t X343 H hZ e343 hix_z3_342.1 hix_z3_342.2 d7_47 ((updv (fun _ => 0) j0 t1) z3_342.toInt.toNat) rfl) ?_
        refine OwnG.st (y_ifY X343 H 119 d7_48 ((if0 _ _).trans (teq hc48_344).1) (by decide) (by decide)) ?_
        refine OwnG.st (y_aloadN X343 H d7_119 rfl) ?_
        refine OwnG.st (y_aloadN X343 H d7_120 rfl) ?_
        refine OwnG.v1 124 (getF X343 hx hZ hown (host := "") (Or.inl (ww hw 47 rfl)) Via.refl e343 FMS9_51 (g := mkF m 121 _ _) rfl rfl (hb hby d7_121)) ?_
        intro T345 X345 e345
        refine OwnG.st (y_aloadN X345 H d7_124 rfl) ?_
        refine OwnG.v1 128 (getF X345 hx hZ hown (host := "") (Or.inl (ww hw 37 rfl)) Via.refl e345 FMS0_51 (g := mkF m 125 _ _) rfl rfl (hb hby d7_125)) ?_
        intro T346 X346 e346
        refine OwnG.st (y_aloadN X346 H d7_128 rfl) ?_
        refine OwnG.v1 132 (getF X346 hx hZ hown (host := "") (Or.inl (ww hw 94 rfl)) Via.refl e346 FMS1_51 (g := mkF m 129 _ _) rfl rfl (hb hby d7_129)) ?_
        intro T347 X347 e347
        refine OwnG.st (y_i2l X347 H d7_132) ?_
        refine OwnG.st (y_aloadN X347 H d7_133 rfl) ?_
        refine OwnG.v1 137 (getF X347 hx hZ hown (host := "") (Or.inl (ww hw 59 rfl)) Via.refl e347 FMS6_51 (g := mkF m 134 _ _) rfl rfl (hb hby d7_134)) ?_
        intro T348 X348 e348
        refine OwnG.st (y_i2l X348 H d7_137) ?_
        refine OwnG.st (y_ladd X348 H d7_138) ?_
        have hga := x_ladd psz.toInt64 elen.toInt64 (by omega)
        obtain ⟨cq349, kq349, q349a, q349b, q349c⟩ := isOf hZ e348 EBG_52
        refine OwnG.cm 142 1 100 X348 (X348.virtualBack hx (y := mn_12) (z := mn_12) hown (mvT hZ (ww hw 96 rfl)) (mvT hZ (ww hw 97 rfl)) (notFace_of_selects (args := #[]) (mvT hZ (ww hw 99 rfl))) (mvT hZ (ww hw 99 rfl)) (mvT hZ (ww hw 98 rfl)) (by decide) (backOf (W := 1) (rm12 l Z a0 hw [] bud pool ((psz.toInt64) + (elen.toInt64)) used nP gP h0 n0 Z0 gb_bud ⟨EBG_52, FBG0_52, FBG1_52⟩ A_p hD.2.2.1 (by omega) hnP (by omega) hBP) hZ (ww hw 100 rfl) (ww hw 13 rfl) (by decide) (by decide)) q349a q349c (g := mkF m 139 _ _) rfl (by rw [hml]; rfl) (Steps.refl _) (argsL := [(.ref pool), (.long ((psz.toInt64) + (elen.toInt64)))]) (rest := [(.ref a1)]) (lenOf pd_7B_1 rfl) rfl (by show 2 * 0 + _ ≤ _; exact Nat.le_of_eq rfl) (hb hby d7_139) (fun _ _ => ⟨rfl, e348, (by decide : 0 + 1 ≤ _), (by decide : 0 + 100 ≤ _)⟩)) rfl rfl ?_
        intro T349 Lc349 vc349 X349 hQ349
        obtain ⟨x349, n349', g349', u349, hv349, N349q, Kq349, B349q, Vq349, sx349, hn349a, hn349b, hn349c, hg349, hBy349, hu349a, hu349b⟩ := hQ349
        have ne349_350 : NeA a1 x349 := Or.elim sx349 (fun q => by rw [q]; exact (Ne.symm hD.2.1)) (fun q => Nat.ne_of_lt (Nat.lt_of_lt_of_le (Exa.lt EMS_51) q))
        have ne349_351 : NeA bud x349 := Or.elim sx349 (fun q => by rw [q]; exact (Ne.symm hD.2.2.1)) (fun q => Nat.ne_of_lt (Nat.lt_of_lt_of_le (Exa.lt EBG_52) q))
        have ne349_352 : NeA start x349 := Or.elim sx349 (fun q => by rw [q]; exact hD.2.2.2.2.2.1) (fun q => Nat.ne_of_lt (Nat.lt_of_lt_of_le A_s.lt q))
        have ne349_353 : NeA hash x349 := Or.elim sx349 (fun q => by rw [q]; exact hD.2.2.2.2.2.2.2.2.1) (fun q => Nat.ne_of_lt (Nat.lt_of_lt_of_le A_h.lt q))
        have ne349_354 : NeA table x349 := Or.elim sx349 (fun q => by rw [q]; exact hD.2.2.2.2.2.2.2.2.2.2.2.2.1) (fun q => Nat.ne_of_lt (Nat.lt_of_lt_of_le A_t.lt q))
        have inw_x349 : x349 ∈ [a1, bud, pool, start, hash, table, enc] ∨ h0.size ≤ x349 := Or.elim sx349 (fun q => by rw [q]; exact Or.inl (by simp)) (fun q => Or.inr (Nat.le_trans (Keep.refl h0 [a1, bud, pool, start, hash, table, enc]).1 q))
        have gb_x349 : LeA (n0) (x349) := Or.elim sx349 (fun q => by rw [q]; exact gb_pool) (fun q => Nat.le_trans Z0 q)
        have Z349 : LeA (n0) (T349.heap.size) := Nat.le_trans Z0 Kq349.1
        have f356 := Exa.keep EMS_51 Kq349
        have f357 := Fld.keep FMS0_51 Kq349 (ninS (Ne.symm hD.1) nin0)
        have f358 := Fld.keep FMS1_51 Kq349 (ninS (Ne.symm hD.1) nin0)
        have f359 := Fld.keep FMS2_51 Kq349 (ninS (Ne.symm hD.1) nin0)
        have f360 := Fld.keep FMS3_51 Kq349 (ninS (Ne.symm hD.1) nin0)
        have f361 := Fld.keep FMS4_51 Kq349 (ninS (Ne.symm hD.1) nin0)
        have f362 := Fld.keep FMS5_51 Kq349 (ninS (Ne.symm hD.1) nin0)
        have f363 := Fld.keep FMS6_51 Kq349 (ninS (Ne.symm hD.1) nin0)
        have f364 := Fld.keep FMS7_51 Kq349 (ninS (Ne.symm hD.1) nin0)
        have f365 := Fld.keep FMS8_51 Kq349 (ninS (Ne.symm hD.1) nin0)
        have f366 := Fld.keep FMS9_51 Kq349 (ninS (Ne.symm hD.1) nin0)
        have f369 := A_s.keep Kq349 (ninS hD.2.2.2.2.1 nin0)
        have f370 := A_h.keep Kq349 (ninS hD.2.2.2.2.2.2.2.1 nin0)
        have f371 := A_t.keep Kq349 (ninS hD.2.2.2.2.2.2.2.2.2.2.2.1 nin0)
        have f372 := A_e.keep Kq349 (ninS hD.2.2.2.2.2.2.2.2.2.2.2.2.2.2.2.2.1 nin0)
        have K349 : Keep h0 T349.heap [a1, bud, pool, start, hash, table, enc] := (Keep.refl h0 [a1, bud, pool, start, hash, table, enc]).trans Kq349 (own_trS (P := fun x => x ∈ [a1, bud, pool, start, hash, table, enc] ∨ h0.size ≤ x) (Or.inl (by simp)) own_tr0)
        obtain ⟨EBG_373, FBG0_373, FBG1_373⟩ := B349q
        have N349 := Fr.app N340 N349q
        refine OwnG.cv hv349 ?_
        clear hv349
        refine OwnG.v2 145 (putF X349 hx hZ hown (host := "") (Or.inl (ww hw 37 rfl)) Via.refl rfl f357 f356 (Or.inl (ww hw 38 rfl)) (ww hw 9 rfl) (ty := (.array .byte)) (by decide) rfl rfl (g := mkF m 142 _ _) rfl rfl (hb hby d7_142)) ?_
        intro T374 h374 X374 e374 W374
        have f375 := Exa.wr W374 f356
        have f376 := Fld.other W374 f358 (Or.inr (sn_37 hw))
        have f377 := Fld.other W374 f359 (Or.inr (sn_38 hw))
        have f378 := Fld.other W374 f360 (Or.inr (sn_39 hw))
        have f379 := Fld.other W374 f361 (Or.inr (sn_40 hw))
        have f380 := Fld.other W374 f362 (Or.inr (sn_41 hw))
        have f381 := Fld.other W374 f363 (Or.inr (sn_42 hw))
        have f382 := Fld.other W374 f364 (Or.inr (sn_43 hw))
        have f383 := Fld.other W374 f365 (Or.inr (sn_44 hw))
        have f384 := Fld.other W374 f366 (Or.inr (sn_45 hw))
        have f385 := Exa.wr W374 EBG_373
        have f386 := Fld.other W374 FBG0_373 (Or.inl hD.1)
        have f387 := Fld.other W374 FBG1_373 (Or.inl hD.1)
        have f388 := f369.other W374 hD.2.2.2.1
        have f389 := f370.other W374 hD.2.2.2.2.2.2.1
        have f390 := f371.other W374 hD.2.2.2.2.2.2.2.2.2.2.1
        have f391 := f372.other W374 hD.2.2.2.2.2.2.2.2.2.2.2.2.2.2.2.1
        have f392 := Vq349.other W374 (Ne.symm ne349_350)
        have Fw374 : Fld Z h374 a1 "com/example/deft_nets/deftnets/MarkingStore" "mPool" "[B" (.ref x349) := Fld.same W374 f357
        have N374 := Fr.snoc X374 N349 gb_a1
        have Z374 : LeA (n0) (h374.size) := by rw [W374.size]; exact Z349
        have K374 : Keep h0 h374 [a1, bud, pool, start, hash, table, enc] := K349.wr W374 (Or.inl (by simp))
        refine OwnG.st (y_aloadN X374 H d7_145 rfl) ?_
        refine OwnG.v1 149 (getF X374 hx hZ hown (host := "") (Or.inl (ww hw 45 rfl)) Via.refl e374 f380 (g := mkF m 146 _ _) rfl rfl (hb hby d7_146)) ?_
        intro T393 X393 e393
        refine OwnG.st (y_iconst X393 H (0) d7_149 rfl) ?_
        refine OwnG.st (y_aloadN X393 H d7_150 rfl) ?_
        refine OwnG.v1 154 (getF X393 hx hZ hown (host := "") (Or.inl (ww hw 37 rfl)) Via.refl e393 Fw374 (g := mkF m 151 _ _) rfl rfl (hb hby d7_151)) ?_
        intro T394 X394 e394
        refine OwnG.st (y_aloadN X394 H d7_154 rfl) ?_
        refine OwnG.v1 158 (getF X394 hx hZ hown (host := "") (Or.inl (ww hw 94 rfl)) Via.refl e394 f376 (g := mkF m 155 _ _) rfl rfl (hb hby d7_155)) ?_
        intro T395 X395 e395
        refine OwnG.st (y_aloadN X395 H d7_158 rfl) ?_
        refine OwnG.v1 162 (getF X395 hx hZ hown (host := "") (Or.inl (ww hw 59 rfl)) Via.refl e395 f381 (g := mkF m 159 _ _) rfl rfl (hb hby d7_159)) ?_
        intro T396 X396 e396
        refine OwnG.v6 165 (own_cp f391 f392 (by omega) (by omega) (Or.inr ⟨rfl, hBy, hBy349⟩) X396 hx hZ hown (ww hw 101 rfl) (ww hw 104 rfl) (ww hw 102 rfl) (ww hw 103 rfl) e396 (by decide) (by omega) (by omega) (by show (0 : Int) + _ ≤ _; omega) (by omega) N374 gb_x349 (gf := mkF m 162 _ _) rfl (by rw [hml]; rfl) (rest := []) rfl (hb hby d7_162) (by decide) (W := 0) (by show 2 * 0 + _ ≤ _; exact Nat.le_of_eq rfl) (by decide)) ?_
        intro T397 h397 L397 X397 e397 N397 Kc397 V397
        have V397' : OwnA Z h397 x349 .byte n349' (iv' (cpv gE g349' 0 psz.toInt.toNat elen.toInt.toNat)) := V397
        have Z397 : LeA (n0) (h397.size) := Nat.le_trans Z374 Kc397.1
        have f398 := Exa.keep f375 Kc397
        have f399 := Fld.keep Fw374 Kc397 (ninS ne349_350 nin0)
        have f400 := Fld.keep f376 Kc397 (ninS ne349_350 nin0)
        have f401 := Fld.keep f377 Kc397 (ninS ne349_350 nin0)
        have f402 := Fld.keep f378 Kc397 (ninS ne349_350 nin0)
        have f403 := Fld.keep f379 Kc397 (ninS ne349_350 nin0)
        have f404 := Fld.keep f380 Kc397 (ninS ne349_350 nin0)
        have f405 := Fld.keep f381 Kc397 (ninS ne349_350 nin0)
        have f406 := Fld.keep f382 Kc397 (ninS ne349_350 nin0)
        have f407 := Fld.keep f383 Kc397 (ninS ne349_350 nin0)
        have f408 := Fld.keep f384 Kc397 (ninS ne349_350 nin0)
        have f409 := Exa.keep f385 Kc397
        have f410 := Fld.keep f386 Kc397 (ninS ne349_351 nin0)
        have f411 := Fld.keep f387 Kc397 (ninS ne349_351 nin0)
        have f412 := f388.keep Kc397 (ninS ne349_352 nin0)
        have f413 := f389.keep Kc397 (ninS ne349_353 nin0)
        have f414 := f390.keep Kc397 (ninS ne349_354 nin0)
        have K397 : Keep h0 h397 [a1, bud, pool, start, hash, table, enc] := K374.trans Kc397 (own_trS (P := fun x => x ∈ [a1, bud, pool, start, hash, table, enc] ∨ h0.size ≤ x) (inw_x349) own_tr0)
        refine OwnG.st (y_aloadN X397 H d7_165 rfl) ?_
        refine OwnG.st (y_dup X397 H d7_166 rfl) ?_
        refine OwnG.v1 170 (getF X397 hx hZ hown (host := "") (Or.inl (ww hw 94 rfl)) Via.refl e397 f400 (g := mkF m 167 _ _) rfl rfl (hb hby d7_167)) ?_
        intro T416 X416 e416
        refine OwnG.st (y_aloadN X416 H d7_170 rfl) ?_
        refine OwnG.v1 174 (getF X416 hx hZ hown (host := "") (Or.inl (ww hw 59 rfl)) Via.refl e416 f405 (g := mkF m 171 _ _) rfl rfl (hb hby d7_171)) ?_
        intro T417 X417 e417
        refine OwnG.st (y_iadd X417 H d7_174) ?_
        refine OwnG.v2 178 (putF X417 hx hZ hown (host := "") (Or.inl (ww hw 94 rfl)) Via.refl e417 f400 f398 (Or.inl (ww hw 95 rfl)) (ww hw 9 rfl) (ty := .int) (by decide) rfl rfl (g := mkF m 175 _ _) rfl rfl (hb hby d7_175)) ?_
        intro T418 h418 X418 e418 W418
        have f419 := Exa.wr W418 f398
        have f420 := Fld.other W418 f399 (Or.inr (sn_46 hw))
        have f421 := Fld.other W418 f401 (Or.inr (sn_47 hw))
        have f422 := Fld.other W418 f402 (Or.inr (sn_48 hw))
        have f423 := Fld.other W418 f403 (Or.inr (sn_49 hw))
        have f424 := Fld.other W418 f404 (Or.inr (sn_50 hw))
        have f425 := Fld.other W418 f405 (Or.inr (sn_51 hw))
        have f426 := Fld.other W418 f406 (Or.inr (sn_52 hw))
        have f427 := Fld.other W418 f407 (Or.inr (sn_53 hw))
        have f428 := Fld.other W418 f408 (Or.inr (sn_54 hw))
        have f429 := Exa.wr W418 f409
        have f430 := Fld.other W418 f410 (Or.inl hD.1)
        have f431 := Fld.other W418 f411 (Or.inl hD.1)
        have f432 := f412.other W418 hD.2.2.2.1
        have f433 := f413.other W418 hD.2.2.2.2.2.2.1
        have f434 := f414.other W418 hD.2.2.2.2.2.2.2.2.2.2.1
        have f436 := V397'.other W418 (Ne.symm ne349_350)
        have Fw418 : Fld Z h418 a1 "com/example/deft_nets/deftnets/MarkingStore" "mPoolSize" "I" (.int (psz + elen)) := Fld.same W418 f400
        have N418 := Fr.snoc X418 N397 gb_a1
        have Z418 : LeA (n0) (h418.size) := by rw [W418.size]; exact Z397
        have K418 : Keep h0 h418 [a1, bud, pool, start, hash, table, enc] := K397.wr W418 (Or.inl (by simp))
        refine OwnG.st (y_aloadN X418 H d7_178 rfl) ?_
        refine OwnG.st (y_aloadN X418 H d7_179 rfl) ?_
        refine OwnG.v1 183 (getF X418 hx hZ hown (host := "") (Or.inl (ww hw 47 rfl)) Via.refl e418 f428 (g := mkF m 180 _ _) rfl rfl (hb hby d7_180)) ?_
        intro T437 X437 e437
        refine OwnG.st (y_aloadN X437 H d7_183 rfl) ?_
        refine OwnG.v1 187 (getF X437 hx hZ hown (host := "") (Or.inl (ww hw 39 rfl)) Via.refl e437 f421 (g := mkF m 184 _ _) rfl rfl (hb hby d7_184)) ?_
        intro T438 X438 e438
        refine OwnG.st (y_aloadN X438 H d7_187 rfl) ?_
        refine OwnG.v1 191 (getF X438 hx hZ hown (host := "") (Or.inl (ww hw 75 rfl)) Via.refl e438 f427 (g := mkF m 188 _ _) rfl rfl (hb hby d7_188)) ?_
        intro T439 X439 e439
        refine OwnG.st (y_i2l X439 H d7_191) ?_
        refine OwnG.st (y_ldc2 X439 H hown (mvT hZ (ww hw 74 rfl)) d7_192) ?_
        refine OwnG.st (y_ladd X439 H d7_195) ?_
        have hgb := x_ladd size.toInt64 2 (by omega)
        obtain ⟨cq440, kq440, q440a, q440b, q440c⟩ := isOf hZ e439 f429
        refine OwnG.cm 199 2 200 X439 (X439.virtualBack hx (y := mn_13) (z := mn_13) hown (mvT hZ (ww hw 105 rfl)) (mvT hZ (ww hw 106 rfl)) (notFace_of_selects (args := #[]) (mvT hZ (ww hw 108 rfl))) (mvT hZ (ww hw 108 rfl)) (mvT hZ (ww hw 107 rfl)) (by decide) (backOf (W := 1) (rm13 l Z a0 hw [] bud start ((size.toInt64) + (2 : Int64)) u349 nS gS h418 n0 Z418 gb_bud ⟨f429, f430, f431⟩ f432 hD.2.2.2.2.1 (by omega) hnS2 (by omega)) hZ (ww hw 109 rfl) (ww hw 13 rfl) (by decide) (by decide)) q440a q440c (g := mkF m 196 _ _) rfl (by rw [hml]; rfl) (Steps.refl _) (argsL := [(.ref start), (.long ((size.toInt64) + (2 : Int64)))]) (rest := [(.ref a1)]) (lenOf pd_7B_2 rfl) rfl (by show 2 * 0 + _ ≤ _; exact Nat.le_of_eq rfl) (hb hby d7_196) (fun _ _ => ⟨rfl, e439, (by decide : 1 + 1 ≤ _), (by decide : 100 + 100 ≤ _)⟩)) rfl rfl ?_
        intro T440 Lc440 vc440 X440 hQ440
        obtain ⟨x440, n440', g440', u440, hv440, N440q, Kq440, B440q, Vq440, sx440, hn440a, hn440b, hn440c, hg440, hu440a, hu440b⟩ := hQ440
        have ne440_441 : NeA a1 x440 := Or.elim sx440 (fun q => by rw [q]; exact (Ne.symm hD.2.2.2.1)) (fun q => Nat.ne_of_lt (Nat.lt_of_lt_of_le (Exa.lt f419) q))
        have ne440_442 : NeA bud x440 := Or.elim sx440 (fun q => by rw [q]; exact (Ne.symm hD.2.2.2.2.1)) (fun q => Nat.ne_of_lt (Nat.lt_of_lt_of_le (Exa.lt f429) q))
        have ne440_443 : NeA hash x440 := Or.elim sx440 (fun q => by rw [q]; exact hD.2.2.2.2.2.2.2.2.2.1) (fun q => Nat.ne_of_lt (Nat.lt_of_lt_of_le f433.lt q))
        have ne440_444 : NeA table x440 := Or.elim sx440 (fun q => by rw [q]; exact hD.2.2.2.2.2.2.2.2.2.2.2.2.2.1) (fun q => Nat.ne_of_lt (Nat.lt_of_lt_of_le f434.lt q))
        have ne440_446 : NeA x349 x440 := Or.elim sx440 (fun q => by rw [q]; exact (Ne.symm ne349_352)) (fun q => Nat.ne_of_lt (Nat.lt_of_lt_of_le f436.lt q))
        have inw_x440 : x440 ∈ [a1, bud, pool, start, hash, table, enc] ∨ h0.size ≤ x440 := Or.elim sx440 (fun q => by rw [q]; exact Or.inl (by simp)) (fun q => Or.inr (Nat.le_trans K418.1 q))
        have gb_x440 : LeA (n0) (x440) := Or.elim sx440 (fun q => by rw [q]; exact gb_start) (fun q => Nat.le_trans Z418 q)
        have Z440 : LeA (n0) (T440.heap.size) := Nat.le_trans Z418 Kq440.1
        have f447 := Exa.keep f419 Kq440
        have f448 := Fld.keep f420 Kq440 (ninS (Ne.symm hD.1) nin0)
        have f449 := Fld.keep Fw418 Kq440 (ninS (Ne.symm hD.1) nin0)
        have f450 := Fld.keep f421 Kq440 (ninS (Ne.symm hD.1) nin0)
        have f451 := Fld.keep f422 Kq440 (ninS (Ne.symm hD.1) nin0)
        have f452 := Fld.keep f423 Kq440 (ninS (Ne.symm hD.1) nin0)
        have f453 := Fld.keep f424 Kq440 (ninS (Ne.symm hD.1) nin0)
        have f454 := Fld.keep f425 Kq440 (ninS (Ne.symm hD.1) nin0)
        have f455 := Fld.keep f426 Kq440 (ninS (Ne.symm hD.1) nin0)
        have f456 := Fld.keep f427 Kq440 (ninS (Ne.symm hD.1) nin0)
        have f457 := Fld.keep f428 Kq440 (ninS (Ne.symm hD.1) nin0)
        have f460 := f433.keep Kq440 (ninS hD.2.2.2.2.2.2.2.1 nin0)
        have f461 := f434.keep Kq440 (ninS hD.2.2.2.2.2.2.2.2.2.2.2.1 nin0)
        have f463 := f436.keep Kq440 (ninS (Ne.symm ne349_351) nin0)
        have K440 : Keep h0 T440.heap [a1, bud, pool, start, hash, table, enc] := K418.trans Kq440 (own_trS (P := fun x => x ∈ [a1, bud, pool, start, hash, table, enc] ∨ h0.size ≤ x) (Or.inl (by simp)) own_tr0)
        obtain ⟨EBG_464, FBG0_464, FBG1_464⟩ := B440q
        have N440 := Fr.app N418 N440q
        refine OwnG.cv hv440 ?_
        clear hv440
        refine OwnG.v2 202 (putF X440 hx hZ hown (host := "") (Or.inl (ww hw 39 rfl)) Via.refl rfl f450 f447 (Or.inl (ww hw 40 rfl)) (ww hw 9 rfl) (ty := (.array .int)) (by decide) rfl rfl (g := mkF m 199 _ _) rfl rfl (hb hby d7_199)) ?_
        intro T465 h465 X465 e465 W465
        have f466 := Exa.wr W465 f447
        have f467 := Fld.other W465 f448 (Or.inr (sn_55 hw))
        have f468 := Fld.other W465 f449 (Or.inr (sn_56 hw))
        have f469 := Fld.other W465 f451 (Or.inr (sn_57 hw))
        have f470 := Fld.other W465 f452 (Or.inr (sn_58 hw))
        have f471 := Fld.other W465 f453 (Or.inr (sn_59 hw))
        have f472 := Fld.other W465 f454 (Or.inr (sn_60 hw))
        have f473 := Fld.other W465 f455 (Or.inr (sn_61 hw))
        have f474 := Fld.other W465 f456 (Or.inr (sn_62 hw))
        have f475 := Fld.other W465 f457 (Or.inr (sn_63 hw))
        have f476 := Exa.wr W465 EBG_464
        have f477 := Fld.other W465 FBG0_464 (Or.inl hD.1)
        have f478 := Fld.other W465 FBG1_464 (Or.inl hD.1)
        have f479 := f460.other W465 hD.2.2.2.2.2.2.1
        have f480 := f461.other W465 hD.2.2.2.2.2.2.2.2.2.2.1
        have f482 := f463.other W465 (Ne.symm ne349_350)
        have f483 := Vq440.other W465 (Ne.symm ne440_441)
        have Fw465 : Fld Z h465 a1 "com/example/deft_nets/deftnets/MarkingStore" "mStart" "[I" (.ref x440) := Fld.same W465 f450
        have N465 := Fr.snoc X465 N440 gb_a1
        have Z465 : LeA (n0) (h465.size) := by rw [W465.size]; exact Z440
        have K465 : Keep h0 h465 [a1, bud, pool, start, hash, table, enc] := K440.wr W465 (Or.inl (by simp))
        refine OwnG.st (y_aloadN X465 H d7_202 rfl) ?_
        refine OwnG.v1 206 (getF X465 hx hZ hown (host := "") (Or.inl (ww hw 39 rfl)) Via.refl e465 Fw465 (g := mkF m 203 _ _) rfl rfl (hb hby d7_203)) ?_
        intro T484 X484 e484
        refine OwnG.st (y_aloadN X484 H d7_206 rfl) ?_
        refine OwnG.v1 210 (getF X484 hx hZ hown (host := "") (Or.inl (ww hw 75 rfl)) Via.refl e484 f474 (g := mkF m 207 _ _) rfl rfl (hb hby d7_207)) ?_
        intro T485 X485 e485
        refine OwnG.st (y_iconst X485 H (1) d7_210 rfl) ?_
        refine OwnG.st (y_iadd X485 H d7_211) ?_
        refine OwnG.st (y_aloadN X485 H d7_212 rfl) ?_
        refine OwnG.v1 216 (getF X485 hx hZ hown (host := "") (Or.inl (ww hw 94 rfl)) Via.refl e485 f468 (g := mkF m 213 _ _) rfl rfl (hb hby d7_213)) ?_
        intro T486 X486 e486
        refine OwnG.v3 217 (own_stI f483 X486 hx hZ e486 (by omega) (by omega) (gf := mkF m 216 _ _) rfl rfl (hb hby d7_216)) ?_
        intro T487 h487 X487 e487 W487 V487
        have V487' : OwnA Z h487 x440 .int n440' (iv' (updv g440' (size + (1 : Int32)).toInt.toNat (psz + elen))) := V487
        have f488 := Exa.wr W487 f466
        have f489 := Fld.other W487 f467 (Or.inl ne440_441)
        have f490 := Fld.other W487 f468 (Or.inl ne440_441)
        have f491 := Fld.other W487 Fw465 (Or.inl ne440_441)
        have f492 := Fld.other W487 f469 (Or.inl ne440_441)
        have f493 := Fld.other W487 f470 (Or.inl ne440_441)
        have f494 := Fld.other W487 f471 (Or.inl ne440_441)
        have f495 := Fld.other W487 f472 (Or.inl ne440_441)
        have f496 := Fld.other W487 f473 (Or.inl ne440_441)
        have f497 := Fld.other W487 f474 (Or.inl ne440_441)
        have f498 := Fld.other W487 f475 (Or.inl ne440_441)
        have f499 := Exa.wr W487 f476
        have f500 := Fld.other W487 f477 (Or.inl ne440_442)
        have f501 := Fld.other W487 f478 (Or.inl ne440_442)
        have f502 := f479.other W487 ne440_443
        have f503 := f480.other W487 ne440_444
        have f505 := f482.other W487 ne440_446
        have N487 := Fr.snoc X487 N465 gb_x440
        have Z487 : LeA (n0) (h487.size) := by rw [W487.size]; exact Z465
        have K487 : Keep h0 h487 [a1, bud, pool, start, hash, table, enc] := K465.wr W487 (inw_x440)
        refine OwnG.st (y_aloadN X487 H d7_217 rfl) ?_
        refine OwnG.st (y_aloadN X487 H d7_218 rfl) ?_
        refine OwnG.v1 222 (getF X487 hx hZ hown (host := "") (Or.inl (ww hw 47 rfl)) Via.refl e487 f498 (g := mkF m 219 _ _) rfl rfl (hb hby d7_219)) ?_
        intro T506 X506 e506
        refine OwnG.st (y_aloadN X506 H d7_222 rfl) ?_
        refine OwnG.v1 226 (getF X506 hx hZ hown (host := "") (Or.inl (ww hw 41 rfl)) Via.refl e506 f492 (g := mkF m 223 _ _) rfl rfl (hb hby d7_223)) ?_
        intro T507 X507 e507
        refine OwnG.st (y_aloadN X507 H d7_226 rfl) ?_
        refine OwnG.v1 230 (getF X507 hx hZ hown (host := "") (Or.inl (ww hw 75 rfl)) Via.refl e507 f497 (g := mkF m 227 _ _) rfl rfl (hb hby d7_227)) ?_
        intro T508 X508 e508
        refine OwnG.st (y_i2l X508 H d7_230) ?_
        refine OwnG.st (y_lconst X508 H 1 d7_231 rfl) ?_
        refine OwnG.st (y_ladd X508 H d7_232) ?_
        have hgc := x_ladd size.toInt64 1 (by omega)
        obtain ⟨cq509, kq509, q509a, q509b, q509c⟩ := isOf hZ e508 f499
        refine OwnG.cm 236 3 300 X508 (X508.virtualBack hx (y := mn_13) (z := mn_13) hown (mvT hZ (ww hw 105 rfl)) (mvT hZ (ww hw 106 rfl)) (notFace_of_selects (args := #[]) (mvT hZ (ww hw 108 rfl))) (mvT hZ (ww hw 108 rfl)) (mvT hZ (ww hw 107 rfl)) (by decide) (backOf (W := 1) (rm13 l Z a0 hw [] bud hash ((size.toInt64) + (1 : Int64)) u440 nH gH h487 n0 Z487 gb_bud ⟨f499, f500, f501⟩ f502 hD.2.2.2.2.2.2.2.1 (by omega) hnH2 (by omega)) hZ (ww hw 109 rfl) (ww hw 13 rfl) (by decide) (by decide)) q509a q509c (g := mkF m 233 _ _) rfl (by rw [hml]; rfl) (Steps.refl _) (argsL := [(.ref hash), (.long ((size.toInt64) + (1 : Int64)))]) (rest := [(.ref a1)]) (lenOf pd_7B_2 rfl) rfl (by show 2 * 0 + _ ≤ _; exact Nat.le_of_eq rfl) (hb hby d7_233) (fun _ _ => ⟨rfl, e508, (by decide : 2 + 1 ≤ _), (by decide : 200 + 100 ≤ _)⟩)) rfl rfl ?_
        intro T509 Lc509 vc509 X509 hQ509
        obtain ⟨x509, n509', g509', u509, hv509, N509q, Kq509, B509q, Vq509, sx509, hn509a, hn509b, hn509c, hg509, hu509a, hu509b⟩ := hQ509
        have ne509_510 : NeA a1 x509 := Or.elim sx509 (fun q => by rw [q]; exact (Ne.symm hD.2.2.2.2.2.2.1)) (fun q => Nat.ne_of_lt (Nat.lt_of_lt_of_le (Exa.lt f488) q))
        have ne509_512 : NeA table x509 := Or.elim sx509 (fun q => by rw [q]; exact hD.2.2.2.2.2.2.2.2.2.2.2.2.2.2.1) (fun q => Nat.ne_of_lt (Nat.lt_of_lt_of_le f503.lt q))
        have ne509_514 : NeA x349 x509 := Or.elim sx509 (fun q => by rw [q]; exact (Ne.symm ne349_353)) (fun q => Nat.ne_of_lt (Nat.lt_of_lt_of_le f505.lt q))
        have ne509_515 : NeA x440 x509 := Or.elim sx509 (fun q => by rw [q]; exact (Ne.symm ne440_443)) (fun q => Nat.ne_of_lt (Nat.lt_of_lt_of_le V487'.lt q))
        have inw_x509 : x509 ∈ [a1, bud, pool, start, hash, table, enc] ∨ h0.size ≤ x509 := Or.elim sx509 (fun q => by rw [q]; exact Or.inl (by simp)) (fun q => Or.inr (Nat.le_trans K487.1 q))
        have gb_x509 : LeA (n0) (x509) := Or.elim sx509 (fun q => by rw [q]; exact gb_hash) (fun q => Nat.le_trans Z487 q)
        have f516 := Exa.keep f488 Kq509
        have f517 := Fld.keep f489 Kq509 (ninS (Ne.symm hD.1) nin0)
        have f518 := Fld.keep f490 Kq509 (ninS (Ne.symm hD.1) nin0)
        have f519 := Fld.keep f491 Kq509 (ninS (Ne.symm hD.1) nin0)
        have f520 := Fld.keep f492 Kq509 (ninS (Ne.symm hD.1) nin0)
        have f521 := Fld.keep f493 Kq509 (ninS (Ne.symm hD.1) nin0)
        have f522 := Fld.keep f494 Kq509 (ninS (Ne.symm hD.1) nin0)
        have f523 := Fld.keep f495 Kq509 (ninS (Ne.symm hD.1) nin0)
        have f524 := Fld.keep f496 Kq509 (ninS (Ne.symm hD.1) nin0)
        have f525 := Fld.keep f497 Kq509 (ninS (Ne.symm hD.1) nin0)
        have f526 := Fld.keep f498 Kq509 (ninS (Ne.symm hD.1) nin0)
        have f529 := f503.keep Kq509 (ninS hD.2.2.2.2.2.2.2.2.2.2.2.1 nin0)
        have f531 := f505.keep Kq509 (ninS (Ne.symm ne349_351) nin0)
        have f532 := V487'.keep Kq509 (ninS (Ne.symm ne440_442) nin0)
        have K509 : Keep h0 T509.heap [a1, bud, pool, start, hash, table, enc] := K487.trans Kq509 (own_trS (P := fun x => x ∈ [a1, bud, pool, start, hash, table, enc] ∨ h0.size ≤ x) (Or.inl (by simp)) own_tr0)
        obtain ⟨EBG_533, FBG0_533, FBG1_533⟩ := B509q
        have N509 := Fr.app N487 N509q
        refine OwnG.cv hv509 ?_
        clear hv509
        refine OwnG.v2 239 (putF X509 hx hZ hown (host := "") (Or.inl (ww hw 41 rfl)) Via.refl rfl f520 f516 (Or.inl (ww hw 42 rfl)) (ww hw 9 rfl) (ty := (.array .int)) (by decide) rfl rfl (g := mkF m 236 _ _) rfl rfl (hb hby d7_236)) ?_
        intro T534 h534 X534 e534 W534
        have f535 := Exa.wr W534 f516
        have f536 := Fld.other W534 f517 (Or.inr (sn_64 hw))
        have f537 := Fld.other W534 f518 (Or.inr (sn_65 hw))
        have f538 := Fld.other W534 f519 (Or.inr (sn_66 hw))
        have f539 := Fld.other W534 f521 (Or.inr (sn_67 hw))
        have f540 := Fld.other W534 f522 (Or.inr (sn_68 hw))
        have f541 := Fld.other W534 f523 (Or.inr (sn_69 hw))
        have f542 := Fld.other W534 f524 (Or.inr (sn_70 hw))
        have f543 := Fld.other W534 f525 (Or.inr (sn_71 hw))
        have f544 := Fld.other W534 f526 (Or.inr (sn_72 hw))
        have f548 := f529.other W534 hD.2.2.2.2.2.2.2.2.2.2.1
        have f550 := f531.other W534 (Ne.symm ne349_350)
        have f551 := f532.other W534 (Ne.symm ne440_441)
        have f552 := Vq509.other W534 (Ne.symm ne509_510)
        have Fw534 : Fld Z h534 a1 "com/example/deft_nets/deftnets/MarkingStore" "mHash" "[I" (.ref x509) := Fld.same W534 f520
        have N534 := Fr.snoc X534 N509 gb_a1
        have K534 : Keep h0 h534 [a1, bud, pool, start, hash, table, enc] := K509.wr W534 (Or.inl (by simp))
        refine OwnG.st (y_aloadN X534 H d7_239 rfl) ?_
        refine OwnG.v1 243 (getF X534 hx hZ hown (host := "") (Or.inl (ww hw 41 rfl)) Via.refl e534 Fw534 (g := mkF m 240 _ _) rfl rfl (hb hby d7_240)) ?_
        intro T553 X553 e553
        refine OwnG.st (y_aloadN X553 H d7_243 rfl) ?_
        refine OwnG.v1 247 (getF X553 hx hZ hown (host := "") (Or.inl (ww hw 75 rfl)) Via.refl e553 f543 (g := mkF m 244 _ _) rfl rfl (hb hby d7_244)) ?_
        intro T554 X554 e554
        refine OwnG.st (y_iloadN X554 H d7_247 rfl) ?_
        refine OwnG.v3 249 (own_stI f552 X554 hx hZ e554 (by omega) (by omega) (gf := mkF m 248 _ _) rfl rfl (hb hby d7_248)) ?_
        intro T555 h555 X555 e555 W555 V555
        have V555' : OwnA Z h555 x509 .int n509' (iv' (updv g509' size.toInt.toNat w53)) := V555
        have f556 := Exa.wr W555 f535
        have f557 := Fld.other W555 f536 (Or.inl ne509_510)
        have f558 := Fld.other W555 f537 (Or.inl ne509_510)
        have f559 := Fld.other W555 f538 (Or.inl ne509_510)
        have f560 := Fld.other W555 Fw534 (Or.inl ne509_510)
        have f561 := Fld.other W555 f539 (Or.inl ne509_510)
        have f562 := Fld.other W555 f540 (Or.inl ne509_510)
        have f563 := Fld.other W555 f541 (Or.inl ne509_510)
        have f564 := Fld.other W555 f542 (Or.inl ne509_510)
        have f565 := Fld.other W555 f543 (Or.inl ne509_510)
        have f566 := Fld.other W555 f544 (Or.inl ne509_510)
        have f570 := f548.other W555 ne509_512
        have f572 := f550.other W555 ne509_514
        have f573 := f551.other W555 ne509_515
        have N555 := Fr.snoc X555 N534 gb_x509
        have K555 : Keep h0 h555 [a1, bud, pool, start, hash, table, enc] := K534.wr W555 (inw_x509)
        refine OwnG.st (y_aloadN X555 H d7_249 rfl) ?_
        refine OwnG.v1 253 (getF X555 hx hZ hown (host := "") (Or.inl (ww hw 43 rfl)) Via.refl e555 f561 (g := mkF m 250 _ _) rfl rfl (hb hby d7_250)) ?_
        intro T574 X574 e574
        refine OwnG.st (y_iloadN X574 H d7_253 rfl) ?_
        refine OwnG.st (y_aloadN X574 H d7_254 rfl) ?_
        refine OwnG.v1 258 (getF X574 hx hZ hown (host := "") (Or.inl (ww hw 75 rfl)) Via.refl e574 f565 (g := mkF m 255 _ _) rfl rfl (hb hby d7_255)) ?_
        intro T575 X575 e575
        refine OwnG.st (y_iconst X575 H (1) d7_258 rfl) ?_
        refine OwnG.st (y_iadd X575 H d7_259) ?_
        refine OwnG.v3 261 (own_stI f570 X575 hx hZ e575 hix_z3_342.1 hix_z3_342.2 (gf := mkF m 260 _ _) rfl rfl (hb hby d7_260)) ?_
        intro T576 h576 X576 e576 W576 V576
        have V576' : OwnA Z h576 table .int 16 (iv' (updv (updv (fun _ => 0) j0 t1) z3_342.toInt.toNat (size + (1 : Int32)))) := V576
        have f577 := Exa.wr W576 f556
        have f578 := Fld.other W576 f557 (Or.inl (Ne.symm hD.2.2.2.2.2.2.2.2.2.2.1))
        have f579 := Fld.other W576 f558 (Or.inl (Ne.symm hD.2.2.2.2.2.2.2.2.2.2.1))
        have f580 := Fld.other W576 f559 (Or.inl (Ne.symm hD.2.2.2.2.2.2.2.2.2.2.1))
        have f581 := Fld.other W576 f560 (Or.inl (Ne.symm hD.2.2.2.2.2.2.2.2.2.2.1))
        have f582 := Fld.other W576 f561 (Or.inl (Ne.symm hD.2.2.2.2.2.2.2.2.2.2.1))
        have f583 := Fld.other W576 f562 (Or.inl (Ne.symm hD.2.2.2.2.2.2.2.2.2.2.1))
        have f584 := Fld.other W576 f563 (Or.inl (Ne.symm hD.2.2.2.2.2.2.2.2.2.2.1))
        have f585 := Fld.other W576 f564 (Or.inl (Ne.symm hD.2.2.2.2.2.2.2.2.2.2.1))
        have f586 := Fld.other W576 f565 (Or.inl (Ne.symm hD.2.2.2.2.2.2.2.2.2.2.1))
        have f587 := Fld.other W576 f566 (Or.inl (Ne.symm hD.2.2.2.2.2.2.2.2.2.2.1))
        have f592 := f572.other W576 (Ne.symm ne349_354)
        have f593 := f573.other W576 (Ne.symm ne440_444)
        have N576 := Fr.snoc X576 N555 gb_table
        have K576 : Keep h0 h576 [a1, bud, pool, start, hash, table, enc] := K555.wr W576 (Or.inl (by simp))
        refine OwnG.st (y_aloadN X576 H d7_261 rfl) ?_
        refine OwnG.st (y_dup X576 H d7_262 rfl) ?_
        refine OwnG.v1 266 (getF X576 hx hZ hown (host := "") (Or.inl (ww hw 75 rfl)) Via.refl e576 f586 (g := mkF m 263 _ _) rfl rfl (hb hby d7_263)) ?_
        intro T595 X595 e595
        refine OwnG.st (y_dup_x1 X595 H d7_266 rfl rfl) ?_
        refine OwnG.st (y_iconst X595 H (1) d7_267 rfl) ?_
        refine OwnG.st (y_iadd X595 H d7_268) ?_
        refine OwnG.v2 272 (putF X595 hx hZ hown (host := "") (Or.inl (ww hw 75 rfl)) Via.refl e595 f586 f577 (Or.inl (ww hw 76 rfl)) (ww hw 9 rfl) (ty := .int) (by decide) rfl rfl (g := mkF m 269 _ _) rfl rfl (hb hby d7_269)) ?_
        intro T596 h596 X596 e596 W596
        have f597 := Exa.wr W596 f577
        have f598 := Fld.other W596 f578 (Or.inr (sn_73 hw))
        have f599 := Fld.other W596 f579 (Or.inr (sn_74 hw))
        have f600 := Fld.other W596 f580 (Or.inr (sn_75 hw))
        have f601 := Fld.other W596 f581 (Or.inr (sn_76 hw))
        have f602 := Fld.other W596 f582 (Or.inr (sn_77 hw))
        have f603 := Fld.other W596 f583 (Or.inr (sn_78 hw))
        have f604 := Fld.other W596 f584 (Or.inr (sn_79 hw))
        have f605 := Fld.other W596 f585 (Or.inr (sn_80 hw))
        have f606 := Fld.other W596 f587 (Or.inr (sn_81 hw))
        have f612 := f592.other W596 (Ne.symm ne349_350)
        have f613 := f593.other W596 (Ne.symm ne440_441)
        have Fw596 : Fld Z h596 a1 "com/example/deft_nets/deftnets/MarkingStore" "mSize" "I" (.int (size + (1 : Int32))) := Fld.same W596 f586
        have N596 := Fr.snoc X596 N576 gb_a1
        have K596 : Keep h0 h596 [a1, bud, pool, start, hash, table, enc] := K576.wr W596 (Or.inl (by simp))
        have hVp : OwnA Z h596 x349 .byte n349' (iv' (cpv gE g349' 0 e0' eL)) := by have q := f612; rw [hdp, hdl] at q; exact q
        have hVs : OwnA Z h596 x440 .int n440' (iv' (updv g440' 2 (psz + elen))) := by have q := f613; rw [hsn2] at q; exact q
        have hg0 : (updv g440' 2 (psz + elen) 0).toInt = 0 := by rw [own_u0 _ _ _ _ (by decide), hg440 0 (by omega)]; exact hs0
        have hg1 : (updv g440' 2 (psz + elen) 1).toInt = e0' := by rw [own_u0 _ _ _ _ (by decide), hg440 1 (by omega)]; exact hs1
        have hg2 : (updv g440' 2 (psz + elen) 2).toInt = e0' + eL := by rw [own_u1]; omega
        have hSm : SD Z h596 h596.size a1 size eL gE := ⟨x349, (psz + elen), x440, x509, table, enc, elen, next, (size + (1 : Int32)), bud, n349', n440', e0', (cpv gE g349' 0 e0' eL), (updv g440' 2 (psz + elen)), ⟨f597, f598, f599, f600, f601, f602, f603, f604, f605, Fw596, f606⟩, hVp, hVs, (Ne.symm ne349_350), (Ne.symm ne440_441), Exa.lt f597, hVp.lt, hVs.lt, by omega, by omega, by omega, by omega, by rw [hsn]; exact hg1, by rw [hsn]; exact hg2, by omega, own_cpl0 gE g349' e0' eL⟩
        have hS0 : SD Z h596 h596.size a1 0 e0' gX := ⟨x349, (psz + elen), x440, x509, table, enc, elen, next, (size + (1 : Int32)), bud, n349', n440', 0, (cpv gE g349' 0 e0' eL), (updv g440' 2 (psz + elen)), ⟨f597, f598, f599, f600, f601, f602, f603, f604, f605, Fw596, f606⟩, hVp, hVs, (Ne.symm ne349_350), (Ne.symm ne440_441), Exa.lt f597, hVp.lt, hVs.lt, by omega, by omega, by decide, by rw [z0]; omega, hg0, by show ((updv g440' 2 (psz + elen)) 1).toInt = _; rw [hg1]; omega, by omega, fun i hi => by rw [Nat.zero_add, own_cpl1 gE g349' e0' eL i hi, hg349 i (by omega)]; exact hX i hi⟩
        exact OwnG.retI X596 hx Bd.returns (BodyLoose.notSynchronized Bd) (hb hby d7_272) (by rw [e596]; exact ⟨_, rfl, N596, own_kb K596 (own_trS (P := fun x => kk ≤ x) ge_a1 (own_trS ge_bud (own_trS ge_pool (own_trS ge_start (own_trS ge_hash (own_trS ge_table (own_trS ge_enc own_tr0))))))), hSm, hS0⟩) (by decide) (by decide)
      · refine OwnG.st (y_ifN X340 H d7_104 ((if0 _ _).trans (feq hc104_341).1)) ?_
        refine OwnG.st (y_iload X340 H d7_107 rfl) ?_
        have hq := hq340 ((hw340).resolve_left hc104_341)
        rw [hs0', hs1', z0] at hq
        have hq1 := hq.1
        have hq2 := hq.2
        have hSm : SD Z h0 h0.size a1 z4_332 eL gE := ⟨pool, psz, start, hash, table, enc, elen, next, size, bud, nP, nS, 0, gP, gS, ⟨EMS_51, FMS0_51, FMS1_51, FMS2_51, FMS3_51, FMS4_51, FMS5_51, FMS6_51, FMS7_51, FMS8_51, FMS9_51⟩, A_p, A_s, hD.2.1, hD.2.2.2.1, Exa.lt EMS_51, A_p.lt, A_s.lt, by omega, by omega, by omega, by omega, by rw [hs0']; rfl, by rw [show z4_332.toInt.toNat + 1 = 1 by omega, hs1]; omega, by omega, fun i hi => by have q := hq2 i (by omega); rw [show Int.toNat 0 = 0 from rfl, Nat.zero_add] at q; rw [Nat.zero_add]; exact q⟩
        have hS0 : SD Z h0 h0.size a1 0 e0' gX := ⟨pool, psz, start, hash, table, enc, elen, next, size, bud, nP, nS, 0, gP, gS, ⟨EMS_51, FMS0_51, FMS1_51, FMS2_51, FMS3_51, FMS4_51, FMS5_51, FMS6_51, FMS7_51, FMS8_51, FMS9_51⟩, A_p, A_s, hD.2.1, hD.2.2.2.1, Exa.lt EMS_51, A_p.lt, A_s.lt, by omega, by omega, by decide, by rw [z0]; omega, hs0, by show (gS 1).toInt = _; rw [hs1]; omega, by omega, fun i hi => by rw [Nat.zero_add]; exact hX i hi⟩
        exact OwnG.retI X340 hx Bd.returns (BodyLoose.notSynchronized Bd) (hb hby d7_109) (by rw [e340]; exact ⟨_, rfl, N340, own_kb (Keep.refl h0 [a1, bud, pool, start, hash, table, enc]) (own_trS (P := fun x => kk ≤ x) ge_a1 (own_trS ge_bud (own_trS ge_pool (own_trS ge_start (own_trS ge_hash (own_trS ge_table (own_trS ge_enc own_tr0))))))), hSm, hS0⟩) (by decide) (by decide)
    · refine OwnG.st (y_icY X333 H 110 d7_69 (feq hc69_334).2 (by decide) (by decide)) ?_
      refine OwnG.st (y_iloadN X333 H d7_110 rfl) ?_
      refine OwnG.st (y_iconst X333 H (1) d7_111 rfl) ?_
      refine OwnG.st (y_iadd X333 H d7_112) ?_
      refine OwnG.st (y_iloadN X333 H d7_113 rfl) ?_
      refine OwnG.st (y_iand X333 H d7_114) ?_
      refine OwnG.st (y_istoreN X333 H #[.val (.ref a1), .val (.int w53), .val (.int ((16 : Int32) - (1 : Int32))), .val (.int ((z3_58 + (1 : Int32)) &&& ((16 : Int32) - (1 : Int32)))), .val (.int z4_332)] d7_115 rfl) ?_
      refine OwnG.st (y_goto X333 H 42 d7_116 (by decide) (by decide)) ?_
      show OwnG p e below s _ _ _ T333 (mkF m 42 #[.val (.ref a1), .val (.int w53), .val (.int ((16 : Int32) - (1 : Int32))), .val (.int ((z3_58 + (1 : Int32)) &&& ((16 : Int32) - (1 : Int32)))), .val (.int z4_332)] [])
      obtain ⟨z3_615, hz3_615⟩ : ∃ w : Int32, w = ((z3_58 + (1 : Int32)) &&& ((16 : Int32) - (1 : Int32))) := ⟨_, rfl⟩
      rw [← hz3_615]
      have hix_z3_615 : 0 ≤ z3_615.toInt ∧ z3_615.toInt < 16 := by rw [hz3_615]; exact own_idx _
      refine OwnG.st (y_aloadN X333 H d7_42 rfl) ?_
      refine OwnG.v1 46 (getF X333 hx hZ hown (host := "") (Or.inl (ww hw 43 rfl)) Via.refl e333 FMS4_51 (g := mkF m 43 _ _) rfl rfl (hb hby d7_43)) ?_
      intro T616 X616 e616
      have hc48_617 : ((updv (fun _ => 0) j0 t1) z3_615.toInt.toNat) = (0 : Int32) := own_t1 j0 t1 _ _ hc48_60 hz3_615 hix_z3_58
      refine OwnG.st (y_iloadN X616 H d7_46 rfl) ?_
      refine OwnG.st (y_ldI A_t X616 H hZ e616 hix_z3_615.1 hix_z3_615.2 d7_47 ((updv (fun _ => 0) j0 t1) z3_615.toInt.toNat) rfl) ?_
      refine OwnG.st (y_ifY X616 H 119 d7_48 ((if0 _ _).trans (teq hc48_617).1) (by decide) (by decide)) ?_
      refine OwnG.st (y_aloadN X616 H d7_119 rfl) ?_
      refine OwnG.st (y_aloadN X616 H d7_120 rfl) ?_
      refine OwnG.v1 124 (getF X616 hx hZ hown (host := "") (Or.inl (ww hw 47 rfl)) Via.refl e616 FMS9_51 (g := mkF m 121 _ _) rfl rfl (hb hby d7_121)) ?_
      intro T618 X618 e618
      refine OwnG.st (y_aloadN X618 H d7_124 rfl) ?_
      refine OwnG.v1 128 (getF X618 hx hZ hown (host := "") (Or.inl (ww hw 37 rfl)) Via.refl e618 FMS0_51 (g := mkF m 125 _ _) rfl rfl (hb hby d7_125)) ?_
      intro T619 X619 e619
      refine OwnG.st (y_aloadN X619 H d7_128 rfl) ?_
      refine OwnG.v1 132 (getF X619 hx hZ hown (host := "") (Or.inl (ww hw 94 rfl)) Via.refl e619 FMS1_51 (g := mkF m 129 _ _) rfl rfl (hb hby d7_129)) ?_
      intro T620 X620 e620
      refine OwnG.st (y_i2l X620 H d7_132) ?_
      refine OwnG.st (y_aloadN X620 H d7_133 rfl) ?_
      refine OwnG.v1 137 (getF X620 hx hZ hown (host := "") (Or.inl (ww hw 59 rfl)) Via.refl e620 FMS6_51 (g := mkF m 134 _ _) rfl rfl (hb hby d7_134)) ?_
      intro T621 X621 e621
      refine OwnG.st (y_i2l X621 H d7_137) ?_
      refine OwnG.st (y_ladd X621 H d7_138) ?_
      have hga := x_ladd psz.toInt64 elen.toInt64 (by omega)
      obtain ⟨cq622, kq622, q622a, q622b, q622c⟩ := isOf hZ e621 EBG_52
      refine OwnG.cm 142 1 100 X621 (X621.virtualBack hx (y := mn_12) (z := mn_12) hown (mvT hZ (ww hw 96 rfl)) (mvT hZ (ww hw 97 rfl)) (notFace_of_selects (args := #[]) (mvT hZ (ww hw 99 rfl))) (mvT hZ (ww hw 99 rfl)) (mvT hZ (ww hw 98 rfl)) (by decide) (backOf (W := 1) (rm12 l Z a0 hw [] bud pool ((psz.toInt64) + (elen.toInt64)) used nP gP h0 n0 Z0 gb_bud ⟨EBG_52, FBG0_52, FBG1_52⟩ A_p hD.2.2.1 (by omega) hnP (by omega) hBP) hZ (ww hw 100 rfl) (ww hw 13 rfl) (by decide) (by decide)) q622a q622c (g := mkF m 139 _ _) rfl (by rw [hml]; rfl) (Steps.refl _) (argsL := [(.ref pool), (.long ((psz.toInt64) + (elen.toInt64)))]) (rest := [(.ref a1)]) (lenOf pd_7B_1 rfl) rfl (by show 2 * 0 + _ ≤ _; exact Nat.le_of_eq rfl) (hb hby d7_139) (fun _ _ => ⟨rfl, e621, (by decide : 0 + 1 ≤ _), (by decide : 0 + 100 ≤ _)⟩)) rfl rfl ?_
      intro T622 Lc622 vc622 X622 hQ622
      obtain ⟨x622, n622', g622', u622, hv622, N622q, Kq622, B622q, Vq622, sx622, hn622a, hn622b, hn622c, hg622, hBy622, hu622a, hu622b⟩ := hQ622
      have ne622_623 : NeA a1 x622 := Or.elim sx622 (fun q => by rw [q]; exact (Ne.symm hD.2.1)) (fun q => Nat.ne_of_lt (Nat.lt_of_lt_of_le (Exa.lt EMS_51) q))
      have ne622_624 : NeA bud x622 := Or.elim sx622 (fun q => by rw [q]; exact (Ne.symm hD.2.2.1)) (fun q => Nat.ne_of_lt (Nat.lt_of_lt_of_le (Exa.lt EBG_52) q))
      have ne622_625 : NeA start x622 := Or.elim sx622 (fun q => by rw [q]; exact hD.2.2.2.2.2.1) (fun q => Nat.ne_of_lt (Nat.lt_of_lt_of_le A_s.lt q))
      have ne622_626 : NeA hash x622 := Or.elim sx622 (fun q => by rw [q]; exact hD.2.2.2.2.2.2.2.2.1) (fun q => Nat.ne_of_lt (Nat.lt_of_lt_of_le A_h.lt q))
      have ne622_627 : NeA table x622 := Or.elim sx622 (fun q => by rw [q]; exact hD.2.2.2.2.2.2.2.2.2.2.2.2.1) (fun q => Nat.ne_of_lt (Nat.lt_of_lt_of_le A_t.lt q))
      have inw_x622 : x622 ∈ [a1, bud, pool, start, hash, table, enc] ∨ h0.size ≤ x622 := Or.elim sx622 (fun q => by rw [q]; exact Or.inl (by simp)) (fun q => Or.inr (Nat.le_trans (Keep.refl h0 [a1, bud, pool, start, hash, table, enc]).1 q))
      have gb_x622 : LeA (n0) (x622) := Or.elim sx622 (fun q => by rw [q]; exact gb_pool) (fun q => Nat.le_trans Z0 q)
      have Z622 : LeA (n0) (T622.heap.size) := Nat.le_trans Z0 Kq622.1
      have f629 := Exa.keep EMS_51 Kq622
      have f630 := Fld.keep FMS0_51 Kq622 (ninS (Ne.symm hD.1) nin0)
      have f631 := Fld.keep FMS1_51 Kq622 (ninS (Ne.symm hD.1) nin0)
      have f632 := Fld.keep FMS2_51 Kq622 (ninS (Ne.symm hD.1) nin0)
      have f633 := Fld.keep FMS3_51 Kq622 (ninS (Ne.symm hD.1) nin0)
      have f634 := Fld.keep FMS4_51 Kq622 (ninS (Ne.symm hD.1) nin0)
      have f635 := Fld.keep FMS5_51 Kq622 (ninS (Ne.symm hD.1) nin0)
      have f636 := Fld.keep FMS6_51 Kq622 (ninS (Ne.symm hD.1) nin0)
      have f637 := Fld.keep FMS7_51 Kq622 (ninS (Ne.symm hD.1) nin0)
      have f638 := Fld.keep FMS8_51 Kq622 (ninS (Ne.symm hD.1) nin0)
      have f639 := Fld.keep FMS9_51 Kq622 (ninS (Ne.symm hD.1) nin0)
      have f642 := A_s.keep Kq622 (ninS hD.2.2.2.2.1 nin0)
      have f643 := A_h.keep Kq622 (ninS hD.2.2.2.2.2.2.2.1 nin0)
      have f644 := A_t.keep Kq622 (ninS hD.2.2.2.2.2.2.2.2.2.2.2.1 nin0)
      have f645 := A_e.keep Kq622 (ninS hD.2.2.2.2.2.2.2.2.2.2.2.2.2.2.2.2.1 nin0)
      have K622 : Keep h0 T622.heap [a1, bud, pool, start, hash, table, enc] := (Keep.refl h0 [a1, bud, pool, start, hash, table, enc]).trans Kq622 (own_trS (P := fun x => x ∈ [a1, bud, pool, start, hash, table, enc] ∨ h0.size ≤ x) (Or.inl (by simp)) own_tr0)
      obtain ⟨EBG_646, FBG0_646, FBG1_646⟩ := B622q
      have N622 := Fr.app N53 N622q
      refine OwnG.cv hv622 ?_
      clear hv622
      refine OwnG.v2 145 (putF X622 hx hZ hown (host := "") (Or.inl (ww hw 37 rfl)) Via.refl rfl f630 f629 (Or.inl (ww hw 38 rfl)) (ww hw 9 rfl) (ty := (.array .byte)) (by decide) rfl rfl (g := mkF m 142 _ _) rfl rfl (hb hby d7_142)) ?_
      intro T647 h647 X647 e647 W647
      have f648 := Exa.wr W647 f629
      have f649 := Fld.other W647 f631 (Or.inr (sn_37 hw))
      have f650 := Fld.other W647 f632 (Or.inr (sn_38 hw))
      have f651 := Fld.other W647 f633 (Or.inr (sn_39 hw))
      have f652 := Fld.other W647 f634 (Or.inr (sn_40 hw))
      have f653 := Fld.other W647 f635 (Or.inr (sn_41 hw))
      have f654 := Fld.other W647 f636 (Or.inr (sn_42 hw))
      have f655 := Fld.other W647 f637 (Or.inr (sn_43 hw))
      have f656 := Fld.other W647 f638 (Or.inr (sn_44 hw))
      have f657 := Fld.other W647 f639 (Or.inr (sn_45 hw))
      have f658 := Exa.wr W647 EBG_646
      have f659 := Fld.other W647 FBG0_646 (Or.inl hD.1)
      have f660 := Fld.other W647 FBG1_646 (Or.inl hD.1)
      have f661 := f642.other W647 hD.2.2.2.1
      have f662 := f643.other W647 hD.2.2.2.2.2.2.1
      have f663 := f644.other W647 hD.2.2.2.2.2.2.2.2.2.2.1
      have f664 := f645.other W647 hD.2.2.2.2.2.2.2.2.2.2.2.2.2.2.2.1
      have f665 := Vq622.other W647 (Ne.symm ne622_623)
      have Fw647 : Fld Z h647 a1 "com/example/deft_nets/deftnets/MarkingStore" "mPool" "[B" (.ref x622) := Fld.same W647 f630
      have N647 := Fr.snoc X647 N622 gb_a1
      have Z647 : LeA (n0) (h647.size) := by rw [W647.size]; exact Z622
      have K647 : Keep h0 h647 [a1, bud, pool, start, hash, table, enc] := K622.wr W647 (Or.inl (by simp))
      refine OwnG.st (y_aloadN X647 H d7_145 rfl) ?_
      refine OwnG.v1 149 (getF X647 hx hZ hown (host := "") (Or.inl (ww hw 45 rfl)) Via.refl e647 f653 (g := mkF m 146 _ _) rfl rfl (hb hby d7_146)) ?_
      intro T666 X666 e666
      refine OwnG.st (y_iconst X666 H (0) d7_149 rfl) ?_
      refine OwnG.st (y_aloadN X666 H d7_150 rfl) ?_
      refine OwnG.v1 154 (getF X666 hx hZ hown (host := "") (Or.inl (ww hw 37 rfl)) Via.refl e666 Fw647 (g := mkF m 151 _ _) rfl rfl (hb hby d7_151)) ?_
      intro T667 X667 e667
      refine OwnG.st (y_aloadN X667 H d7_154 rfl) ?_
      refine OwnG.v1 158 (getF X667 hx hZ hown (host := "") (Or.inl (ww hw 94 rfl)) Via.refl e667 f649 (g := mkF m 155 _ _) rfl rfl (hb hby d7_155)) ?_
      intro T668 X668 e668
      refine OwnG.st (y_aloadN X668 H d7_158 rfl) ?_
      refine OwnG.v1 162 (getF X668 hx hZ hown (host := "") (Or.inl (ww hw 59 rfl)) Via.refl e668 f654 (g := mkF m 159 _ _) rfl rfl (hb hby d7_159)) ?_
      intro T669 X669 e669
      refine OwnG.v6 165 (own_cp f664 f665 (by omega) (by omega) (Or.inr ⟨rfl, hBy, hBy622⟩) X669 hx hZ hown (ww hw 101 rfl) (ww hw 104 rfl) (ww hw 102 rfl) (ww hw 103 rfl) e669 (by decide) (by omega) (by omega) (by show (0 : Int) + _ ≤ _; omega) (by omega) N647 gb_x622 (gf := mkF m 162 _ _) rfl (by rw [hml]; rfl) (rest := []) rfl (hb hby d7_162) (by decide) (W := 0) (by show 2 * 0 + _ ≤ _; exact Nat.le_of_eq rfl) (by decide)) ?_
      intro T670 h670 L670 X670 e670 N670 Kc670 V670
      have V670' : OwnA Z h670 x622 .byte n622' (iv' (cpv gE g622' 0 psz.toInt.toNat elen.toInt.toNat)) := V670
      have Z670 : LeA (n0) (h670.size) := Nat.le_trans Z647 Kc670.1
      have f671 := Exa.keep f648 Kc670
      have f672 := Fld.keep Fw647 Kc670 (ninS ne622_623 nin0)
      have f673 := Fld.keep f649 Kc670 (ninS ne622_623 nin0)
      have f674 := Fld.keep f650 Kc670 (ninS ne622_623 nin0)
      have f675 := Fld.keep f651 Kc670 (ninS ne622_623 nin0)
      have f676 := Fld.keep f652 Kc670 (ninS ne622_623 nin0)
      have f677 := Fld.keep f653 Kc670 (ninS ne622_623 nin0)
      have f678 := Fld.keep f654 Kc670 (ninS ne622_623 nin0)
      have f679 := Fld.keep f655 Kc670 (ninS ne622_623 nin0)
      have f680 := Fld.keep f656 Kc670 (ninS ne622_623 nin0)
      have f681 := Fld.keep f657 Kc670 (ninS ne622_623 nin0)
      have f682 := Exa.keep f658 Kc670
      have f683 := Fld.keep f659 Kc670 (ninS ne622_624 nin0)
      have f684 := Fld.keep f660 Kc670 (ninS ne622_624 nin0)
      have f685 := f661.keep Kc670 (ninS ne622_625 nin0)
      have f686 := f662.keep Kc670 (ninS ne622_626 nin0)
      have f687 := f663.keep Kc670 (ninS ne622_627 nin0)
      have K670 : Keep h0 h670 [a1, bud, pool, start, hash, table, enc] := K647.trans Kc670 (own_trS (P := fun x => x ∈ [a1, bud, pool, start, hash, table, enc] ∨ h0.size ≤ x) (inw_x622) own_tr0)
      refine OwnG.st (y_aloadN X670 H d7_165 rfl) ?_
      refine OwnG.st (y_dup X670 H d7_166 rfl) ?_
      refine OwnG.v1 170 (getF X670 hx hZ hown (host := "") (Or.inl (ww hw 94 rfl)) Via.refl e670 f673 (g := mkF m 167 _ _) rfl rfl (hb hby d7_167)) ?_
      intro T689 X689 e689
      refine OwnG.st (y_aloadN X689 H d7_170 rfl) ?_
      refine OwnG.v1 174 (getF X689 hx hZ hown (host := "") (Or.inl (ww hw 59 rfl)) Via.refl e689 f678 (g := mkF m 171 _ _) rfl rfl (hb hby d7_171)) ?_
      intro T690 X690 e690
      refine OwnG.st (y_iadd X690 H d7_174) ?_
      refine OwnG.v2 178 (putF X690 hx hZ hown (host := "") (Or.inl (ww hw 94 rfl)) Via.refl e690 f673 f671 (Or.inl (ww hw 95 rfl)) (ww hw 9 rfl) (ty := .int) (by decide) rfl rfl (g := mkF m 175 _ _) rfl rfl (hb hby d7_175)) ?_
      intro T691 h691 X691 e691 W691
      have f692 := Exa.wr W691 f671
      have f693 := Fld.other W691 f672 (Or.inr (sn_46 hw))
      have f694 := Fld.other W691 f674 (Or.inr (sn_47 hw))
      have f695 := Fld.other W691 f675 (Or.inr (sn_48 hw))
      have f696 := Fld.other W691 f676 (Or.inr (sn_49 hw))
      have f697 := Fld.other W691 f677 (Or.inr (sn_50 hw))
      have f698 := Fld.other W691 f678 (Or.inr (sn_51 hw))
      have f699 := Fld.other W691 f679 (Or.inr (sn_52 hw))
      have f700 := Fld.other W691 f680 (Or.inr (sn_53 hw))
      have f701 := Fld.other W691 f681 (Or.inr (sn_54 hw))
      have f702 := Exa.wr W691 f682
      have f703 := Fld.other W691 f683 (Or.inl hD.1)
      have f704 := Fld.other W691 f684 (Or.inl hD.1)
      have f705 := f685.other W691 hD.2.2.2.1
      have f706 := f686.other W691 hD.2.2.2.2.2.2.1
      have f707 := f687.other W691 hD.2.2.2.2.2.2.2.2.2.2.1
      have f709 := V670'.other W691 (Ne.symm ne622_623)
      have Fw691 : Fld Z h691 a1 "com/example/deft_nets/deftnets/MarkingStore" "mPoolSize" "I" (.int (psz + elen)) := Fld.same W691 f673
      have N691 := Fr.snoc X691 N670 gb_a1
      have Z691 : LeA (n0) (h691.size) := by rw [W691.size]; exact Z670
      have K691 : Keep h0 h691 [a1, bud, pool, start, hash, table, enc] := K670.wr W691 (Or.inl (by simp))
      refine OwnG.st (y_aloadN X691 H d7_178 rfl) ?_
      refine OwnG.st (y_aloadN X691 H d7_179 rfl) ?_
      refine OwnG.v1 183 (getF X691 hx hZ hown (host := "") (Or.inl (ww hw 47 rfl)) Via.refl e691 f701 (g := mkF m 180 _ _) rfl rfl (hb hby d7_180)) ?_
      intro T710 X710 e710
      refine OwnG.st (y_aloadN X710 H d7_183 rfl) ?_
      refine OwnG.v1 187 (getF X710 hx hZ hown (host := "") (Or.inl (ww hw 39 rfl)) Via.refl e710 f694 (g := mkF m 184 _ _) rfl rfl (hb hby d7_184)) ?_
      intro T711 X711 e711
      refine OwnG.st (y_aloadN X711 H d7_187 rfl) ?_
      refine OwnG.v1 191 (getF X711 hx hZ hown (host := "") (Or.inl (ww hw 75 rfl)) Via.refl e711 f700 (g := mkF m 188 _ _) rfl rfl (hb hby d7_188)) ?_
      intro T712 X712 e712
      refine OwnG.st (y_i2l X712 H d7_191) ?_
      refine OwnG.st (y_ldc2 X712 H hown (mvT hZ (ww hw 74 rfl)) d7_192) ?_
      refine OwnG.st (y_ladd X712 H d7_195) ?_
      have hgb := x_ladd size.toInt64 2 (by omega)
      obtain ⟨cq713, kq713, q713a, q713b, q713c⟩ := isOf hZ e712 f702
      refine OwnG.cm 199 2 200 X712 (X712.virtualBack hx (y := mn_13) (z := mn_13) hown (mvT hZ (ww hw 105 rfl)) (mvT hZ (ww hw 106 rfl)) (notFace_of_selects (args := #[]) (mvT hZ (ww hw 108 rfl))) (mvT hZ (ww hw 108 rfl)) (mvT hZ (ww hw 107 rfl)) (by decide) (backOf (W := 1) (rm13 l Z a0 hw [] bud start ((size.toInt64) + (2 : Int64)) u622 nS gS h691 n0 Z691 gb_bud ⟨f702, f703, f704⟩ f705 hD.2.2.2.2.1 (by omega) hnS2 (by omega)) hZ (ww hw 109 rfl) (ww hw 13 rfl) (by decide) (by decide)) q713a q713c (g := mkF m 196 _ _) rfl (by rw [hml]; rfl) (Steps.refl _) (argsL := [(.ref start), (.long ((size.toInt64) + (2 : Int64)))]) (rest := [(.ref a1)]) (lenOf pd_7B_2 rfl) rfl (by show 2 * 0 + _ ≤ _; exact Nat.le_of_eq rfl) (hb hby d7_196) (fun _ _ => ⟨rfl, e712, (by decide : 1 + 1 ≤ _), (by decide : 100 + 100 ≤ _)⟩)) rfl rfl ?_
      intro T713 Lc713 vc713 X713 hQ713
      obtain ⟨x713, n713', g713', u713, hv713, N713q, Kq713, B713q, Vq713, sx713, hn713a, hn713b, hn713c, hg713, hu713a, hu713b⟩ := hQ713
      have ne713_714 : NeA a1 x713 := Or.elim sx713 (fun q => by rw [q]; exact (Ne.symm hD.2.2.2.1)) (fun q => Nat.ne_of_lt (Nat.lt_of_lt_of_le (Exa.lt f692) q))
      have ne713_715 : NeA bud x713 := Or.elim sx713 (fun q => by rw [q]; exact (Ne.symm hD.2.2.2.2.1)) (fun q => Nat.ne_of_lt (Nat.lt_of_lt_of_le (Exa.lt f702) q))
      have ne713_716 : NeA hash x713 := Or.elim sx713 (fun q => by rw [q]; exact hD.2.2.2.2.2.2.2.2.2.1) (fun q => Nat.ne_of_lt (Nat.lt_of_lt_of_le f706.lt q))
      have ne713_717 : NeA table x713 := Or.elim sx713 (fun q => by rw [q]; exact hD.2.2.2.2.2.2.2.2.2.2.2.2.2.1) (fun q => Nat.ne_of_lt (Nat.lt_of_lt_of_le f707.lt q))
      have ne713_719 : NeA x622 x713 := Or.elim sx713 (fun q => by rw [q]; exact (Ne.symm ne622_625)) (fun q => Nat.ne_of_lt (Nat.lt_of_lt_of_le f709.lt q))
      have inw_x713 : x713 ∈ [a1, bud, pool, start, hash, table, enc] ∨ h0.size ≤ x713 := Or.elim sx713 (fun q => by rw [q]; exact Or.inl (by simp)) (fun q => Or.inr (Nat.le_trans K691.1 q))
      have gb_x713 : LeA (n0) (x713) := Or.elim sx713 (fun q => by rw [q]; exact gb_start) (fun q => Nat.le_trans Z691 q)
      have Z713 : LeA (n0) (T713.heap.size) := Nat.le_trans Z691 Kq713.1
      have f720 := Exa.keep f692 Kq713
      have f721 := Fld.keep f693 Kq713 (ninS (Ne.symm hD.1) nin0)
      have f722 := Fld.keep Fw691 Kq713 (ninS (Ne.symm hD.1) nin0)
      have f723 := Fld.keep f694 Kq713 (ninS (Ne.symm hD.1) nin0)
      have f724 := Fld.keep f695 Kq713 (ninS (Ne.symm hD.1) nin0)
      have f725 := Fld.keep f696 Kq713 (ninS (Ne.symm hD.1) nin0)
      have f726 := Fld.keep f697 Kq713 (ninS (Ne.symm hD.1) nin0)
      have f727 := Fld.keep f698 Kq713 (ninS (Ne.symm hD.1) nin0)
      have f728 := Fld.keep f699 Kq713 (ninS (Ne.symm hD.1) nin0)
      have f729 := Fld.keep f700 Kq713 (ninS (Ne.symm hD.1) nin0)
      have f730 := Fld.keep f701 Kq713 (ninS (Ne.symm hD.1) nin0)
      have f733 := f706.keep Kq713 (ninS hD.2.2.2.2.2.2.2.1 nin0)
      have f734 := f707.keep Kq713 (ninS hD.2.2.2.2.2.2.2.2.2.2.2.1 nin0)
      have f736 := f709.keep Kq713 (ninS (Ne.symm ne622_624) nin0)
      have K713 : Keep h0 T713.heap [a1, bud, pool, start, hash, table, enc] := K691.trans Kq713 (own_trS (P := fun x => x ∈ [a1, bud, pool, start, hash, table, enc] ∨ h0.size ≤ x) (Or.inl (by simp)) own_tr0)
      obtain ⟨EBG_737, FBG0_737, FBG1_737⟩ := B713q
      have N713 := Fr.app N691 N713q
      refine OwnG.cv hv713 ?_
      clear hv713
      refine OwnG.v2 202 (putF X713 hx hZ hown (host := "") (Or.inl (ww hw 39 rfl)) Via.refl rfl f723 f720 (Or.inl (ww hw 40 rfl)) (ww hw 9 rfl) (ty := (.array .int)) (by decide) rfl rfl (g := mkF m 199 _ _) rfl rfl (hb hby d7_199)) ?_
      intro T738 h738 X738 e738 W738
      have f739 := Exa.wr W738 f720
      have f740 := Fld.other W738 f721 (Or.inr (sn_55 hw))
      have f741 := Fld.other W738 f722 (Or.inr (sn_56 hw))
      have f742 := Fld.other W738 f724 (Or.inr (sn_57 hw))
      have f743 := Fld.other W738 f725 (Or.inr (sn_58 hw))
      have f744 := Fld.other W738 f726 (Or.inr (sn_59 hw))
      have f745 := Fld.other W738 f727 (Or.inr (sn_60 hw))
      have f746 := Fld.other W738 f728 (Or.inr (sn_61 hw))
      have f747 := Fld.other W738 f729 (Or.inr (sn_62 hw))
      have f748 := Fld.other W738 f730 (Or.inr (sn_63 hw))
      have f749 := Exa.wr W738 EBG_737
      have f750 := Fld.other W738 FBG0_737 (Or.inl hD.1)
      have f751 := Fld.other W738 FBG1_737 (Or.inl hD.1)
      have f752 := f733.other W738 hD.2.2.2.2.2.2.1
      have f753 := f734.other W738 hD.2.2.2.2.2.2.2.2.2.2.1
      have f755 := f736.other W738 (Ne.symm ne622_623)
      have f756 := Vq713.other W738 (Ne.symm ne713_714)
      have Fw738 : Fld Z h738 a1 "com/example/deft_nets/deftnets/MarkingStore" "mStart" "[I" (.ref x713) := Fld.same W738 f723
      have N738 := Fr.snoc X738 N713 gb_a1
      have Z738 : LeA (n0) (h738.size) := by rw [W738.size]; exact Z713
      have K738 : Keep h0 h738 [a1, bud, pool, start, hash, table, enc] := K713.wr W738 (Or.inl (by simp))
      refine OwnG.st (y_aloadN X738 H d7_202 rfl) ?_
      refine OwnG.v1 206 (getF X738 hx hZ hown (host := "") (Or.inl (ww hw 39 rfl)) Via.refl e738 Fw738 (g := mkF m 203 _ _) rfl rfl (hb hby d7_203)) ?_
      intro T757 X757 e757
      refine OwnG.st (y_aloadN X757 H d7_206 rfl) ?_
      refine OwnG.v1 210 (getF X757 hx hZ hown (host := "") (Or.inl (ww hw 75 rfl)) Via.refl e757 f747 (g := mkF m 207 _ _) rfl rfl (hb hby d7_207)) ?_
      intro T758 X758 e758
      refine OwnG.st (y_iconst X758 H (1) d7_210 rfl) ?_
      refine OwnG.st (y_iadd X758 H d7_211) ?_
      refine OwnG.st (y_aloadN X758 H d7_212 rfl) ?_
      refine OwnG.v1 216 (getF X758 hx hZ hown (host := "") (Or.inl (ww hw 94 rfl)) Via.refl e758 f741 (g := mkF m 213 _ _) rfl rfl (hb hby d7_213)) ?_
      intro T759 X759 e759
      refine OwnG.v3 217 (own_stI f756 X759 hx hZ e759 (by omega) (by omega) (gf := mkF m 216 _ _) rfl rfl (hb hby d7_216)) ?_
      intro T760 h760 X760 e760 W760 V760
      have V760' : OwnA Z h760 x713 .int n713' (iv' (updv g713' (size + (1 : Int32)).toInt.toNat (psz + elen))) := V760
      have f761 := Exa.wr W760 f739
      have f762 := Fld.other W760 f740 (Or.inl ne713_714)
      have f763 := Fld.other W760 f741 (Or.inl ne713_714)
      have f764 := Fld.other W760 Fw738 (Or.inl ne713_714)
      have f765 := Fld.other W760 f742 (Or.inl ne713_714)
      have f766 := Fld.other W760 f743 (Or.inl ne713_714)
      have f767 := Fld.other W760 f744 (Or.inl ne713_714)
      have f768 := Fld.other W760 f745 (Or.inl ne713_714)
      have f769 := Fld.other W760 f746 (Or.inl ne713_714)
      have f770 := Fld.other W760 f747 (Or.inl ne713_714)
      have f771 := Fld.other W760 f748 (Or.inl ne713_714)
      have f772 := Exa.wr W760 f749
      have f773 := Fld.other W760 f750 (Or.inl ne713_715)
      have f774 := Fld.other W760 f751 (Or.inl ne713_715)
      have f775 := f752.other W760 ne713_716
      have f776 := f753.other W760 ne713_717
      have f778 := f755.other W760 ne713_719
      have N760 := Fr.snoc X760 N738 gb_x713
      have Z760 : LeA (n0) (h760.size) := by rw [W760.size]; exact Z738
      have K760 : Keep h0 h760 [a1, bud, pool, start, hash, table, enc] := K738.wr W760 (inw_x713)
      refine OwnG.st (y_aloadN X760 H d7_217 rfl) ?_
      refine OwnG.st (y_aloadN X760 H d7_218 rfl) ?_
      refine OwnG.v1 222 (getF X760 hx hZ hown (host := "") (Or.inl (ww hw 47 rfl)) Via.refl e760 f771 (g := mkF m 219 _ _) rfl rfl (hb hby d7_219)) ?_
      intro T779 X779 e779
      refine OwnG.st (y_aloadN X779 H d7_222 rfl) ?_
      refine OwnG.v1 226 (getF X779 hx hZ hown (host := "") (Or.inl (ww hw 41 rfl)) Via.refl e779 f765 (g := mkF m 223 _ _) rfl rfl (hb hby d7_223)) ?_
      intro T780 X780 e780
      refine OwnG.st (y_aloadN X780 H d7_226 rfl) ?_
      refine OwnG.v1 230 (getF X780 hx hZ hown (host := "") (Or.inl (ww hw 75 rfl)) Via.refl e780 f770 (g := mkF m 227 _ _) rfl rfl (hb hby d7_227)) ?_
      intro T781 X781 e781
      refine OwnG.st (y_i2l X781 H d7_230) ?_
      refine OwnG.st (y_lconst X781 H 1 d7_231 rfl) ?_
      refine OwnG.st (y_ladd X781 H d7_232) ?_
      have hgc := x_ladd size.toInt64 1 (by omega)
      obtain ⟨cq782, kq782, q782a, q782b, q782c⟩ := isOf hZ e781 f772
      refine OwnG.cm 236 3 300 X781 (X781.virtualBack hx (y := mn_13) (z := mn_13) hown (mvT hZ (ww hw 105 rfl)) (mvT hZ (ww hw 106 rfl)) (notFace_of_selects (args := #[]) (mvT hZ (ww hw 108 rfl))) (mvT hZ (ww hw 108 rfl)) (mvT hZ (ww hw 107 rfl)) (by decide) (backOf (W := 1) (rm13 l Z a0 hw [] bud hash ((size.toInt64) + (1 : Int64)) u713 nH gH h760 n0 Z760 gb_bud ⟨f772, f773, f774⟩ f775 hD.2.2.2.2.2.2.2.1 (by omega) hnH2 (by omega)) hZ (ww hw 109 rfl) (ww hw 13 rfl) (by decide) (by decide)) q782a q782c (g := mkF m 233 _ _) rfl (by rw [hml]; rfl) (Steps.refl _) (argsL := [(.ref hash), (.long ((size.toInt64) + (1 : Int64)))]) (rest := [(.ref a1)]) (lenOf pd_7B_2 rfl) rfl (by show 2 * 0 + _ ≤ _; exact Nat.le_of_eq rfl) (hb hby d7_233) (fun _ _ => ⟨rfl, e781, (by decide : 2 + 1 ≤ _), (by decide : 200 + 100 ≤ _)⟩)) rfl rfl ?_
      intro T782 Lc782 vc782 X782 hQ782
      obtain ⟨x782, n782', g782', u782, hv782, N782q, Kq782, B782q, Vq782, sx782, hn782a, hn782b, hn782c, hg782, hu782a, hu782b⟩ := hQ782
      have ne782_783 : NeA a1 x782 := Or.elim sx782 (fun q => by rw [q]; exact (Ne.symm hD.2.2.2.2.2.2.1)) (fun q => Nat.ne_of_lt (Nat.lt_of_lt_of_le (Exa.lt f761) q))
      have ne782_785 : NeA table x782 := Or.elim sx782 (fun q => by rw [q]; exact hD.2.2.2.2.2.2.2.2.2.2.2.2.2.2.1) (fun q => Nat.ne_of_lt (Nat.lt_of_lt_of_le f776.lt q))
      have ne782_787 : NeA x622 x782 := Or.elim sx782 (fun q => by rw [q]; exact (Ne.symm ne622_626)) (fun q => Nat.ne_of_lt (Nat.lt_of_lt_of_le f778.lt q))
      have ne782_788 : NeA x713 x782 := Or.elim sx782 (fun q => by rw [q]; exact (Ne.symm ne713_716)) (fun q => Nat.ne_of_lt (Nat.lt_of_lt_of_le V760'.lt q))
      have inw_x782 : x782 ∈ [a1, bud, pool, start, hash, table, enc] ∨ h0.size ≤ x782 := Or.elim sx782 (fun q => by rw [q]; exact Or.inl (by simp)) (fun q => Or.inr (Nat.le_trans K760.1 q))
      have gb_x782 : LeA (n0) (x782) := Or.elim sx782 (fun q => by rw [q]; exact gb_hash) (fun q => Nat.le_trans Z760 q)
      have f789 := Exa.keep f761 Kq782
      have f790 := Fld.keep f762 Kq782 (ninS (Ne.symm hD.1) nin0)
      have f791 := Fld.keep f763 Kq782 (ninS (Ne.symm hD.1) nin0)
      have f792 := Fld.keep f764 Kq782 (ninS (Ne.symm hD.1) nin0)
      have f793 := Fld.keep f765 Kq782 (ninS (Ne.symm hD.1) nin0)
      have f794 := Fld.keep f766 Kq782 (ninS (Ne.symm hD.1) nin0)
      have f795 := Fld.keep f767 Kq782 (ninS (Ne.symm hD.1) nin0)
      have f796 := Fld.keep f768 Kq782 (ninS (Ne.symm hD.1) nin0)
      have f797 := Fld.keep f769 Kq782 (ninS (Ne.symm hD.1) nin0)
      have f798 := Fld.keep f770 Kq782 (ninS (Ne.symm hD.1) nin0)
      have f799 := Fld.keep f771 Kq782 (ninS (Ne.symm hD.1) nin0)
      have f802 := f776.keep Kq782 (ninS hD.2.2.2.2.2.2.2.2.2.2.2.1 nin0)
      have f804 := f778.keep Kq782 (ninS (Ne.symm ne622_624) nin0)
      have f805 := V760'.keep Kq782 (ninS (Ne.symm ne713_715) nin0)
      have K782 : Keep h0 T782.heap [a1, bud, pool, start, hash, table, enc] := K760.trans Kq782 (own_trS (P := fun x => x ∈ [a1, bud, pool, start, hash, table, enc] ∨ h0.size ≤ x) (Or.inl (by simp)) own_tr0)
      obtain ⟨EBG_806, FBG0_806, FBG1_806⟩ := B782q
      have N782 := Fr.app N760 N782q
      refine OwnG.cv hv782 ?_
      clear hv782
      refine OwnG.v2 239 (putF X782 hx hZ hown (host := "") (Or.inl (ww hw 41 rfl)) Via.refl rfl f793 f789 (Or.inl (ww hw 42 rfl)) (ww hw 9 rfl) (ty := (.array .int)) (by decide) rfl rfl (g := mkF m 236 _ _) rfl rfl (hb hby d7_236)) ?_
      intro T807 h807 X807 e807 W807
      have f808 := Exa.wr W807 f789
      have f809 := Fld.other W807 f790 (Or.inr (sn_64 hw))
      have f810 := Fld.other W807 f791 (Or.inr (sn_65 hw))
      have f811 := Fld.other W807 f792 (Or.inr (sn_66 hw))
      have f812 := Fld.other W807 f794 (Or.inr (sn_67 hw))
      have f813 := Fld.other W807 f795 (Or.inr (sn_68 hw))
      have f814 := Fld.other W807 f796 (Or.inr (sn_69 hw))
      have f815 := Fld.other W807 f797 (Or.inr (sn_70 hw))
      have f816 := Fld.other W807 f798 (Or.inr (sn_71 hw))
      have f817 := Fld.other W807 f799 (Or.inr (sn_72 hw))
      have f821 := f802.other W807 hD.2.2.2.2.2.2.2.2.2.2.1
      have f823 := f804.other W807 (Ne.symm ne622_623)
      have f824 := f805.other W807 (Ne.symm ne713_714)
      have f825 := Vq782.other W807 (Ne.symm ne782_783)
      have Fw807 : Fld Z h807 a1 "com/example/deft_nets/deftnets/MarkingStore" "mHash" "[I" (.ref x782) := Fld.same W807 f793
      have N807 := Fr.snoc X807 N782 gb_a1
      have K807 : Keep h0 h807 [a1, bud, pool, start, hash, table, enc] := K782.wr W807 (Or.inl (by simp))
      refine OwnG.st (y_aloadN X807 H d7_239 rfl) ?_
      refine OwnG.v1 243 (getF X807 hx hZ hown (host := "") (Or.inl (ww hw 41 rfl)) Via.refl e807 Fw807 (g := mkF m 240 _ _) rfl rfl (hb hby d7_240)) ?_
      intro T826 X826 e826
      refine OwnG.st (y_aloadN X826 H d7_243 rfl) ?_
      refine OwnG.v1 247 (getF X826 hx hZ hown (host := "") (Or.inl (ww hw 75 rfl)) Via.refl e826 f816 (g := mkF m 244 _ _) rfl rfl (hb hby d7_244)) ?_
      intro T827 X827 e827
      refine OwnG.st (y_iloadN X827 H d7_247 rfl) ?_
      refine OwnG.v3 249 (own_stI f825 X827 hx hZ e827 (by omega) (by omega) (gf := mkF m 248 _ _) rfl rfl (hb hby d7_248)) ?_
      intro T828 h828 X828 e828 W828 V828
      have V828' : OwnA Z h828 x782 .int n782' (iv' (updv g782' size.toInt.toNat w53)) := V828
      have f829 := Exa.wr W828 f808
      have f830 := Fld.other W828 f809 (Or.inl ne782_783)
      have f831 := Fld.other W828 f810 (Or.inl ne782_783)
      have f832 := Fld.other W828 f811 (Or.inl ne782_783)
      have f833 := Fld.other W828 Fw807 (Or.inl ne782_783)
      have f834 := Fld.other W828 f812 (Or.inl ne782_783)
      have f835 := Fld.other W828 f813 (Or.inl ne782_783)
      have f836 := Fld.other W828 f814 (Or.inl ne782_783)
      have f837 := Fld.other W828 f815 (Or.inl ne782_783)
      have f838 := Fld.other W828 f816 (Or.inl ne782_783)
      have f839 := Fld.other W828 f817 (Or.inl ne782_783)
      have f843 := f821.other W828 ne782_785
      have f845 := f823.other W828 ne782_787
      have f846 := f824.other W828 ne782_788
      have N828 := Fr.snoc X828 N807 gb_x782
      have K828 : Keep h0 h828 [a1, bud, pool, start, hash, table, enc] := K807.wr W828 (inw_x782)
      refine OwnG.st (y_aloadN X828 H d7_249 rfl) ?_
      refine OwnG.v1 253 (getF X828 hx hZ hown (host := "") (Or.inl (ww hw 43 rfl)) Via.refl e828 f834 (g := mkF m 250 _ _) rfl rfl (hb hby d7_250)) ?_
      intro T847 X847 e847
      refine OwnG.st (y_iloadN X847 H d7_253 rfl) ?_
      refine OwnG.st (y_aloadN X847 H d7_254 rfl) ?_
      refine OwnG.v1 258 (getF X847 hx hZ hown (host := "") (Or.inl (ww hw 75 rfl)) Via.refl e847 f838 (g := mkF m 255 _ _) rfl rfl (hb hby d7_255)) ?_
      intro T848 X848 e848
      refine OwnG.st (y_iconst X848 H (1) d7_258 rfl) ?_
      refine OwnG.st (y_iadd X848 H d7_259) ?_
      refine OwnG.v3 261 (own_stI f843 X848 hx hZ e848 hix_z3_615.1 hix_z3_615.2 (gf := mkF m 260 _ _) rfl rfl (hb hby d7_260)) ?_
      intro T849 h849 X849 e849 W849 V849
      have V849' : OwnA Z h849 table .int 16 (iv' (updv (updv (fun _ => 0) j0 t1) z3_615.toInt.toNat (size + (1 : Int32)))) := V849
      have f850 := Exa.wr W849 f829
      have f851 := Fld.other W849 f830 (Or.inl (Ne.symm hD.2.2.2.2.2.2.2.2.2.2.1))
      have f852 := Fld.other W849 f831 (Or.inl (Ne.symm hD.2.2.2.2.2.2.2.2.2.2.1))
      have f853 := Fld.other W849 f832 (Or.inl (Ne.symm hD.2.2.2.2.2.2.2.2.2.2.1))
      have f854 := Fld.other W849 f833 (Or.inl (Ne.symm hD.2.2.2.2.2.2.2.2.2.2.1))
      have f855 := Fld.other W849 f834 (Or.inl (Ne.symm hD.2.2.2.2.2.2.2.2.2.2.1))
      have f856 := Fld.other W849 f835 (Or.inl (Ne.symm hD.2.2.2.2.2.2.2.2.2.2.1))
      have f857 := Fld.other W849 f836 (Or.inl (Ne.symm hD.2.2.2.2.2.2.2.2.2.2.1))
      have f858 := Fld.other W849 f837 (Or.inl (Ne.symm hD.2.2.2.2.2.2.2.2.2.2.1))
      have f859 := Fld.other W849 f838 (Or.inl (Ne.symm hD.2.2.2.2.2.2.2.2.2.2.1))
      have f860 := Fld.other W849 f839 (Or.inl (Ne.symm hD.2.2.2.2.2.2.2.2.2.2.1))
      have f865 := f845.other W849 (Ne.symm ne622_627)
      have f866 := f846.other W849 (Ne.symm ne713_717)
      have N849 := Fr.snoc X849 N828 gb_table
      have K849 : Keep h0 h849 [a1, bud, pool, start, hash, table, enc] := K828.wr W849 (Or.inl (by simp))
      refine OwnG.st (y_aloadN X849 H d7_261 rfl) ?_
      refine OwnG.st (y_dup X849 H d7_262 rfl) ?_
      refine OwnG.v1 266 (getF X849 hx hZ hown (host := "") (Or.inl (ww hw 75 rfl)) Via.refl e849 f859 (g := mkF m 263 _ _) rfl rfl (hb hby d7_263)) ?_
      intro T868 X868 e868
      refine OwnG.st (y_dup_x1 X868 H d7_266 rfl rfl) ?_
      refine OwnG.st (y_iconst X868 H (1) d7_267 rfl) ?_
      refine OwnG.st (y_iadd X868 H d7_268) ?_
      refine OwnG.v2 272 (putF X868 hx hZ hown (host := "") (Or.inl (ww hw 75 rfl)) Via.refl e868 f859 f850 (Or.inl (ww hw 76 rfl)) (ww hw 9 rfl) (ty := .int) (by decide) rfl rfl (g := mkF m 269 _ _) rfl rfl (hb hby d7_269)) ?_
      intro T869 h869 X869 e869 W869
      have f870 := Exa.wr W869 f850
      have f871 := Fld.other W869 f851 (Or.inr (sn_73 hw))
      have f872 := Fld.other W869 f852 (Or.inr (sn_74 hw))
      have f873 := Fld.other W869 f853 (Or.inr (sn_75 hw))
      have f874 := Fld.other W869 f854 (Or.inr (sn_76 hw))
      have f875 := Fld.other W869 f855 (Or.inr (sn_77 hw))
      have f876 := Fld.other W869 f856 (Or.inr (sn_78 hw))
      have f877 := Fld.other W869 f857 (Or.inr (sn_79 hw))
      have f878 := Fld.other W869 f858 (Or.inr (sn_80 hw))
      have f879 := Fld.other W869 f860 (Or.inr (sn_81 hw))
      have f885 := f865.other W869 (Ne.symm ne622_623)
      have f886 := f866.other W869 (Ne.symm ne713_714)
      have Fw869 : Fld Z h869 a1 "com/example/deft_nets/deftnets/MarkingStore" "mSize" "I" (.int (size + (1 : Int32))) := Fld.same W869 f859
      have N869 := Fr.snoc X869 N849 gb_a1
      have K869 : Keep h0 h869 [a1, bud, pool, start, hash, table, enc] := K849.wr W869 (Or.inl (by simp))
      have hVp : OwnA Z h869 x622 .byte n622' (iv' (cpv gE g622' 0 e0' eL)) := by have q := f885; rw [hdp, hdl] at q; exact q
      have hVs : OwnA Z h869 x713 .int n713' (iv' (updv g713' 2 (psz + elen))) := by have q := f886; rw [hsn2] at q; exact q
      have hg0 : (updv g713' 2 (psz + elen) 0).toInt = 0 := by rw [own_u0 _ _ _ _ (by decide), hg713 0 (by omega)]; exact hs0
      have hg1 : (updv g713' 2 (psz + elen) 1).toInt = e0' := by rw [own_u0 _ _ _ _ (by decide), hg713 1 (by omega)]; exact hs1
      have hg2 : (updv g713' 2 (psz + elen) 2).toInt = e0' + eL := by rw [own_u1]; omega
      have hSm : SD Z h869 h869.size a1 size eL gE := ⟨x622, (psz + elen), x713, x782, table, enc, elen, next, (size + (1 : Int32)), bud, n622', n713', e0', (cpv gE g622' 0 e0' eL), (updv g713' 2 (psz + elen)), ⟨f870, f871, f872, f873, f874, f875, f876, f877, f878, Fw869, f879⟩, hVp, hVs, (Ne.symm ne622_623), (Ne.symm ne713_714), Exa.lt f870, hVp.lt, hVs.lt, by omega, by omega, by omega, by omega, by rw [hsn]; exact hg1, by rw [hsn]; exact hg2, by omega, own_cpl0 gE g622' e0' eL⟩
      have hS0 : SD Z h869 h869.size a1 0 e0' gX := ⟨x622, (psz + elen), x713, x782, table, enc, elen, next, (size + (1 : Int32)), bud, n622', n713', 0, (cpv gE g622' 0 e0' eL), (updv g713' 2 (psz + elen)), ⟨f870, f871, f872, f873, f874, f875, f876, f877, f878, Fw869, f879⟩, hVp, hVs, (Ne.symm ne622_623), (Ne.symm ne713_714), Exa.lt f870, hVp.lt, hVs.lt, by omega, by omega, by decide, by rw [z0]; omega, hg0, by show ((updv g713' 2 (psz + elen)) 1).toInt = _; rw [hg1]; omega, by omega, fun i hi => by rw [Nat.zero_add, own_cpl1 gE g622' e0' eL i hi, hg622 i (by omega)]; exact hX i hi⟩
      exact OwnG.retI X869 hx Bd.returns (BodyLoose.notSynchronized Bd) (hb hby d7_272) (by rw [e869]; exact ⟨_, rfl, N869, own_kb K869 (own_trS (P := fun x => kk ≤ x) ge_a1 (own_trS ge_bud (own_trS ge_pool (own_trS ge_start (own_trS ge_hash (own_trS ge_table (own_trS ge_enc own_tr0))))))), hSm, hS0⟩) (by decide) (by decide)
theorem KeepB.trans {h0 h h' : Heap} {kk : Nat} (K : KeepB h0 h kk) (K' : KeepB h h' kk) : KeepB h0 h' kk := ⟨Nat.le_trans K.1 K'.1, fun x c hx hc => K'.2 x c hx (K.2 x c hx hc)⟩
theorem d5_0 : decode k5_ 0 = .ok (.aload_n 0, 1) := by decide +kernel
theorem d5_1 : decode k5_ 1 = .ok (.iload_n 3, 1) := by decide +kernel
theorem d5_2 : decode k5_ 2 = .ok (.invokevirtual 34, 3) := by decide +kernel
theorem d5_5 : decode k5_ 5 = .ok (.iconst 0, 1) := by decide +kernel
theorem d5_6 : decode k5_ 6 = .ok (.istore 4, 2) := by decide +kernel
theorem d5_8 : decode k5_ 8 = .ok (.iload 4, 2) := by decide +kernel
theorem d5_10 : decode k5_ 10 = .ok (.iload_n 3, 1) := by decide +kernel
theorem d5_11 : decode k5_ 11 = .ok (.if_icmp .ge 21, 3) := by decide +kernel
theorem d5_32 : decode k5_ 32 = .ok (.aload_n 0, 1) := by decide +kernel
theorem d5_33 : decode k5_ 33 = .ok (.invokevirtual 42, 3) := by decide +kernel
theorem d5_36 : decode k5_ 36 = .ok (.ireturn, 1) := by decide +kernel
theorem pn_5 : plainName "com/example/deft_nets/deftnets/MarkingStore" = true := by first | (simp [plainName, overriddenIn]; done) | decide +kernel
theorem pd_5F0_0 : parseMethodDescriptor "(I)V" = some ⟨[.int], none⟩ := by decide +kernel
theorem pd_5F0_1 : parseMethodDescriptor "()I" = some ⟨[], some .int⟩ := by decide +kernel
theorem ef_5 (m : MethodId) (a1 : Addr) (a2 : Addr) (a3 : Addr) (p4 : Int32) : entryFrame m #[(.ref a1), (.ref a2), (.ref a3), (.int p4)] 5 = mkF m 0 #[.val (.ref a1), .val (.ref a2), .val (.ref a3), .val (.int p4), .unset] [] := by first | (simp [entryFrame, mkF, argsToLocals, Value.category]; done) | rfl
def Q5F0 (Z : State) (a1 : Addr) (a2 : Addr) (a3 : Addr) (p4 : Int32) (kk n2 n3 : Nat) (g2 : Nat → Int64) (g3 : Nat → Int32) (eL0 : Nat) (gE : Nat → Int32) (h0 : Heap) (n0 : Nat) (v : Option Value) (h : Heap) (L : List Loc) : Prop := ∃ (e' : Nat) (g' : Nat → Int32), v = some (.int 0) ∧ Fr n0 L ∧ KeepB h0 h kk ∧ Ents g' 0 e' [] ∧ e' ≤ 28 ∧ SA1 Z h kk a1 e' g' e' g'
set_option maxRecDepth 65536 in
set_option maxHeartbeats 40000000 in
theorem rm5F0 (l : Launch) (Z : State) (a0 : Array Value) (hw : HW a0 Z) (ws : List Jvm.Cond) (a1 : Addr) (a2 : Addr) (a3 : Addr) (p4 : Int32) (kk n2 n3 : Nat) (g2 : Nat → Int64) (g3 : Nat → Int32) (eL0 : Nat) (gE : Nat → Int32) (h0 : Heap) (n0 : Nat) (Z0 : n0 ≤ h0.size) (hkk : n0 ≤ kk) (hS : SA0 Z h0 kk a1 eL0 gE) (A_2 : OwnA Z h0 a2 .long n2 (jv' g2)) (A_3 : OwnA Z h0 a3 .int n3 (iv' g3)) (hk_a2 : a2 < kk) (hk_a3 : a3 < kk) (hp4 : p4 = 0) (hn2 : 0 ≤ n2) (hn3 : 0 ≤ n3) :
    MetFree l mn_5 (head1 (Jvm.Cond.code mn_5 prog_31_method_4_code 5 (some .int) :: ws) ({ frames := 4, cells := 5, slots := 344, locals := 76 } : Room)) (fun a U => a = #[(.ref a1), (.ref a2), (.ref a3), (.int p4)] ∧ Z.Warmed39 U.vm ∧ U.heap = h0) (fun _ _ _ _ _ => True) (fun _ U o U' => ∃ v L, o = .returned v ∧ Q5F0 Z a1 a2 a3 p4 kk n2 n3 g2 g3 eL0 gE h0 n0 v U'.heap L ∧ FrameEnd U o U' L ({ frames := 4, cells := 5, slots := 344, locals := 76 } : Room).cells ({ frames := 4, cells := 5, slots := 344, locals := 76 } : Room).slots) := by
  refine MetFree.of_bodySF (plainFor_of_name pn_5) hisR ?_
  intro p e s m args below meth c s₁ Bd hml0 hP hK
  obtain ⟨rfl, hZ, hh⟩ := hP
  have hx := Bd.exec
  have hby := Bd.bytes
  have H := And.intro hx hby
  have hml : c.maxLocals = 5 := hml0
  have hown : s.vm.findClass "com/example/deft_nets/deftnets/MarkingStore" = some m.cls := findClass_of_methodNamed Bd.named
  have hnm := (name_of_methodNamed Bd.named Bd.method).1
  have X0 : Stand p l e ({ frames := 4, cells := 5, slots := 344, locals := 76 } : Room) s m #[(.ref a1), (.ref a2), (.ref a3), (.int p4)] below meth c s₁ [] 0 0 := Stand.of_body Bd
  have e0 : s₁.heap = h0 := by rw [← hh, Bd.state]; rfl
  have N0 := Fr.nil n0
  suffices hG : OwnG p e below s (Q5F0 Z a1 a2 a3 p4 kk n2 n3 g2 g3 eL0 gE h0 n0) ({ frames := 4, cells := 5, slots := 344, locals := 76 } : Room).cells ({ frames := 4, cells := 5, slots := 344, locals := 76 } : Room).slots s₁ (mkF m 0 #[.val (.ref a1), .val (.ref a2), .val (.ref a3), .val (.int p4), .unset] []) by
    obtain ⟨s2, o2, g1, g2⟩ := hG
    exact ⟨s2, o2, castTop (ef_5 m a1 a2 a3 p4) g1, g2⟩
  obtain ⟨pool, psz, start, hash, table, enc, elen, next, size, bud, used, nE, gP, gS, gH, gT, hM, hB, A_p, A_s, A_h, A_t, A_e, hBy, hBP, hD, hG, heL, hle, hn, hps, hsz, hs0, hu0, hu1⟩ := hS
  have ge_a1 : LeA (kk) (a1) := hG.1
  have ge_bud : LeA (kk) (bud) := hG.2.1
  have ge_pool : LeA (kk) (pool) := hG.2.2.1
  have ge_start : LeA (kk) (start) := hG.2.2.2.1
  have ge_hash : LeA (kk) (hash) := hG.2.2.2.2.1
  have ge_table : LeA (kk) (table) := hG.2.2.2.2.2.1
  have ge_enc : LeA (kk) (enc) := hG.2.2.2.2.2.2
  have gb_a1 : LeA (n0) (a1) := Nat.le_trans hkk ge_a1
  obtain ⟨EMS_51, FMS0_51, FMS1_51, FMS2_51, FMS3_51, FMS4_51, FMS5_51, FMS6_51, FMS7_51, FMS8_51, FMS9_51⟩ := hM
  obtain ⟨EBG_52, FBG0_52, FBG1_52⟩ := hB
  have hkz : kk ≤ h0.size := Nat.le_of_lt (Nat.lt_of_le_of_lt ge_a1 (Exa.lt EMS_51))
  have z0 : (0 : Int32).toInt = 0 := rfl
  have z0L : (0 : Int64).toInt = 0 := rfl
  have e1L : (1 : Int64).toInt = 1 := rfl
  have hp4' : p4.toInt = 0 := by rw [hp4]; rfl
  refine OwnG.st (y_aloadN X0 H d5_0 rfl) ?_
  refine OwnG.st (y_iloadN X0 H d5_1 rfl) ?_
  obtain ⟨cq53, qc53, qd53⟩ := EMS_51.cell
  refine OwnG.cm 5 1 28 X0 (X0.privateBack hx (y := mn_6) hown (mvT hZ (ww hw 54 rfl)) (mvT hZ (ww hw 55 rfl)) (mvT hZ (own_selP (y := mn_6) (y0 := mn_5) rfl (ww hw 52 rfl) (ww hw 55 rfl) (ww hw 56 rfl) (by decide))) (Cond.privateMethod_at (mvP hZ (ww hw 56 rfl) (args := #[]))) (mvT hZ (ww hw 57 rfl)) (by decide) (backOf (W := 0) (rm6 l Z a0 hw [] a1 p4 pool psz start hash table enc elen next size bud nE gE h0 n0 Z0 gb_a1 ⟨EMS_51, FMS0_51, FMS1_51, FMS2_51, FMS3_51, FMS4_51, FMS5_51, FMS6_51, FMS7_51, FMS8_51, FMS9_51⟩ A_e hD.2.2.2.2.2.2.2.2.2.2.2.2.2.2.2.1 hBy (by omega) hn) hZ (ww hw 57 rfl) (ww hw 10 rfl) (by decide) (by decide)) (g := mkF m 2 _ _) rfl (by rw [hml]; rfl) (Steps.refl _) (a := a1) (by rw [e0]; exact qc53) qd53 (argsL := [(.int p4)]) (rest := []) (lenOf pd_5F0_0 rfl) rfl (by show 2 * 0 + _ ≤ _; exact Nat.le_of_eq rfl) (hb hby d5_2) (fun _ _ => ⟨rfl, e0, (by decide : 0 + 1 ≤ _), (by decide : 0 + 28 ≤ _)⟩)) rfl rfl ?_
  intro T53 Lc53 vc53 X53 hQ53
  obtain ⟨x53, n53', g53', hv53, N53q, Kq53, M53q, Vq53, hBy53, sx53, hn53a, hn53b⟩ := hQ53
  have ne53_54 : NeA a1 x53 := Or.elim sx53 (fun q => by rw [q]; exact (Ne.symm hD.2.2.2.2.2.2.2.2.2.2.2.2.2.2.2.1)) (fun q => Nat.ne_of_lt (Nat.lt_of_lt_of_le (Exa.lt EMS_51) q))
  have ne53_55 : NeA bud x53 := Or.elim sx53 (fun q => by rw [q]; exact (Ne.symm hD.2.2.2.2.2.2.2.2.2.2.2.2.2.2.2.2.1)) (fun q => Nat.ne_of_lt (Nat.lt_of_lt_of_le (Exa.lt EBG_52) q))
  have ne53_56 : NeA pool x53 := Or.elim sx53 (fun q => by rw [q]; exact (Ne.symm hD.2.2.2.2.2.2.2.2.2.2.2.2.2.2.2.2.2.1)) (fun q => Nat.ne_of_lt (Nat.lt_of_lt_of_le A_p.lt q))
  have ne53_57 : NeA start x53 := Or.elim sx53 (fun q => by rw [q]; exact (Ne.symm hD.2.2.2.2.2.2.2.2.2.2.2.2.2.2.2.2.2.2.1)) (fun q => Nat.ne_of_lt (Nat.lt_of_lt_of_le A_s.lt q))
  have ne53_58 : NeA hash x53 := Or.elim sx53 (fun q => by rw [q]; exact (Ne.symm hD.2.2.2.2.2.2.2.2.2.2.2.2.2.2.2.2.2.2.2.1)) (fun q => Nat.ne_of_lt (Nat.lt_of_lt_of_le A_h.lt q))
  have ne53_59 : NeA table x53 := Or.elim sx53 (fun q => by rw [q]; exact (Ne.symm hD.2.2.2.2.2.2.2.2.2.2.2.2.2.2.2.2.2.2.2.2)) (fun q => Nat.ne_of_lt (Nat.lt_of_lt_of_le A_t.lt q))
  have ge_x53 : LeA (kk) (x53) := Or.elim sx53 (fun q => by rw [q]; exact ge_enc) (fun q => Nat.le_trans hkz (Nat.le_trans (Keep.refl h0 [a1, bud, pool, start, hash, table, enc]).1 q))
  have Z53 : LeA (n0) (T53.heap.size) := Nat.le_trans Z0 Kq53.1
  have f63 := Exa.keep EBG_52 Kq53
  have f64 := Fld.keep FBG0_52 Kq53 (ninS hD.1 nin0)
  have f65 := Fld.keep FBG1_52 Kq53 (ninS hD.1 nin0)
  have f66 := A_p.keep Kq53 (ninS hD.2.1 nin0)
  have f67 := A_s.keep Kq53 (ninS hD.2.2.2.1 nin0)
  have f68 := A_h.keep Kq53 (ninS hD.2.2.2.2.2.2.1 nin0)
  have f69 := A_t.keep Kq53 (ninS hD.2.2.2.2.2.2.2.2.2.2.1 nin0)
  have K53 : Keep h0 T53.heap [a1, bud, pool, start, hash, table, enc] := (Keep.refl h0 [a1, bud, pool, start, hash, table, enc]).trans Kq53 (own_trS (P := fun x => x ∈ [a1, bud, pool, start, hash, table, enc] ∨ h0.size ≤ x) (Or.inl (by simp)) own_tr0)
  obtain ⟨EMS_73, FMS0_73, FMS1_73, FMS2_73, FMS3_73, FMS4_73, FMS5_73, FMS6_73, FMS7_73, FMS8_73, FMS9_73⟩ := M53q
  have N53 := Fr.app N0 N53q
  refine OwnG.cn hv53 ?_
  clear hv53
  have hc11_74 : ¬ ((0 : Int32) < p4) := by rw [hp4]; decide
  refine OwnG.st (y_iconst X53 H (0) d5_5 rfl) ?_
  refine OwnG.st (y_istore X53 H #[.val (.ref a1), .val (.ref a2), .val (.ref a3), .val (.int p4), .val (.int (0 : Int32))] d5_6 rfl) ?_
  refine OwnG.st (y_iload X53 H d5_8 rfl) ?_
  refine OwnG.st (y_iloadN X53 H d5_10 rfl) ?_
  refine OwnG.st (y_icY X53 H 32 d5_11 (flt hc11_74).2.1 (by decide) (by decide)) ?_
  refine OwnG.st (y_aloadN X53 H d5_32 rfl) ?_
  obtain ⟨cq75, qc75, qd75⟩ := EMS_73.cell
  refine OwnG.cm 36 5 344 X53 (X53.privateBack hx (y := mn_7) hown (mvT hZ (ww hw 63 rfl)) (mvT hZ (ww hw 64 rfl)) (mvT hZ (own_selP (y := mn_7) (y0 := mn_5) rfl (ww hw 52 rfl) (ww hw 64 rfl) (ww hw 65 rfl) (by decide))) (Cond.privateMethod_at (mvP hZ (ww hw 65 rfl) (args := #[]))) (mvT hZ (ww hw 66 rfl)) (by decide) (backOf (W := 0) (rm7A l Z a0 hw [] a1 kk 0 g53' T53.heap n0 Z53 hkk ⟨pool, psz, start, hash, table, x53, (0 : Int32), (0 : Int64), size, bud, used, _, gP, gS, gH, gT, ⟨EMS_73, FMS0_73, FMS1_73, FMS2_73, FMS3_73, FMS4_73, FMS5_73, FMS6_73, FMS7_73, FMS8_73, FMS9_73⟩, ⟨f63, f64, f65⟩, f66, f67, f68, f69, Vq53, hBy53, hBP, ⟨hD.1, hD.2.1, hD.2.2.1, hD.2.2.2.1, hD.2.2.2.2.1, hD.2.2.2.2.2.1, hD.2.2.2.2.2.2.1, hD.2.2.2.2.2.2.2.1, hD.2.2.2.2.2.2.2.2.1, hD.2.2.2.2.2.2.2.2.2.1, hD.2.2.2.2.2.2.2.2.2.2.1, hD.2.2.2.2.2.2.2.2.2.2.2.1, hD.2.2.2.2.2.2.2.2.2.2.2.2.1, hD.2.2.2.2.2.2.2.2.2.2.2.2.2.1, hD.2.2.2.2.2.2.2.2.2.2.2.2.2.2.1, (Ne.symm ne53_54), (Ne.symm ne53_55), (Ne.symm ne53_56), (Ne.symm ne53_57), (Ne.symm ne53_58), (Ne.symm ne53_59)⟩, ⟨ge_a1, ge_bud, ge_pool, ge_start, ge_hash, ge_table, ge_x53⟩, (by rfl), (by omega), (by omega), hps, hsz, hs0, hu0, hu1⟩) hZ (ww hw 66 rfl) (ww hw 10 rfl) (by decide) (by decide)) (g := mkF m 33 _ _) rfl (by rw [hml]; rfl) (Steps.refl _) (a := a1) qc75 qd75 (argsL := []) (rest := []) (lenOf pd_5F0_1 rfl) rfl (by show 2 * 0 + _ ≤ _; exact Nat.le_of_eq rfl) (hb hby d5_33) (fun _ _ => ⟨rfl, rfl, (by decide : 1 + 4 ≤ _), (by decide : 28 + 316 ≤ _)⟩)) rfl rfl ?_
  intro T75 Lc75 vc75 X75 hQ75
  obtain ⟨hv75, N75q, KB75, hSx⟩ := hQ75
  have N75 := Fr.app N53 N75q
  refine OwnG.cv hv75 ?_
  clear hv75
  have hEs : Ents g53' 0 0 [] := rfl
  exact OwnG.retI X75 hx Bd.returns (BodyLoose.notSynchronized Bd) (hb hby d5_36) ⟨0, g53', rfl, N75, (own_kb K53 (own_trS (P := fun x => kk ≤ x) ge_a1 (own_trS ge_bud (own_trS ge_pool (own_trS ge_start (own_trS ge_hash (own_trS ge_table (own_trS ge_enc own_tr0)))))))).trans KB75, hEs, by omega, hSx⟩ (by decide) (by decide)
theorem d5_14 : decode k5_ 14 = .ok (.aload_n 0, 1) := by decide +kernel
theorem d5_15 : decode k5_ 15 = .ok (.aload_n 1, 1) := by decide +kernel
theorem d5_16 : decode k5_ 16 = .ok (.iload 4, 2) := by decide +kernel
theorem d5_18 : decode k5_ 18 = .ok (.laload, 1) := by decide +kernel
theorem d5_19 : decode k5_ 19 = .ok (.aload_n 2, 1) := by decide +kernel
theorem d5_20 : decode k5_ 20 = .ok (.iload 4, 2) := by decide +kernel
theorem d5_22 : decode k5_ 22 = .ok (.iaload, 1) := by decide +kernel
theorem d5_23 : decode k5_ 23 = .ok (.invokevirtual 38, 3) := by decide +kernel
theorem d5_26 : decode k5_ 26 = .ok (.iinc 4 1, 3) := by decide +kernel
theorem d5_29 : decode k5_ 29 = .ok (.goto (-21), 3) := by decide +kernel
theorem pd_5F1_0 : parseMethodDescriptor "(I)V" = some ⟨[.int], none⟩ := by decide +kernel
theorem pd_5F1_1 : parseMethodDescriptor "(JI)V" = some ⟨[.long, .int], none⟩ := by decide +kernel
theorem pd_5F1_2 : parseMethodDescriptor "()I" = some ⟨[], some .int⟩ := by decide +kernel
def Q5F1 (Z : State) (a1 : Addr) (a2 : Addr) (a3 : Addr) (p4 : Int32) (kk n2 n3 : Nat) (g2 : Nat → Int64) (g3 : Nat → Int32) (eL0 : Nat) (gE : Nat → Int32) (h0 : Heap) (n0 : Nat) (v : Option Value) (h : Heap) (L : List Loc) : Prop := ∃ (e' : Nat) (g' : Nat → Int32), v = some (.int 0) ∧ Fr n0 L ∧ KeepB h0 h kk ∧ Ents g' 0 e' [(own_V (g2 0 - 0) (g3 0), g3 0)] ∧ e' ≤ 28 ∧ ((g2 0).toInt ≤ 255 → (g3 0).toInt ≤ 4 → e' ≤ 3) ∧ SA1 Z h kk a1 e' g' e' g'
set_option maxRecDepth 65536 in
set_option maxHeartbeats 40000000 in
theorem rm5F1 (l : Launch) (Z : State) (a0 : Array Value) (hw : HW a0 Z) (ws : List Jvm.Cond) (a1 : Addr) (a2 : Addr) (a3 : Addr) (p4 : Int32) (kk n2 n3 : Nat) (g2 : Nat → Int64) (g3 : Nat → Int32) (eL0 : Nat) (gE : Nat → Int32) (h0 : Heap) (n0 : Nat) (Z0 : n0 ≤ h0.size) (hkk : n0 ≤ kk) (hS : SA0 Z h0 kk a1 eL0 gE) (A_2 : OwnA Z h0 a2 .long n2 (jv' g2)) (A_3 : OwnA Z h0 a3 .int n3 (iv' g3)) (hk_a2 : a2 < kk) (hk_a3 : a3 < kk) (hp4 : p4 = 1) (hn2 : 1 ≤ n2) (hn3 : 1 ≤ n3) (hv0 : 0 ≤ (g2 0).toInt ∧ (g2 0).toInt < 4611686018427387904) (hc0 : 1 ≤ (g3 0).toInt) :
    MetFree l mn_5 (head1 (Jvm.Cond.code mn_5 prog_31_method_4_code 5 (some .int) :: ws) ({ frames := 4, cells := 5, slots := 344, locals := 76 } : Room)) (fun a U => a = #[(.ref a1), (.ref a2), (.ref a3), (.int p4)] ∧ Z.Warmed39 U.vm ∧ U.heap = h0) (fun _ _ _ _ _ => True) (fun _ U o U' => ∃ v L, o = .returned v ∧ Q5F1 Z a1 a2 a3 p4 kk n2 n3 g2 g3 eL0 gE h0 n0 v U'.heap L ∧ FrameEnd U o U' L ({ frames := 4, cells := 5, slots := 344, locals := 76 } : Room).cells ({ frames := 4, cells := 5, slots := 344, locals := 76 } : Room).slots) := by
  refine MetFree.of_bodySF (plainFor_of_name pn_5) hisR ?_
  intro p e s m args below meth c s₁ Bd hml0 hP hK
  obtain ⟨rfl, hZ, hh⟩ := hP
  have hx := Bd.exec
  have hby := Bd.bytes
  have H := And.intro hx hby
  have hml : c.maxLocals = 5 := hml0
  have hown : s.vm.findClass "com/example/deft_nets/deftnets/MarkingStore" = some m.cls := findClass_of_methodNamed Bd.named
  have hnm := (name_of_methodNamed Bd.named Bd.method).1
  have X0 : Stand p l e ({ frames := 4, cells := 5, slots := 344, locals := 76 } : Room) s m #[(.ref a1), (.ref a2), (.ref a3), (.int p4)] below meth c s₁ [] 0 0 := Stand.of_body Bd
  have e0 : s₁.heap = h0 := by rw [← hh, Bd.state]; rfl
  have N0 := Fr.nil n0
  suffices hG : OwnG p e below s (Q5F1 Z a1 a2 a3 p4 kk n2 n3 g2 g3 eL0 gE h0 n0) ({ frames := 4, cells := 5, slots := 344, locals := 76 } : Room).cells ({ frames := 4, cells := 5, slots := 344, locals := 76 } : Room).slots s₁ (mkF m 0 #[.val (.ref a1), .val (.ref a2), .val (.ref a3), .val (.int p4), .unset] []) by
    obtain ⟨s2, o2, g1, g2⟩ := hG
    exact ⟨s2, o2, castTop (ef_5 m a1 a2 a3 p4) g1, g2⟩
  obtain ⟨pool, psz, start, hash, table, enc, elen, next, size, bud, used, nE, gP, gS, gH, gT, hM, hB, A_p, A_s, A_h, A_t, A_e, hBy, hBP, hD, hG, heL, hle, hn, hps, hsz, hs0, hu0, hu1⟩ := hS
  have ge_a1 : LeA (kk) (a1) := hG.1
  have ge_bud : LeA (kk) (bud) := hG.2.1
  have ge_pool : LeA (kk) (pool) := hG.2.2.1
  have ge_start : LeA (kk) (start) := hG.2.2.2.1
  have ge_hash : LeA (kk) (hash) := hG.2.2.2.2.1
  have ge_table : LeA (kk) (table) := hG.2.2.2.2.2.1
  have ge_enc : LeA (kk) (enc) := hG.2.2.2.2.2.2
  have gb_a1 : LeA (n0) (a1) := Nat.le_trans hkk ge_a1
  have gb_enc : LeA (n0) (enc) := Nat.le_trans hkk ge_enc
  obtain ⟨EMS_51, FMS0_51, FMS1_51, FMS2_51, FMS3_51, FMS4_51, FMS5_51, FMS6_51, FMS7_51, FMS8_51, FMS9_51⟩ := hM
  obtain ⟨EBG_52, FBG0_52, FBG1_52⟩ := hB
  have hkz : kk ≤ h0.size := Nat.le_of_lt (Nat.lt_of_le_of_lt ge_a1 (Exa.lt EMS_51))
  have z0 : (0 : Int32).toInt = 0 := rfl
  have z0L : (0 : Int64).toInt = 0 := rfl
  have e1L : (1 : Int64).toInt = 1 := rfl
  have hp4' : p4.toInt = 1 := by rw [hp4]; rfl
  have hx0 := x_ladd (g2 0) 1 (by omega)
  refine OwnG.st (y_aloadN X0 H d5_0 rfl) ?_
  refine OwnG.st (y_iloadN X0 H d5_1 rfl) ?_
  obtain ⟨cq53, qc53, qd53⟩ := EMS_51.cell
  refine OwnG.cm 5 1 28 X0 (X0.privateBack hx (y := mn_6) hown (mvT hZ (ww hw 54 rfl)) (mvT hZ (ww hw 55 rfl)) (mvT hZ (own_selP (y := mn_6) (y0 := mn_5) rfl (ww hw 52 rfl) (ww hw 55 rfl) (ww hw 56 rfl) (by decide))) (Cond.privateMethod_at (mvP hZ (ww hw 56 rfl) (args := #[]))) (mvT hZ (ww hw 57 rfl)) (by decide) (backOf (W := 0) (rm6 l Z a0 hw [] a1 p4 pool psz start hash table enc elen next size bud nE gE h0 n0 Z0 gb_a1 ⟨EMS_51, FMS0_51, FMS1_51, FMS2_51, FMS3_51, FMS4_51, FMS5_51, FMS6_51, FMS7_51, FMS8_51, FMS9_51⟩ A_e hD.2.2.2.2.2.2.2.2.2.2.2.2.2.2.2.1 hBy (by omega) hn) hZ (ww hw 57 rfl) (ww hw 10 rfl) (by decide) (by decide)) (g := mkF m 2 _ _) rfl (by rw [hml]; rfl) (Steps.refl _) (a := a1) (by rw [e0]; exact qc53) qd53 (argsL := [(.int p4)]) (rest := []) (lenOf pd_5F1_0 rfl) rfl (by show 2 * 0 + _ ≤ _; exact Nat.le_of_eq rfl) (hb hby d5_2) (fun _ _ => ⟨rfl, e0, (by decide : 0 + 1 ≤ _), (by decide : 0 + 28 ≤ _)⟩)) rfl rfl ?_
  intro T53 Lc53 vc53 X53 hQ53
  obtain ⟨x53, n53', g53', hv53, N53q, Kq53, M53q, Vq53, hBy53, sx53, hn53a, hn53b⟩ := hQ53
  have ne53_54 : NeA a1 x53 := Or.elim sx53 (fun q => by rw [q]; exact (Ne.symm hD.2.2.2.2.2.2.2.2.2.2.2.2.2.2.2.1)) (fun q => Nat.ne_of_lt (Nat.lt_of_lt_of_le (Exa.lt EMS_51) q))
  have ne53_55 : NeA bud x53 := Or.elim sx53 (fun q => by rw [q]; exact (Ne.symm hD.2.2.2.2.2.2.2.2.2.2.2.2.2.2.2.2.1)) (fun q => Nat.ne_of_lt (Nat.lt_of_lt_of_le (Exa.lt EBG_52) q))
  have ne53_56 : NeA pool x53 := Or.elim sx53 (fun q => by rw [q]; exact (Ne.symm hD.2.2.2.2.2.2.2.2.2.2.2.2.2.2.2.2.2.1)) (fun q => Nat.ne_of_lt (Nat.lt_of_lt_of_le A_p.lt q))
  have ne53_57 : NeA start x53 := Or.elim sx53 (fun q => by rw [q]; exact (Ne.symm hD.2.2.2.2.2.2.2.2.2.2.2.2.2.2.2.2.2.2.1)) (fun q => Nat.ne_of_lt (Nat.lt_of_lt_of_le A_s.lt q))
  have ne53_58 : NeA hash x53 := Or.elim sx53 (fun q => by rw [q]; exact (Ne.symm hD.2.2.2.2.2.2.2.2.2.2.2.2.2.2.2.2.2.2.2.1)) (fun q => Nat.ne_of_lt (Nat.lt_of_lt_of_le A_h.lt q))
  have ne53_59 : NeA table x53 := Or.elim sx53 (fun q => by rw [q]; exact (Ne.symm hD.2.2.2.2.2.2.2.2.2.2.2.2.2.2.2.2.2.2.2.2)) (fun q => Nat.ne_of_lt (Nat.lt_of_lt_of_le A_t.lt q))
  have inw_x53 : x53 ∈ [a1, bud, pool, start, hash, table, enc] ∨ h0.size ≤ x53 := Or.elim sx53 (fun q => by rw [q]; exact Or.inl (by simp)) (fun q => Or.inr (Nat.le_trans (Keep.refl h0 [a1, bud, pool, start, hash, table, enc]).1 q))
  have ge_x53 : LeA (kk) (x53) := Or.elim sx53 (fun q => by rw [q]; exact ge_enc) (fun q => Nat.le_trans hkz (Nat.le_trans (Keep.refl h0 [a1, bud, pool, start, hash, table, enc]).1 q))
  have gb_x53 : LeA (n0) (x53) := Or.elim sx53 (fun q => by rw [q]; exact gb_enc) (fun q => Nat.le_trans Z0 q)
  have Z53 : LeA (n0) (T53.heap.size) := Nat.le_trans Z0 Kq53.1
  have f63 := Exa.keep EBG_52 Kq53
  have f64 := Fld.keep FBG0_52 Kq53 (ninS hD.1 nin0)
  have f65 := Fld.keep FBG1_52 Kq53 (ninS hD.1 nin0)
  have f66 := A_p.keep Kq53 (ninS hD.2.1 nin0)
  have f67 := A_s.keep Kq53 (ninS hD.2.2.2.1 nin0)
  have f68 := A_h.keep Kq53 (ninS hD.2.2.2.2.2.2.1 nin0)
  have f69 := A_t.keep Kq53 (ninS hD.2.2.2.2.2.2.2.2.2.2.1 nin0)
  have f71 := A_2.keep Kq53 (ninS (Ne.symm (Nat.ne_of_gt (Nat.lt_of_lt_of_le hk_a2 ge_a1))) nin0)
  have f72 := A_3.keep Kq53 (ninS (Ne.symm (Nat.ne_of_gt (Nat.lt_of_lt_of_le hk_a3 ge_a1))) nin0)
  have K53 : Keep h0 T53.heap [a1, bud, pool, start, hash, table, enc] := (Keep.refl h0 [a1, bud, pool, start, hash, table, enc]).trans Kq53 (own_trS (P := fun x => x ∈ [a1, bud, pool, start, hash, table, enc] ∨ h0.size ≤ x) (Or.inl (by simp)) own_tr0)
  obtain ⟨EMS_73, FMS0_73, FMS1_73, FMS2_73, FMS3_73, FMS4_73, FMS5_73, FMS6_73, FMS7_73, FMS8_73, FMS9_73⟩ := M53q
  have N53 := Fr.app N0 N53q
  refine OwnG.cn hv53 ?_
  clear hv53
  have hc11_74 : (0 : Int32) < p4 := by rw [hp4]; decide
  refine OwnG.st (y_iconst X53 H (0) d5_5 rfl) ?_
  refine OwnG.st (y_istore X53 H #[.val (.ref a1), .val (.ref a2), .val (.ref a3), .val (.int p4), .val (.int (0 : Int32))] d5_6 rfl) ?_
  refine OwnG.st (y_iload X53 H d5_8 rfl) ?_
  refine OwnG.st (y_iloadN X53 H d5_10 rfl) ?_
  refine OwnG.st (y_icN X53 H d5_11 (tlt hc11_74).2.1) ?_
  refine OwnG.st (y_aloadN X53 H d5_14 rfl) ?_
  refine OwnG.st (y_aloadN X53 H d5_15 rfl) ?_
  refine OwnG.st (y_iload X53 H d5_16 rfl) ?_
  refine OwnG.st (y_ldJ f71 X53 H hZ rfl (by decide) (by show (0 : Int) < _; omega) d5_18 (g2 0) rfl) ?_
  refine OwnG.st (y_aloadN X53 H d5_19 rfl) ?_
  refine OwnG.st (y_iload X53 H d5_20 rfl) ?_
  refine OwnG.st (y_ldI f72 X53 H hZ rfl (by decide) (by show (0 : Int) < _; omega) d5_22 (g3 0) rfl) ?_
  obtain ⟨cq75, qc75, qd75⟩ := EMS_73.cell
  refine OwnG.cm 26 1 28 X53 (X53.privateBack hx (y := mn_19) hown (mvT hZ (ww hw 130 rfl)) (mvT hZ (ww hw 131 rfl)) (mvT hZ (own_selP (y := mn_19) (y0 := mn_5) rfl (ww hw 52 rfl) (ww hw 131 rfl) (ww hw 132 rfl) (by decide))) (Cond.privateMethod_at (mvP hZ (ww hw 132 rfl) (args := #[]))) (mvT hZ (ww hw 133 rfl)) (by decide) (backOf (W := 0) (rm19 l Z a0 hw [] a1 (g2 0) (g3 0) pool psz start hash table x53 (0 : Int32) (0 : Int64) size bud n53' g53' T53.heap n0 Z53 gb_a1 gb_x53 ⟨EMS_73, FMS0_73, FMS1_73, FMS2_73, FMS3_73, FMS4_73, FMS5_73, FMS6_73, FMS7_73, FMS8_73, FMS9_73⟩ Vq53 (Ne.symm ne53_54) hBy53 (by omega) (by omega) (by omega) (by omega)) hZ (ww hw 133 rfl) (ww hw 10 rfl) (by decide) (by decide)) (g := mkF m 23 _ _) rfl (by rw [hml]; rfl) (Steps.refl _) (a := a1) qc75 qd75 (argsL := [(.long (g2 0)), (.int (g3 0))]) (rest := []) (lenOf pd_5F1_1 rfl) rfl (by show 2 * 0 + _ ≤ _; exact Nat.le_of_eq rfl) (hb hby d5_23) (fun _ _ => ⟨rfl, rfl, (by decide : 1 + 0 ≤ _), (by decide : 28 + 0 ≤ _)⟩)) rfl rfl ?_
  intro T75 Lc75 vc75 X75 hQ75
  obtain ⟨g75', e75', hv75, N75q, Kq75, M75q, Vq75, hBy75, hg75, hE75, he75a, he75b, hs75⟩ := hQ75
  have Z75 : LeA (n0) (T75.heap.size) := Nat.le_trans Z53 Kq75.1
  have f77 := Exa.keep f63 Kq75
  have f78 := Fld.keep f64 Kq75 (ninS hD.1 (ninS ne53_55 nin0))
  have f79 := Fld.keep f65 Kq75 (ninS hD.1 (ninS ne53_55 nin0))
  have f80 := f66.keep Kq75 (ninS hD.2.1 (ninS ne53_56 nin0))
  have f81 := f67.keep Kq75 (ninS hD.2.2.2.1 (ninS ne53_57 nin0))
  have f82 := f68.keep Kq75 (ninS hD.2.2.2.2.2.2.1 (ninS ne53_58 nin0))
  have f83 := f69.keep Kq75 (ninS hD.2.2.2.2.2.2.2.2.2.2.1 (ninS ne53_59 nin0))
  have K75 : Keep h0 T75.heap [a1, bud, pool, start, hash, table, enc] := K53.trans Kq75 (own_trS (P := fun x => x ∈ [a1, bud, pool, start, hash, table, enc] ∨ h0.size ≤ x) (Or.inl (by simp)) (own_trS (P := fun x => x ∈ [a1, bud, pool, start, hash, table, enc] ∨ h0.size ≤ x) (inw_x53) own_tr0))
  obtain ⟨EMS_86, FMS0_86, FMS1_86, FMS2_86, FMS3_86, FMS4_86, FMS5_86, FMS6_86, FMS7_86, FMS8_86, FMS9_86⟩ := M75q
  have N75 := Fr.app N53 N75q
  refine OwnG.cn hv75 ?_
  clear hv75
  have hc11_87 : ¬ ((1 : Int32) < p4) := by rw [hp4]; decide
  refine OwnG.st (y_iinc X75 H #[.val (.ref a1), .val (.ref a2), .val (.ref a3), .val (.int p4), .val (.int (1 : Int32))] d5_26 rfl rfl) ?_
  refine OwnG.st (y_goto X75 H 8 d5_29 (by decide) (by decide)) ?_
  refine OwnG.st (y_iload X75 H d5_8 rfl) ?_
  refine OwnG.st (y_iloadN X75 H d5_10 rfl) ?_
  refine OwnG.st (y_icY X75 H 32 d5_11 (flt hc11_87).2.1 (by decide) (by decide)) ?_
  refine OwnG.st (y_aloadN X75 H d5_32 rfl) ?_
  obtain ⟨cq88, qc88, qd88⟩ := EMS_86.cell
  refine OwnG.cm 36 5 344 X75 (X75.privateBack hx (y := mn_7) hown (mvT hZ (ww hw 63 rfl)) (mvT hZ (ww hw 64 rfl)) (mvT hZ (own_selP (y := mn_7) (y0 := mn_5) rfl (ww hw 52 rfl) (ww hw 64 rfl) (ww hw 65 rfl) (by decide))) (Cond.privateMethod_at (mvP hZ (ww hw 65 rfl) (args := #[]))) (mvT hZ (ww hw 66 rfl)) (by decide) (backOf (W := 0) (rm7A l Z a0 hw [] a1 kk e75'.toInt.toNat g75' T75.heap n0 Z75 hkk ⟨pool, psz, start, hash, table, x53, e75', ((g2 0) + (1 : Int64)), size, bud, used, _, gP, gS, gH, gT, ⟨EMS_86, FMS0_86, FMS1_86, FMS2_86, FMS3_86, FMS4_86, FMS5_86, FMS6_86, FMS7_86, FMS8_86, FMS9_86⟩, ⟨f77, f78, f79⟩, f80, f81, f82, f83, Vq75, hBy75, hBP, ⟨hD.1, hD.2.1, hD.2.2.1, hD.2.2.2.1, hD.2.2.2.2.1, hD.2.2.2.2.2.1, hD.2.2.2.2.2.2.1, hD.2.2.2.2.2.2.2.1, hD.2.2.2.2.2.2.2.2.1, hD.2.2.2.2.2.2.2.2.2.1, hD.2.2.2.2.2.2.2.2.2.2.1, hD.2.2.2.2.2.2.2.2.2.2.2.1, hD.2.2.2.2.2.2.2.2.2.2.2.2.1, hD.2.2.2.2.2.2.2.2.2.2.2.2.2.1, hD.2.2.2.2.2.2.2.2.2.2.2.2.2.2.1, (Ne.symm ne53_54), (Ne.symm ne53_55), (Ne.symm ne53_56), (Ne.symm ne53_57), (Ne.symm ne53_58), (Ne.symm ne53_59)⟩, ⟨ge_a1, ge_bud, ge_pool, ge_start, ge_hash, ge_table, ge_x53⟩, (by omega), (by omega), (by omega), hps, hsz, hs0, hu0, hu1⟩) hZ (ww hw 66 rfl) (ww hw 10 rfl) (by decide) (by decide)) (g := mkF m 33 _ _) rfl (by rw [hml]; rfl) (Steps.refl _) (a := a1) qc88 qd88 (argsL := []) (rest := []) (lenOf pd_5F1_2 rfl) rfl (by show 2 * 0 + _ ≤ _; exact Nat.le_of_eq rfl) (hb hby d5_33) (fun _ _ => ⟨rfl, rfl, (by decide : 1 + 4 ≤ _), (by decide : 28 + 316 ≤ _)⟩)) rfl rfl ?_
  intro T88 Lc88 vc88 X88 hQ88
  obtain ⟨hv88, N88q, KB88, hSx⟩ := hQ88
  have N88 := Fr.app N75 N88q
  refine OwnG.cv hv88 ?_
  clear hv88
  have hEs : Ents g75' 0 e75'.toInt.toNat [(own_V (g2 0 - 0) (g3 0), g3 0)] := ⟨_, hE75, rfl⟩
  have hs75' : (g2 0).toInt ≤ 255 → (g3 0).toInt ≤ 4 → e75'.toInt.toNat ≤ 3 := fun a c => by have q := hs75 (by omega) c; omega
  exact OwnG.retI X88 hx Bd.returns (BodyLoose.notSynchronized Bd) (hb hby d5_36) ⟨e75'.toInt.toNat, g75', rfl, N88, (own_kb K75 (own_trS (P := fun x => kk ≤ x) ge_a1 (own_trS ge_bud (own_trS ge_pool (own_trS ge_start (own_trS ge_hash (own_trS ge_table (own_trS ge_enc own_tr0)))))))).trans KB88, hEs, by omega, hs75', hSx⟩ (by decide) (by decide)
theorem pd_5F2_0 : parseMethodDescriptor "(I)V" = some ⟨[.int], none⟩ := by decide +kernel
theorem pd_5F2_1 : parseMethodDescriptor "(JI)V" = some ⟨[.long, .int], none⟩ := by decide +kernel
theorem pd_5F2_2 : parseMethodDescriptor "()I" = some ⟨[], some .int⟩ := by decide +kernel
def Q5F2 (Z : State) (a1 : Addr) (a2 : Addr) (a3 : Addr) (p4 : Int32) (kk n2 n3 : Nat) (g2 : Nat → Int64) (g3 : Nat → Int32) (eL0 : Nat) (gE : Nat → Int32) (h0 : Heap) (n0 : Nat) (v : Option Value) (h : Heap) (L : List Loc) : Prop := ∃ (e' : Nat) (g' : Nat → Int32), v = some (.int 0) ∧ Fr n0 L ∧ KeepB h0 h kk ∧ Ents g' 0 e' [(own_V (g2 0 - 0) (g3 0), g3 0), (own_V (g2 1 - (g2 0 + 1)) (g3 1), g3 1)] ∧ e' ≤ 28 ∧ SA1 Z h kk a1 e' g' e' g'
set_option maxRecDepth 65536 in
set_option maxHeartbeats 40000000 in
theorem rm5F2 (l : Launch) (Z : State) (a0 : Array Value) (hw : HW a0 Z) (ws : List Jvm.Cond) (a1 : Addr) (a2 : Addr) (a3 : Addr) (p4 : Int32) (kk n2 n3 : Nat) (g2 : Nat → Int64) (g3 : Nat → Int32) (eL0 : Nat) (gE : Nat → Int32) (h0 : Heap) (n0 : Nat) (Z0 : n0 ≤ h0.size) (hkk : n0 ≤ kk) (hS : SA0 Z h0 kk a1 eL0 gE) (A_2 : OwnA Z h0 a2 .long n2 (jv' g2)) (A_3 : OwnA Z h0 a3 .int n3 (iv' g3)) (hk_a2 : a2 < kk) (hk_a3 : a3 < kk) (hp4 : p4 = 2) (hn2 : 2 ≤ n2) (hn3 : 2 ≤ n3) (hv0 : 0 ≤ (g2 0).toInt ∧ (g2 0).toInt < 4611686018427387904) (hc0 : 1 ≤ (g3 0).toInt) (hv1 : 0 ≤ (g2 1).toInt ∧ (g2 1).toInt < 4611686018427387904) (hc1 : 1 ≤ (g3 1).toInt) (hlt : (g2 0).toInt < (g2 1).toInt) :
    MetFree l mn_5 (head1 (Jvm.Cond.code mn_5 prog_31_method_4_code 5 (some .int) :: ws) ({ frames := 4, cells := 5, slots := 344, locals := 76 } : Room)) (fun a U => a = #[(.ref a1), (.ref a2), (.ref a3), (.int p4)] ∧ Z.Warmed39 U.vm ∧ U.heap = h0) (fun _ _ _ _ _ => True) (fun _ U o U' => ∃ v L, o = .returned v ∧ Q5F2 Z a1 a2 a3 p4 kk n2 n3 g2 g3 eL0 gE h0 n0 v U'.heap L ∧ FrameEnd U o U' L ({ frames := 4, cells := 5, slots := 344, locals := 76 } : Room).cells ({ frames := 4, cells := 5, slots := 344, locals := 76 } : Room).slots) := by
  refine MetFree.of_bodySF (plainFor_of_name pn_5) hisR ?_
  intro p e s m args below meth c s₁ Bd hml0 hP hK
  obtain ⟨rfl, hZ, hh⟩ := hP
  have hx := Bd.exec
  have hby := Bd.bytes
  have H := And.intro hx hby
  have hml : c.maxLocals = 5 := hml0
  have hown : s.vm.findClass "com/example/deft_nets/deftnets/MarkingStore" = some m.cls := findClass_of_methodNamed Bd.named
  have hnm := (name_of_methodNamed Bd.named Bd.method).1
  have X0 : Stand p l e ({ frames := 4, cells := 5, slots := 344, locals := 76 } : Room) s m #[(.ref a1), (.ref a2), (.ref a3), (.int p4)] below meth c s₁ [] 0 0 := Stand.of_body Bd
  have e0 : s₁.heap = h0 := by rw [← hh, Bd.state]; rfl
  have N0 := Fr.nil n0
  suffices hG : OwnG p e below s (Q5F2 Z a1 a2 a3 p4 kk n2 n3 g2 g3 eL0 gE h0 n0) ({ frames := 4, cells := 5, slots := 344, locals := 76 } : Room).cells ({ frames := 4, cells := 5, slots := 344, locals := 76 } : Room).slots s₁ (mkF m 0 #[.val (.ref a1), .val (.ref a2), .val (.ref a3), .val (.int p4), .unset] []) by
    obtain ⟨s2, o2, g1, g2⟩ := hG
    exact ⟨s2, o2, castTop (ef_5 m a1 a2 a3 p4) g1, g2⟩
  obtain ⟨pool, psz, start, hash, table, enc, elen, next, size, bud, used, nE, gP, gS, gH, gT, hM, hB, A_p, A_s, A_h, A_t, A_e, hBy, hBP, hD, hG, heL, hle, hn, hps, hsz, hs0, hu0, hu1⟩ := hS
  have ge_a1 : LeA (kk) (a1) := hG.1
  have ge_bud : LeA (kk) (bud) := hG.2.1
  have ge_pool : LeA (kk) (pool) := hG.2.2.1
  have ge_start : LeA (kk) (start) := hG.2.2.2.1
  have ge_hash : LeA (kk) (hash) := hG.2.2.2.2.1
  have ge_table : LeA (kk) (table) := hG.2.2.2.2.2.1
  have ge_enc : LeA (kk) (enc) := hG.2.2.2.2.2.2
  have gb_a1 : LeA (n0) (a1) := Nat.le_trans hkk ge_a1
  have gb_enc : LeA (n0) (enc) := Nat.le_trans hkk ge_enc
  obtain ⟨EMS_51, FMS0_51, FMS1_51, FMS2_51, FMS3_51, FMS4_51, FMS5_51, FMS6_51, FMS7_51, FMS8_51, FMS9_51⟩ := hM
  obtain ⟨EBG_52, FBG0_52, FBG1_52⟩ := hB
  have hkz : kk ≤ h0.size := Nat.le_of_lt (Nat.lt_of_le_of_lt ge_a1 (Exa.lt EMS_51))
  have z0 : (0 : Int32).toInt = 0 := rfl
  have z0L : (0 : Int64).toInt = 0 := rfl
  have e1L : (1 : Int64).toInt = 1 := rfl
  have hp4' : p4.toInt = 2 := by rw [hp4]; rfl
  have hx0 := x_ladd (g2 0) 1 (by omega)
  have hx1 := x_ladd (g2 1) 1 (by omega)
  refine OwnG.st (y_aloadN X0 H d5_0 rfl) ?_
  refine OwnG.st (y_iloadN X0 H d5_1 rfl) ?_
  obtain ⟨cq53, qc53, qd53⟩ := EMS_51.cell
  refine OwnG.cm 5 1 28 X0 (X0.privateBack hx (y := mn_6) hown (mvT hZ (ww hw 54 rfl)) (mvT hZ (ww hw 55 rfl)) (mvT hZ (own_selP (y := mn_6) (y0 := mn_5) rfl (ww hw 52 rfl) (ww hw 55 rfl) (ww hw 56 rfl) (by decide))) (Cond.privateMethod_at (mvP hZ (ww hw 56 rfl) (args := #[]))) (mvT hZ (ww hw 57 rfl)) (by decide) (backOf (W := 0) (rm6 l Z a0 hw [] a1 p4 pool psz start hash table enc elen next size bud nE gE h0 n0 Z0 gb_a1 ⟨EMS_51, FMS0_51, FMS1_51, FMS2_51, FMS3_51, FMS4_51, FMS5_51, FMS6_51, FMS7_51, FMS8_51, FMS9_51⟩ A_e hD.2.2.2.2.2.2.2.2.2.2.2.2.2.2.2.1 hBy (by omega) hn) hZ (ww hw 57 rfl) (ww hw 10 rfl) (by decide) (by decide)) (g := mkF m 2 _ _) rfl (by rw [hml]; rfl) (Steps.refl _) (a := a1) (by rw [e0]; exact qc53) qd53 (argsL := [(.int p4)]) (rest := []) (lenOf pd_5F2_0 rfl) rfl (by show 2 * 0 + _ ≤ _; exact Nat.le_of_eq rfl) (hb hby d5_2) (fun _ _ => ⟨rfl, e0, (by decide : 0 + 1 ≤ _), (by decide : 0 + 28 ≤ _)⟩)) rfl rfl ?_
  intro T53 Lc53 vc53 X53 hQ53
  obtain ⟨x53, n53', g53', hv53, N53q, Kq53, M53q, Vq53, hBy53, sx53, hn53a, hn53b⟩ := hQ53
  have ne53_54 : NeA a1 x53 := Or.elim sx53 (fun q => by rw [q]; exact (Ne.symm hD.2.2.2.2.2.2.2.2.2.2.2.2.2.2.2.1)) (fun q => Nat.ne_of_lt (Nat.lt_of_lt_of_le (Exa.lt EMS_51) q))
  have ne53_55 : NeA bud x53 := Or.elim sx53 (fun q => by rw [q]; exact (Ne.symm hD.2.2.2.2.2.2.2.2.2.2.2.2.2.2.2.2.1)) (fun q => Nat.ne_of_lt (Nat.lt_of_lt_of_le (Exa.lt EBG_52) q))
  have ne53_56 : NeA pool x53 := Or.elim sx53 (fun q => by rw [q]; exact (Ne.symm hD.2.2.2.2.2.2.2.2.2.2.2.2.2.2.2.2.2.1)) (fun q => Nat.ne_of_lt (Nat.lt_of_lt_of_le A_p.lt q))
  have ne53_57 : NeA start x53 := Or.elim sx53 (fun q => by rw [q]; exact (Ne.symm hD.2.2.2.2.2.2.2.2.2.2.2.2.2.2.2.2.2.2.1)) (fun q => Nat.ne_of_lt (Nat.lt_of_lt_of_le A_s.lt q))
  have ne53_58 : NeA hash x53 := Or.elim sx53 (fun q => by rw [q]; exact (Ne.symm hD.2.2.2.2.2.2.2.2.2.2.2.2.2.2.2.2.2.2.2.1)) (fun q => Nat.ne_of_lt (Nat.lt_of_lt_of_le A_h.lt q))
  have ne53_59 : NeA table x53 := Or.elim sx53 (fun q => by rw [q]; exact (Ne.symm hD.2.2.2.2.2.2.2.2.2.2.2.2.2.2.2.2.2.2.2.2)) (fun q => Nat.ne_of_lt (Nat.lt_of_lt_of_le A_t.lt q))
  have ne53_60 : NeA a2 x53 := Or.elim sx53 (fun q => by rw [q]; exact (Ne.symm (Nat.ne_of_gt (Nat.lt_of_lt_of_le hk_a2 ge_enc)))) (fun q => Nat.ne_of_lt (Nat.lt_of_lt_of_le A_2.lt q))
  have ne53_61 : NeA a3 x53 := Or.elim sx53 (fun q => by rw [q]; exact (Ne.symm (Nat.ne_of_gt (Nat.lt_of_lt_of_le hk_a3 ge_enc)))) (fun q => Nat.ne_of_lt (Nat.lt_of_lt_of_le A_3.lt q))
  have inw_x53 : x53 ∈ [a1, bud, pool, start, hash, table, enc] ∨ h0.size ≤ x53 := Or.elim sx53 (fun q => by rw [q]; exact Or.inl (by simp)) (fun q => Or.inr (Nat.le_trans (Keep.refl h0 [a1, bud, pool, start, hash, table, enc]).1 q))
  have ge_x53 : LeA (kk) (x53) := Or.elim sx53 (fun q => by rw [q]; exact ge_enc) (fun q => Nat.le_trans hkz (Nat.le_trans (Keep.refl h0 [a1, bud, pool, start, hash, table, enc]).1 q))
  have gb_x53 : LeA (n0) (x53) := Or.elim sx53 (fun q => by rw [q]; exact gb_enc) (fun q => Nat.le_trans Z0 q)
  have Z53 : LeA (n0) (T53.heap.size) := Nat.le_trans Z0 Kq53.1
  have f63 := Exa.keep EBG_52 Kq53
  have f64 := Fld.keep FBG0_52 Kq53 (ninS hD.1 nin0)
  have f65 := Fld.keep FBG1_52 Kq53 (ninS hD.1 nin0)
  have f66 := A_p.keep Kq53 (ninS hD.2.1 nin0)
  have f67 := A_s.keep Kq53 (ninS hD.2.2.2.1 nin0)
  have f68 := A_h.keep Kq53 (ninS hD.2.2.2.2.2.2.1 nin0)
  have f69 := A_t.keep Kq53 (ninS hD.2.2.2.2.2.2.2.2.2.2.1 nin0)
  have f71 := A_2.keep Kq53 (ninS (Ne.symm (Nat.ne_of_gt (Nat.lt_of_lt_of_le hk_a2 ge_a1))) nin0)
  have f72 := A_3.keep Kq53 (ninS (Ne.symm (Nat.ne_of_gt (Nat.lt_of_lt_of_le hk_a3 ge_a1))) nin0)
  have K53 : Keep h0 T53.heap [a1, bud, pool, start, hash, table, enc] := (Keep.refl h0 [a1, bud, pool, start, hash, table, enc]).trans Kq53 (own_trS (P := fun x => x ∈ [a1, bud, pool, start, hash, table, enc] ∨ h0.size ≤ x) (Or.inl (by simp)) own_tr0)
  obtain ⟨EMS_73, FMS0_73, FMS1_73, FMS2_73, FMS3_73, FMS4_73, FMS5_73, FMS6_73, FMS7_73, FMS8_73, FMS9_73⟩ := M53q
  have N53 := Fr.app N0 N53q
  refine OwnG.cn hv53 ?_
  clear hv53
  have hc11_74 : (0 : Int32) < p4 := by rw [hp4]; decide
  refine OwnG.st (y_iconst X53 H (0) d5_5 rfl) ?_
  refine OwnG.st (y_istore X53 H #[.val (.ref a1), .val (.ref a2), .val (.ref a3), .val (.int p4), .val (.int (0 : Int32))] d5_6 rfl) ?_
  refine OwnG.st (y_iload X53 H d5_8 rfl) ?_
  refine OwnG.st (y_iloadN X53 H d5_10 rfl) ?_
  refine OwnG.st (y_icN X53 H d5_11 (tlt hc11_74).2.1) ?_
  refine OwnG.st (y_aloadN X53 H d5_14 rfl) ?_
  refine OwnG.st (y_aloadN X53 H d5_15 rfl) ?_
  refine OwnG.st (y_iload X53 H d5_16 rfl) ?_
  refine OwnG.st (y_ldJ f71 X53 H hZ rfl (by decide) (by show (0 : Int) < _; omega) d5_18 (g2 0) rfl) ?_
  refine OwnG.st (y_aloadN X53 H d5_19 rfl) ?_
  refine OwnG.st (y_iload X53 H d5_20 rfl) ?_
  refine OwnG.st (y_ldI f72 X53 H hZ rfl (by decide) (by show (0 : Int) < _; omega) d5_22 (g3 0) rfl) ?_
  obtain ⟨cq75, qc75, qd75⟩ := EMS_73.cell
  refine OwnG.cm 26 1 28 X53 (X53.privateBack hx (y := mn_19) hown (mvT hZ (ww hw 130 rfl)) (mvT hZ (ww hw 131 rfl)) (mvT hZ (own_selP (y := mn_19) (y0 := mn_5) rfl (ww hw 52 rfl) (ww hw 131 rfl) (ww hw 132 rfl) (by decide))) (Cond.privateMethod_at (mvP hZ (ww hw 132 rfl) (args := #[]))) (mvT hZ (ww hw 133 rfl)) (by decide) (backOf (W := 0) (rm19 l Z a0 hw [] a1 (g2 0) (g3 0) pool psz start hash table x53 (0 : Int32) (0 : Int64) size bud n53' g53' T53.heap n0 Z53 gb_a1 gb_x53 ⟨EMS_73, FMS0_73, FMS1_73, FMS2_73, FMS3_73, FMS4_73, FMS5_73, FMS6_73, FMS7_73, FMS8_73, FMS9_73⟩ Vq53 (Ne.symm ne53_54) hBy53 (by omega) (by omega) (by omega) (by omega)) hZ (ww hw 133 rfl) (ww hw 10 rfl) (by decide) (by decide)) (g := mkF m 23 _ _) rfl (by rw [hml]; rfl) (Steps.refl _) (a := a1) qc75 qd75 (argsL := [(.long (g2 0)), (.int (g3 0))]) (rest := []) (lenOf pd_5F2_1 rfl) rfl (by show 2 * 0 + _ ≤ _; exact Nat.le_of_eq rfl) (hb hby d5_23) (fun _ _ => ⟨rfl, rfl, (by decide : 1 + 0 ≤ _), (by decide : 28 + 0 ≤ _)⟩)) rfl rfl ?_
  intro T75 Lc75 vc75 X75 hQ75
  obtain ⟨g75', e75', hv75, N75q, Kq75, M75q, Vq75, hBy75, hg75, hE75, he75a, he75b, hs75⟩ := hQ75
  have Z75 : LeA (n0) (T75.heap.size) := Nat.le_trans Z53 Kq75.1
  have f77 := Exa.keep f63 Kq75
  have f78 := Fld.keep f64 Kq75 (ninS hD.1 (ninS ne53_55 nin0))
  have f79 := Fld.keep f65 Kq75 (ninS hD.1 (ninS ne53_55 nin0))
  have f80 := f66.keep Kq75 (ninS hD.2.1 (ninS ne53_56 nin0))
  have f81 := f67.keep Kq75 (ninS hD.2.2.2.1 (ninS ne53_57 nin0))
  have f82 := f68.keep Kq75 (ninS hD.2.2.2.2.2.2.1 (ninS ne53_58 nin0))
  have f83 := f69.keep Kq75 (ninS hD.2.2.2.2.2.2.2.2.2.2.1 (ninS ne53_59 nin0))
  have f84 := f71.keep Kq75 (ninS (Ne.symm (Nat.ne_of_gt (Nat.lt_of_lt_of_le hk_a2 ge_a1))) (ninS ne53_60 nin0))
  have f85 := f72.keep Kq75 (ninS (Ne.symm (Nat.ne_of_gt (Nat.lt_of_lt_of_le hk_a3 ge_a1))) (ninS ne53_61 nin0))
  have K75 : Keep h0 T75.heap [a1, bud, pool, start, hash, table, enc] := K53.trans Kq75 (own_trS (P := fun x => x ∈ [a1, bud, pool, start, hash, table, enc] ∨ h0.size ≤ x) (Or.inl (by simp)) (own_trS (P := fun x => x ∈ [a1, bud, pool, start, hash, table, enc] ∨ h0.size ≤ x) (inw_x53) own_tr0))
  obtain ⟨EMS_86, FMS0_86, FMS1_86, FMS2_86, FMS3_86, FMS4_86, FMS5_86, FMS6_86, FMS7_86, FMS8_86, FMS9_86⟩ := M75q
  have N75 := Fr.app N53 N75q
  refine OwnG.cn hv75 ?_
  clear hv75
  have hc11_87 : (1 : Int32) < p4 := by rw [hp4]; decide
  refine OwnG.st (y_iinc X75 H #[.val (.ref a1), .val (.ref a2), .val (.ref a3), .val (.int p4), .val (.int (1 : Int32))] d5_26 rfl rfl) ?_
  refine OwnG.st (y_goto X75 H 8 d5_29 (by decide) (by decide)) ?_
  refine OwnG.st (y_iload X75 H d5_8 rfl) ?_
  refine OwnG.st (y_iloadN X75 H d5_10 rfl) ?_
  refine OwnG.st (y_icN X75 H d5_11 (tlt hc11_87).2.1) ?_
  refine OwnG.st (y_aloadN X75 H d5_14 rfl) ?_
  refine OwnG.st (y_aloadN X75 H d5_15 rfl) ?_
  refine OwnG.st (y_iload X75 H d5_16 rfl) ?_
  refine OwnG.st (y_ldJ f84 X75 H hZ rfl (by decide) (by show (1 : Int) < _; omega) d5_18 (g2 1) rfl) ?_
  refine OwnG.st (y_aloadN X75 H d5_19 rfl) ?_
  refine OwnG.st (y_iload X75 H d5_20 rfl) ?_
  refine OwnG.st (y_ldI f85 X75 H hZ rfl (by decide) (by show (1 : Int) < _; omega) d5_22 (g3 1) rfl) ?_
  obtain ⟨cq88, qc88, qd88⟩ := EMS_86.cell
  refine OwnG.cm 26 1 28 X75 (X75.privateBack hx (y := mn_19) hown (mvT hZ (ww hw 130 rfl)) (mvT hZ (ww hw 131 rfl)) (mvT hZ (own_selP (y := mn_19) (y0 := mn_5) rfl (ww hw 52 rfl) (ww hw 131 rfl) (ww hw 132 rfl) (by decide))) (Cond.privateMethod_at (mvP hZ (ww hw 132 rfl) (args := #[]))) (mvT hZ (ww hw 133 rfl)) (by decide) (backOf (W := 0) (rm19 l Z a0 hw [] a1 (g2 1) (g3 1) pool psz start hash table x53 e75' ((g2 0) + (1 : Int64)) size bud n53' g75' T75.heap n0 Z75 gb_a1 gb_x53 ⟨EMS_86, FMS0_86, FMS1_86, FMS2_86, FMS3_86, FMS4_86, FMS5_86, FMS6_86, FMS7_86, FMS8_86, FMS9_86⟩ Vq75 (Ne.symm ne53_54) hBy75 (by omega) (by omega) (by omega) (by omega)) hZ (ww hw 133 rfl) (ww hw 10 rfl) (by decide) (by decide)) (g := mkF m 23 _ _) rfl (by rw [hml]; rfl) (Steps.refl _) (a := a1) qc88 qd88 (argsL := [(.long (g2 1)), (.int (g3 1))]) (rest := []) (lenOf pd_5F2_1 rfl) rfl (by show 2 * 0 + _ ≤ _; exact Nat.le_of_eq rfl) (hb hby d5_23) (fun _ _ => ⟨rfl, rfl, (by decide : 1 + 0 ≤ _), (by decide : 28 + 0 ≤ _)⟩)) rfl rfl ?_
  intro T88 Lc88 vc88 X88 hQ88
  obtain ⟨g88', e88', hv88, N88q, Kq88, M88q, Vq88, hBy88, hg88, hE88, he88a, he88b, hs88⟩ := hQ88
  have Z88 : LeA (n0) (T88.heap.size) := Nat.le_trans Z75 Kq88.1
  have f90 := Exa.keep f77 Kq88
  have f91 := Fld.keep f78 Kq88 (ninS hD.1 (ninS ne53_55 nin0))
  have f92 := Fld.keep f79 Kq88 (ninS hD.1 (ninS ne53_55 nin0))
  have f93 := f80.keep Kq88 (ninS hD.2.1 (ninS ne53_56 nin0))
  have f94 := f81.keep Kq88 (ninS hD.2.2.2.1 (ninS ne53_57 nin0))
  have f95 := f82.keep Kq88 (ninS hD.2.2.2.2.2.2.1 (ninS ne53_58 nin0))
  have f96 := f83.keep Kq88 (ninS hD.2.2.2.2.2.2.2.2.2.2.1 (ninS ne53_59 nin0))
  have K88 : Keep h0 T88.heap [a1, bud, pool, start, hash, table, enc] := K75.trans Kq88 (own_trS (P := fun x => x ∈ [a1, bud, pool, start, hash, table, enc] ∨ h0.size ≤ x) (Or.inl (by simp)) (own_trS (P := fun x => x ∈ [a1, bud, pool, start, hash, table, enc] ∨ h0.size ≤ x) (inw_x53) own_tr0))
  obtain ⟨EMS_99, FMS0_99, FMS1_99, FMS2_99, FMS3_99, FMS4_99, FMS5_99, FMS6_99, FMS7_99, FMS8_99, FMS9_99⟩ := M88q
  have N88 := Fr.app N75 N88q
  refine OwnG.cn hv88 ?_
  clear hv88
  have hc11_100 : ¬ ((2 : Int32) < p4) := by rw [hp4]; decide
  refine OwnG.st (y_iinc X88 H #[.val (.ref a1), .val (.ref a2), .val (.ref a3), .val (.int p4), .val (.int (2 : Int32))] d5_26 rfl rfl) ?_
  refine OwnG.st (y_goto X88 H 8 d5_29 (by decide) (by decide)) ?_
  refine OwnG.st (y_iload X88 H d5_8 rfl) ?_
  refine OwnG.st (y_iloadN X88 H d5_10 rfl) ?_
  refine OwnG.st (y_icY X88 H 32 d5_11 (flt hc11_100).2.1 (by decide) (by decide)) ?_
  refine OwnG.st (y_aloadN X88 H d5_32 rfl) ?_
  obtain ⟨cq101, qc101, qd101⟩ := EMS_99.cell
  refine OwnG.cm 36 5 344 X88 (X88.privateBack hx (y := mn_7) hown (mvT hZ (ww hw 63 rfl)) (mvT hZ (ww hw 64 rfl)) (mvT hZ (own_selP (y := mn_7) (y0 := mn_5) rfl (ww hw 52 rfl) (ww hw 64 rfl) (ww hw 65 rfl) (by decide))) (Cond.privateMethod_at (mvP hZ (ww hw 65 rfl) (args := #[]))) (mvT hZ (ww hw 66 rfl)) (by decide) (backOf (W := 0) (rm7A l Z a0 hw [] a1 kk e88'.toInt.toNat g88' T88.heap n0 Z88 hkk ⟨pool, psz, start, hash, table, x53, e88', ((g2 1) + (1 : Int64)), size, bud, used, _, gP, gS, gH, gT, ⟨EMS_99, FMS0_99, FMS1_99, FMS2_99, FMS3_99, FMS4_99, FMS5_99, FMS6_99, FMS7_99, FMS8_99, FMS9_99⟩, ⟨f90, f91, f92⟩, f93, f94, f95, f96, Vq88, hBy88, hBP, ⟨hD.1, hD.2.1, hD.2.2.1, hD.2.2.2.1, hD.2.2.2.2.1, hD.2.2.2.2.2.1, hD.2.2.2.2.2.2.1, hD.2.2.2.2.2.2.2.1, hD.2.2.2.2.2.2.2.2.1, hD.2.2.2.2.2.2.2.2.2.1, hD.2.2.2.2.2.2.2.2.2.2.1, hD.2.2.2.2.2.2.2.2.2.2.2.1, hD.2.2.2.2.2.2.2.2.2.2.2.2.1, hD.2.2.2.2.2.2.2.2.2.2.2.2.2.1, hD.2.2.2.2.2.2.2.2.2.2.2.2.2.2.1, (Ne.symm ne53_54), (Ne.symm ne53_55), (Ne.symm ne53_56), (Ne.symm ne53_57), (Ne.symm ne53_58), (Ne.symm ne53_59)⟩, ⟨ge_a1, ge_bud, ge_pool, ge_start, ge_hash, ge_table, ge_x53⟩, (by omega), (by omega), (by omega), hps, hsz, hs0, hu0, hu1⟩) hZ (ww hw 66 rfl) (ww hw 10 rfl) (by decide) (by decide)) (g := mkF m 33 _ _) rfl (by rw [hml]; rfl) (Steps.refl _) (a := a1) qc101 qd101 (argsL := []) (rest := []) (lenOf pd_5F2_2 rfl) rfl (by show 2 * 0 + _ ≤ _; exact Nat.le_of_eq rfl) (hb hby d5_33) (fun _ _ => ⟨rfl, rfl, (by decide : 1 + 4 ≤ _), (by decide : 28 + 316 ≤ _)⟩)) rfl rfl ?_
  intro T101 Lc101 vc101 X101 hQ101
  obtain ⟨hv101, N101q, KB101, hSx⟩ := hQ101
  have N101 := Fr.app N88 N101q
  refine OwnG.cv hv101 ?_
  clear hv101
  have hEs : Ents g88' 0 e88'.toInt.toNat [(own_V (g2 0 - 0) (g3 0), g3 0), (own_V (g2 1 - (g2 0 + 1)) (g3 1), g3 1)] := ⟨_, hE75.copy rfl (fun j hj => hg88 _ hj), _, hE88, rfl⟩
  exact OwnG.retI X101 hx Bd.returns (BodyLoose.notSynchronized Bd) (hb hby d5_36) ⟨e88'.toInt.toNat, g88', rfl, N101, (own_kb K88 (own_trS (P := fun x => kk ≤ x) ge_a1 (own_trS ge_bud (own_trS ge_pool (own_trS ge_start (own_trS ge_hash (own_trS ge_table (own_trS ge_enc own_tr0)))))))).trans KB101, hEs, by omega, hSx⟩ (by decide) (by decide)
theorem pd_5S0_0 : parseMethodDescriptor "(I)V" = some ⟨[.int], none⟩ := by decide +kernel
theorem pd_5S0_1 : parseMethodDescriptor "()I" = some ⟨[], some .int⟩ := by decide +kernel
def Q5S0 (Z : State) (a1 : Addr) (a2 : Addr) (a3 : Addr) (p4 : Int32) (kk n2 n3 : Nat) (g2 : Nat → Int64) (g3 : Nat → Int32) (e0' : Nat) (gX : Nat → Int32) (eL0 : Nat) (gE : Nat → Int32) (h0 : Heap) (n0 : Nat) (v : Option Value) (h : Heap) (L : List Loc) : Prop := ∃ (m : Int32) (e' : Nat) (g' : Nat → Int32), v = some (.int m) ∧ Fr n0 L ∧ KeepB h0 h kk ∧ Ents g' 0 e' [] ∧ SD Z h h.size a1 m e' g' ∧ SD Z h h.size a1 0 e0' gX
set_option maxRecDepth 65536 in
set_option maxHeartbeats 40000000 in
theorem rm5S0 (l : Launch) (Z : State) (a0 : Array Value) (hw : HW a0 Z) (ws : List Jvm.Cond) (a1 : Addr) (a2 : Addr) (a3 : Addr) (p4 : Int32) (kk n2 n3 : Nat) (g2 : Nat → Int64) (g3 : Nat → Int32) (e0' : Nat) (gX : Nat → Int32) (eL0 : Nat) (gE : Nat → Int32) (h0 : Heap) (n0 : Nat) (Z0 : n0 ≤ h0.size) (hkk : n0 ≤ kk) (hS : SA1 Z h0 kk a1 e0' gX eL0 gE) (A_2 : OwnA Z h0 a2 .long n2 (jv' g2)) (A_3 : OwnA Z h0 a3 .int n3 (iv' g3)) (hk_a2 : a2 < kk) (hk_a3 : a3 < kk) (hp4 : p4 = 0) (hn2 : 0 ≤ n2) (hn3 : 0 ≤ n3) (hsm : e0' ≤ 3) :
    MetFree l mn_5 (head1 (Jvm.Cond.code mn_5 prog_31_method_4_code 5 (some .int) :: ws) ({ frames := 4, cells := 4, slots := 328, locals := 76 } : Room)) (fun a U => a = #[(.ref a1), (.ref a2), (.ref a3), (.int p4)] ∧ Z.Warmed39 U.vm ∧ U.heap = h0) (fun _ _ _ _ _ => True) (fun _ U o U' => ∃ v L, o = .returned v ∧ Q5S0 Z a1 a2 a3 p4 kk n2 n3 g2 g3 e0' gX eL0 gE h0 n0 v U'.heap L ∧ FrameEnd U o U' L ({ frames := 4, cells := 4, slots := 328, locals := 76 } : Room).cells ({ frames := 4, cells := 4, slots := 328, locals := 76 } : Room).slots) := by
  refine MetFree.of_bodySF (plainFor_of_name pn_5) hisR ?_
  intro p e s m args below meth c s₁ Bd hml0 hP hK
  obtain ⟨rfl, hZ, hh⟩ := hP
  have hx := Bd.exec
  have hby := Bd.bytes
  have H := And.intro hx hby
  have hml : c.maxLocals = 5 := hml0
  have hown : s.vm.findClass "com/example/deft_nets/deftnets/MarkingStore" = some m.cls := findClass_of_methodNamed Bd.named
  have hnm := (name_of_methodNamed Bd.named Bd.method).1
  have X0 : Stand p l e ({ frames := 4, cells := 4, slots := 328, locals := 76 } : Room) s m #[(.ref a1), (.ref a2), (.ref a3), (.int p4)] below meth c s₁ [] 0 0 := Stand.of_body Bd
  have e0 : s₁.heap = h0 := by rw [← hh, Bd.state]; rfl
  have N0 := Fr.nil n0
  suffices hG : OwnG p e below s (Q5S0 Z a1 a2 a3 p4 kk n2 n3 g2 g3 e0' gX eL0 gE h0 n0) ({ frames := 4, cells := 4, slots := 328, locals := 76 } : Room).cells ({ frames := 4, cells := 4, slots := 328, locals := 76 } : Room).slots s₁ (mkF m 0 #[.val (.ref a1), .val (.ref a2), .val (.ref a3), .val (.int p4), .unset] []) by
    obtain ⟨s2, o2, g1, g2⟩ := hG
    exact ⟨s2, o2, castTop (ef_5 m a1 a2 a3 p4) g1, g2⟩
  obtain ⟨pool, psz, start, hash, table, enc, elen, next, size, bud, used, nE, nP, nS, nH, j0, t1, gP, gS, gH, hM, hB, A_p, A_s, A_h, A_t, A_e, hBy, hBP, hD, hG, heL, hle, hn, hps, hle0, hnP, hsz, hnS, hnS2, hnH, hnH2, ht1, hj0, hs0, hs1, hX, hu0, hu1⟩ := hS
  have ge_a1 : LeA (kk) (a1) := hG.1
  have ge_bud : LeA (kk) (bud) := hG.2.1
  have ge_pool : LeA (kk) (pool) := hG.2.2.1
  have ge_start : LeA (kk) (start) := hG.2.2.2.1
  have ge_hash : LeA (kk) (hash) := hG.2.2.2.2.1
  have ge_table : LeA (kk) (table) := hG.2.2.2.2.2.1
  have ge_enc : LeA (kk) (enc) := hG.2.2.2.2.2.2
  have gb_a1 : LeA (n0) (a1) := Nat.le_trans hkk ge_a1
  obtain ⟨EMS_51, FMS0_51, FMS1_51, FMS2_51, FMS3_51, FMS4_51, FMS5_51, FMS6_51, FMS7_51, FMS8_51, FMS9_51⟩ := hM
  obtain ⟨EBG_52, FBG0_52, FBG1_52⟩ := hB
  have hkz : kk ≤ h0.size := Nat.le_of_lt (Nat.lt_of_le_of_lt ge_a1 (Exa.lt EMS_51))
  have z0 : (0 : Int32).toInt = 0 := rfl
  have z0L : (0 : Int64).toInt = 0 := rfl
  have e1L : (1 : Int64).toInt = 1 := rfl
  have hp4' : p4.toInt = 0 := by rw [hp4]; rfl
  refine OwnG.st (y_aloadN X0 H d5_0 rfl) ?_
  refine OwnG.st (y_iloadN X0 H d5_1 rfl) ?_
  obtain ⟨cq53, qc53, qd53⟩ := EMS_51.cell
  refine OwnG.cm 5 1 28 X0 (X0.privateBack hx (y := mn_6) hown (mvT hZ (ww hw 54 rfl)) (mvT hZ (ww hw 55 rfl)) (mvT hZ (own_selP (y := mn_6) (y0 := mn_5) rfl (ww hw 52 rfl) (ww hw 55 rfl) (ww hw 56 rfl) (by decide))) (Cond.privateMethod_at (mvP hZ (ww hw 56 rfl) (args := #[]))) (mvT hZ (ww hw 57 rfl)) (by decide) (backOf (W := 0) (rm6 l Z a0 hw [] a1 p4 pool psz start hash table enc elen next size bud nE gE h0 n0 Z0 gb_a1 ⟨EMS_51, FMS0_51, FMS1_51, FMS2_51, FMS3_51, FMS4_51, FMS5_51, FMS6_51, FMS7_51, FMS8_51, FMS9_51⟩ A_e hD.2.2.2.2.2.2.2.2.2.2.2.2.2.2.2.1 hBy (by omega) hn) hZ (ww hw 57 rfl) (ww hw 10 rfl) (by decide) (by decide)) (g := mkF m 2 _ _) rfl (by rw [hml]; rfl) (Steps.refl _) (a := a1) (by rw [e0]; exact qc53) qd53 (argsL := [(.int p4)]) (rest := []) (lenOf pd_5S0_0 rfl) rfl (by show 2 * 0 + _ ≤ _; exact Nat.le_of_eq rfl) (hb hby d5_2) (fun _ _ => ⟨rfl, e0, (by decide : 0 + 1 ≤ _), (by decide : 0 + 28 ≤ _)⟩)) rfl rfl ?_
  intro T53 Lc53 vc53 X53 hQ53
  obtain ⟨x53, n53', g53', hv53, N53q, Kq53, M53q, Vq53, hBy53, sx53, hn53a, hn53b⟩ := hQ53
  have ne53_54 : NeA a1 x53 := Or.elim sx53 (fun q => by rw [q]; exact (Ne.symm hD.2.2.2.2.2.2.2.2.2.2.2.2.2.2.2.1)) (fun q => Nat.ne_of_lt (Nat.lt_of_lt_of_le (Exa.lt EMS_51) q))
  have ne53_55 : NeA bud x53 := Or.elim sx53 (fun q => by rw [q]; exact (Ne.symm hD.2.2.2.2.2.2.2.2.2.2.2.2.2.2.2.2.1)) (fun q => Nat.ne_of_lt (Nat.lt_of_lt_of_le (Exa.lt EBG_52) q))
  have ne53_56 : NeA pool x53 := Or.elim sx53 (fun q => by rw [q]; exact (Ne.symm hD.2.2.2.2.2.2.2.2.2.2.2.2.2.2.2.2.2.1)) (fun q => Nat.ne_of_lt (Nat.lt_of_lt_of_le A_p.lt q))
  have ne53_57 : NeA start x53 := Or.elim sx53 (fun q => by rw [q]; exact (Ne.symm hD.2.2.2.2.2.2.2.2.2.2.2.2.2.2.2.2.2.2.1)) (fun q => Nat.ne_of_lt (Nat.lt_of_lt_of_le A_s.lt q))
  have ne53_58 : NeA hash x53 := Or.elim sx53 (fun q => by rw [q]; exact (Ne.symm hD.2.2.2.2.2.2.2.2.2.2.2.2.2.2.2.2.2.2.2.1)) (fun q => Nat.ne_of_lt (Nat.lt_of_lt_of_le A_h.lt q))
  have ne53_59 : NeA table x53 := Or.elim sx53 (fun q => by rw [q]; exact (Ne.symm hD.2.2.2.2.2.2.2.2.2.2.2.2.2.2.2.2.2.2.2.2)) (fun q => Nat.ne_of_lt (Nat.lt_of_lt_of_le A_t.lt q))
  have ge_x53 : LeA (kk) (x53) := Or.elim sx53 (fun q => by rw [q]; exact ge_enc) (fun q => Nat.le_trans hkz (Nat.le_trans (Keep.refl h0 [a1, bud, pool, start, hash, table, enc]).1 q))
  have Z53 : LeA (n0) (T53.heap.size) := Nat.le_trans Z0 Kq53.1
  have f63 := Exa.keep EBG_52 Kq53
  have f64 := Fld.keep FBG0_52 Kq53 (ninS hD.1 nin0)
  have f65 := Fld.keep FBG1_52 Kq53 (ninS hD.1 nin0)
  have f66 := A_p.keep Kq53 (ninS hD.2.1 nin0)
  have f67 := A_s.keep Kq53 (ninS hD.2.2.2.1 nin0)
  have f68 := A_h.keep Kq53 (ninS hD.2.2.2.2.2.2.1 nin0)
  have f69 := A_t.keep Kq53 (ninS hD.2.2.2.2.2.2.2.2.2.2.1 nin0)
  have K53 : Keep h0 T53.heap [a1, bud, pool, start, hash, table, enc] := (Keep.refl h0 [a1, bud, pool, start, hash, table, enc]).trans Kq53 (own_trS (P := fun x => x ∈ [a1, bud, pool, start, hash, table, enc] ∨ h0.size ≤ x) (Or.inl (by simp)) own_tr0)
  obtain ⟨EMS_73, FMS0_73, FMS1_73, FMS2_73, FMS3_73, FMS4_73, FMS5_73, FMS6_73, FMS7_73, FMS8_73, FMS9_73⟩ := M53q
  have N53 := Fr.app N0 N53q
  refine OwnG.cn hv53 ?_
  clear hv53
  have hc11_74 : ¬ ((0 : Int32) < p4) := by rw [hp4]; decide
  refine OwnG.st (y_iconst X53 H (0) d5_5 rfl) ?_
  refine OwnG.st (y_istore X53 H #[.val (.ref a1), .val (.ref a2), .val (.ref a3), .val (.int p4), .val (.int (0 : Int32))] d5_6 rfl) ?_
  refine OwnG.st (y_iload X53 H d5_8 rfl) ?_
  refine OwnG.st (y_iloadN X53 H d5_10 rfl) ?_
  refine OwnG.st (y_icY X53 H 32 d5_11 (flt hc11_74).2.1 (by decide) (by decide)) ?_
  refine OwnG.st (y_aloadN X53 H d5_32 rfl) ?_
  obtain ⟨cq75, qc75, qd75⟩ := EMS_73.cell
  refine OwnG.cm 36 4 328 X53 (X53.privateBack hx (y := mn_7) hown (mvT hZ (ww hw 63 rfl)) (mvT hZ (ww hw 64 rfl)) (mvT hZ (own_selP (y := mn_7) (y0 := mn_5) rfl (ww hw 52 rfl) (ww hw 64 rfl) (ww hw 65 rfl) (by decide))) (Cond.privateMethod_at (mvP hZ (ww hw 65 rfl) (args := #[]))) (mvT hZ (ww hw 66 rfl)) (by decide) (backOf (W := 0) (rm7B l Z a0 hw [] a1 kk e0' gX 0 g53' T53.heap n0 Z53 hkk ⟨pool, psz, start, hash, table, x53, (0 : Int32), (0 : Int64), size, bud, used, _, nP, nS, nH, j0, t1, gP, gS, gH, ⟨EMS_73, FMS0_73, FMS1_73, FMS2_73, FMS3_73, FMS4_73, FMS5_73, FMS6_73, FMS7_73, FMS8_73, FMS9_73⟩, ⟨f63, f64, f65⟩, f66, f67, f68, f69, Vq53, hBy53, hBP, ⟨hD.1, hD.2.1, hD.2.2.1, hD.2.2.2.1, hD.2.2.2.2.1, hD.2.2.2.2.2.1, hD.2.2.2.2.2.2.1, hD.2.2.2.2.2.2.2.1, hD.2.2.2.2.2.2.2.2.1, hD.2.2.2.2.2.2.2.2.2.1, hD.2.2.2.2.2.2.2.2.2.2.1, hD.2.2.2.2.2.2.2.2.2.2.2.1, hD.2.2.2.2.2.2.2.2.2.2.2.2.1, hD.2.2.2.2.2.2.2.2.2.2.2.2.2.1, hD.2.2.2.2.2.2.2.2.2.2.2.2.2.2.1, (Ne.symm ne53_54), (Ne.symm ne53_55), (Ne.symm ne53_56), (Ne.symm ne53_57), (Ne.symm ne53_58), (Ne.symm ne53_59)⟩, ⟨ge_a1, ge_bud, ge_pool, ge_start, ge_hash, ge_table, ge_x53⟩, (by rfl), (by omega), (by omega), hps, hle0, hnP, hsz, hnS, hnS2, hnH, hnH2, ht1, hj0, hs0, hs1, hX, hu0, hu1⟩ (by omega) (by omega)) hZ (ww hw 66 rfl) (ww hw 10 rfl) (by decide) (by decide)) (g := mkF m 33 _ _) rfl (by rw [hml]; rfl) (Steps.refl _) (a := a1) qc75 qd75 (argsL := []) (rest := []) (lenOf pd_5S0_1 rfl) rfl (by show 2 * 0 + _ ≤ _; exact Nat.le_of_eq rfl) (hb hby d5_33) (fun _ _ => ⟨rfl, rfl, (by decide : 1 + 3 ≤ _), (by decide : 28 + 300 ≤ _)⟩)) rfl rfl ?_
  intro T75 Lc75 vc75 X75 hQ75
  obtain ⟨m75, hv75, N75q, KB75, hSx, hSy⟩ := hQ75
  have N75 := Fr.app N53 N75q
  refine OwnG.cv hv75 ?_
  clear hv75
  have hEs : Ents g53' 0 0 [] := rfl
  exact OwnG.retI X75 hx Bd.returns (BodyLoose.notSynchronized Bd) (hb hby d5_36) ⟨_, 0, g53', rfl, N75, (own_kb K53 (own_trS (P := fun x => kk ≤ x) ge_a1 (own_trS ge_bud (own_trS ge_pool (own_trS ge_start (own_trS ge_hash (own_trS ge_table (own_trS ge_enc own_tr0)))))))).trans KB75, hEs, hSx, hSy⟩ (by decide) (by decide)
theorem pd_5S1_0 : parseMethodDescriptor "(I)V" = some ⟨[.int], none⟩ := by decide +kernel
theorem pd_5S1_1 : parseMethodDescriptor "(JI)V" = some ⟨[.long, .int], none⟩ := by decide +kernel
theorem pd_5S1_2 : parseMethodDescriptor "()I" = some ⟨[], some .int⟩ := by decide +kernel
def Q5S1 (Z : State) (a1 : Addr) (a2 : Addr) (a3 : Addr) (p4 : Int32) (kk n2 n3 : Nat) (g2 : Nat → Int64) (g3 : Nat → Int32) (e0' : Nat) (gX : Nat → Int32) (eL0 : Nat) (gE : Nat → Int32) (h0 : Heap) (n0 : Nat) (v : Option Value) (h : Heap) (L : List Loc) : Prop := ∃ (m : Int32) (e' : Nat) (g' : Nat → Int32), v = some (.int m) ∧ Fr n0 L ∧ KeepB h0 h kk ∧ Ents g' 0 e' [(own_V (g2 0 - 0) (g3 0), g3 0)] ∧ SD Z h h.size a1 m e' g' ∧ SD Z h h.size a1 0 e0' gX
set_option maxRecDepth 65536 in
set_option maxHeartbeats 40000000 in
theorem rm5S1 (l : Launch) (Z : State) (a0 : Array Value) (hw : HW a0 Z) (ws : List Jvm.Cond) (a1 : Addr) (a2 : Addr) (a3 : Addr) (p4 : Int32) (kk n2 n3 : Nat) (g2 : Nat → Int64) (g3 : Nat → Int32) (e0' : Nat) (gX : Nat → Int32) (eL0 : Nat) (gE : Nat → Int32) (h0 : Heap) (n0 : Nat) (Z0 : n0 ≤ h0.size) (hkk : n0 ≤ kk) (hS : SA1 Z h0 kk a1 e0' gX eL0 gE) (A_2 : OwnA Z h0 a2 .long n2 (jv' g2)) (A_3 : OwnA Z h0 a3 .int n3 (iv' g3)) (hk_a2 : a2 < kk) (hk_a3 : a3 < kk) (hp4 : p4 = 1) (hn2 : 1 ≤ n2) (hn3 : 1 ≤ n3) (hv0 : 0 ≤ (g2 0).toInt ∧ (g2 0).toInt < 4611686018427387904) (hc0 : 1 ≤ (g3 0).toInt) (hsm : e0' ≤ 3 ∨ ((g2 0).toInt ≤ 255 ∧ (g3 0).toInt ≤ 4)) :
    MetFree l mn_5 (head1 (Jvm.Cond.code mn_5 prog_31_method_4_code 5 (some .int) :: ws) ({ frames := 4, cells := 4, slots := 328, locals := 76 } : Room)) (fun a U => a = #[(.ref a1), (.ref a2), (.ref a3), (.int p4)] ∧ Z.Warmed39 U.vm ∧ U.heap = h0) (fun _ _ _ _ _ => True) (fun _ U o U' => ∃ v L, o = .returned v ∧ Q5S1 Z a1 a2 a3 p4 kk n2 n3 g2 g3 e0' gX eL0 gE h0 n0 v U'.heap L ∧ FrameEnd U o U' L ({ frames := 4, cells := 4, slots := 328, locals := 76 } : Room).cells ({ frames := 4, cells := 4, slots := 328, locals := 76 } : Room).slots) := by
  refine MetFree.of_bodySF (plainFor_of_name pn_5) hisR ?_
  intro p e s m args below meth c s₁ Bd hml0 hP hK
  obtain ⟨rfl, hZ, hh⟩ := hP
  have hx := Bd.exec
  have hby := Bd.bytes
  have H := And.intro hx hby
  have hml : c.maxLocals = 5 := hml0
  have hown : s.vm.findClass "com/example/deft_nets/deftnets/MarkingStore" = some m.cls := findClass_of_methodNamed Bd.named
  have hnm := (name_of_methodNamed Bd.named Bd.method).1
  have X0 : Stand p l e ({ frames := 4, cells := 4, slots := 328, locals := 76 } : Room) s m #[(.ref a1), (.ref a2), (.ref a3), (.int p4)] below meth c s₁ [] 0 0 := Stand.of_body Bd
  have e0 : s₁.heap = h0 := by rw [← hh, Bd.state]; rfl
  have N0 := Fr.nil n0
  suffices hG : OwnG p e below s (Q5S1 Z a1 a2 a3 p4 kk n2 n3 g2 g3 e0' gX eL0 gE h0 n0) ({ frames := 4, cells := 4, slots := 328, locals := 76 } : Room).cells ({ frames := 4, cells := 4, slots := 328, locals := 76 } : Room).slots s₁ (mkF m 0 #[.val (.ref a1), .val (.ref a2), .val (.ref a3), .val (.int p4), .unset] []) by
    obtain ⟨s2, o2, g1, g2⟩ := hG
    exact ⟨s2, o2, castTop (ef_5 m a1 a2 a3 p4) g1, g2⟩
  obtain ⟨pool, psz, start, hash, table, enc, elen, next, size, bud, used, nE, nP, nS, nH, j0, t1, gP, gS, gH, hM, hB, A_p, A_s, A_h, A_t, A_e, hBy, hBP, hD, hG, heL, hle, hn, hps, hle0, hnP, hsz, hnS, hnS2, hnH, hnH2, ht1, hj0, hs0, hs1, hX, hu0, hu1⟩ := hS
  have ge_a1 : LeA (kk) (a1) := hG.1
  have ge_bud : LeA (kk) (bud) := hG.2.1
  have ge_pool : LeA (kk) (pool) := hG.2.2.1
  have ge_start : LeA (kk) (start) := hG.2.2.2.1
  have ge_hash : LeA (kk) (hash) := hG.2.2.2.2.1
  have ge_table : LeA (kk) (table) := hG.2.2.2.2.2.1
  have ge_enc : LeA (kk) (enc) := hG.2.2.2.2.2.2
  have gb_a1 : LeA (n0) (a1) := Nat.le_trans hkk ge_a1
  have gb_enc : LeA (n0) (enc) := Nat.le_trans hkk ge_enc
  obtain ⟨EMS_51, FMS0_51, FMS1_51, FMS2_51, FMS3_51, FMS4_51, FMS5_51, FMS6_51, FMS7_51, FMS8_51, FMS9_51⟩ := hM
  obtain ⟨EBG_52, FBG0_52, FBG1_52⟩ := hB
  have hkz : kk ≤ h0.size := Nat.le_of_lt (Nat.lt_of_le_of_lt ge_a1 (Exa.lt EMS_51))
  have z0 : (0 : Int32).toInt = 0 := rfl
  have z0L : (0 : Int64).toInt = 0 := rfl
  have e1L : (1 : Int64).toInt = 1 := rfl
  have hp4' : p4.toInt = 1 := by rw [hp4]; rfl
  have hx0 := x_ladd (g2 0) 1 (by omega)
  refine OwnG.st (y_aloadN X0 H d5_0 rfl) ?_
  refine OwnG.st (y_iloadN X0 H d5_1 rfl) ?_
  obtain ⟨cq53, qc53, qd53⟩ := EMS_51.cell
  refine OwnG.cm 5 1 28 X0 (X0.privateBack hx (y := mn_6) hown (mvT hZ (ww hw 54 rfl)) (mvT hZ (ww hw 55 rfl)) (mvT hZ (own_selP (y := mn_6) (y0 := mn_5) rfl (ww hw 52 rfl) (ww hw 55 rfl) (ww hw 56 rfl) (by decide))) (Cond.privateMethod_at (mvP hZ (ww hw 56 rfl) (args := #[]))) (mvT hZ (ww hw 57 rfl)) (by decide) (backOf (W := 0) (rm6 l Z a0 hw [] a1 p4 pool psz start hash table enc elen next size bud nE gE h0 n0 Z0 gb_a1 ⟨EMS_51, FMS0_51, FMS1_51, FMS2_51, FMS3_51, FMS4_51, FMS5_51, FMS6_51, FMS7_51, FMS8_51, FMS9_51⟩ A_e hD.2.2.2.2.2.2.2.2.2.2.2.2.2.2.2.1 hBy (by omega) hn) hZ (ww hw 57 rfl) (ww hw 10 rfl) (by decide) (by decide)) (g := mkF m 2 _ _) rfl (by rw [hml]; rfl) (Steps.refl _) (a := a1) (by rw [e0]; exact qc53) qd53 (argsL := [(.int p4)]) (rest := []) (lenOf pd_5S1_0 rfl) rfl (by show 2 * 0 + _ ≤ _; exact Nat.le_of_eq rfl) (hb hby d5_2) (fun _ _ => ⟨rfl, e0, (by decide : 0 + 1 ≤ _), (by decide : 0 + 28 ≤ _)⟩)) rfl rfl ?_
  intro T53 Lc53 vc53 X53 hQ53
  obtain ⟨x53, n53', g53', hv53, N53q, Kq53, M53q, Vq53, hBy53, sx53, hn53a, hn53b⟩ := hQ53
  have ne53_54 : NeA a1 x53 := Or.elim sx53 (fun q => by rw [q]; exact (Ne.symm hD.2.2.2.2.2.2.2.2.2.2.2.2.2.2.2.1)) (fun q => Nat.ne_of_lt (Nat.lt_of_lt_of_le (Exa.lt EMS_51) q))
  have ne53_55 : NeA bud x53 := Or.elim sx53 (fun q => by rw [q]; exact (Ne.symm hD.2.2.2.2.2.2.2.2.2.2.2.2.2.2.2.2.1)) (fun q => Nat.ne_of_lt (Nat.lt_of_lt_of_le (Exa.lt EBG_52) q))
  have ne53_56 : NeA pool x53 := Or.elim sx53 (fun q => by rw [q]; exact (Ne.symm hD.2.2.2.2.2.2.2.2.2.2.2.2.2.2.2.2.2.1)) (fun q => Nat.ne_of_lt (Nat.lt_of_lt_of_le A_p.lt q))
  have ne53_57 : NeA start x53 := Or.elim sx53 (fun q => by rw [q]; exact (Ne.symm hD.2.2.2.2.2.2.2.2.2.2.2.2.2.2.2.2.2.2.1)) (fun q => Nat.ne_of_lt (Nat.lt_of_lt_of_le A_s.lt q))
  have ne53_58 : NeA hash x53 := Or.elim sx53 (fun q => by rw [q]; exact (Ne.symm hD.2.2.2.2.2.2.2.2.2.2.2.2.2.2.2.2.2.2.2.1)) (fun q => Nat.ne_of_lt (Nat.lt_of_lt_of_le A_h.lt q))
  have ne53_59 : NeA table x53 := Or.elim sx53 (fun q => by rw [q]; exact (Ne.symm hD.2.2.2.2.2.2.2.2.2.2.2.2.2.2.2.2.2.2.2.2)) (fun q => Nat.ne_of_lt (Nat.lt_of_lt_of_le A_t.lt q))
  have inw_x53 : x53 ∈ [a1, bud, pool, start, hash, table, enc] ∨ h0.size ≤ x53 := Or.elim sx53 (fun q => by rw [q]; exact Or.inl (by simp)) (fun q => Or.inr (Nat.le_trans (Keep.refl h0 [a1, bud, pool, start, hash, table, enc]).1 q))
  have ge_x53 : LeA (kk) (x53) := Or.elim sx53 (fun q => by rw [q]; exact ge_enc) (fun q => Nat.le_trans hkz (Nat.le_trans (Keep.refl h0 [a1, bud, pool, start, hash, table, enc]).1 q))
  have gb_x53 : LeA (n0) (x53) := Or.elim sx53 (fun q => by rw [q]; exact gb_enc) (fun q => Nat.le_trans Z0 q)
  have Z53 : LeA (n0) (T53.heap.size) := Nat.le_trans Z0 Kq53.1
  have f63 := Exa.keep EBG_52 Kq53
  have f64 := Fld.keep FBG0_52 Kq53 (ninS hD.1 nin0)
  have f65 := Fld.keep FBG1_52 Kq53 (ninS hD.1 nin0)
  have f66 := A_p.keep Kq53 (ninS hD.2.1 nin0)
  have f67 := A_s.keep Kq53 (ninS hD.2.2.2.1 nin0)
  have f68 := A_h.keep Kq53 (ninS hD.2.2.2.2.2.2.1 nin0)
  have f69 := A_t.keep Kq53 (ninS hD.2.2.2.2.2.2.2.2.2.2.1 nin0)
  have f71 := A_2.keep Kq53 (ninS (Ne.symm (Nat.ne_of_gt (Nat.lt_of_lt_of_le hk_a2 ge_a1))) nin0)
  have f72 := A_3.keep Kq53 (ninS (Ne.symm (Nat.ne_of_gt (Nat.lt_of_lt_of_le hk_a3 ge_a1))) nin0)
  have K53 : Keep h0 T53.heap [a1, bud, pool, start, hash, table, enc] := (Keep.refl h0 [a1, bud, pool, start, hash, table, enc]).trans Kq53 (own_trS (P := fun x => x ∈ [a1, bud, pool, start, hash, table, enc] ∨ h0.size ≤ x) (Or.inl (by simp)) own_tr0)
  obtain ⟨EMS_73, FMS0_73, FMS1_73, FMS2_73, FMS3_73, FMS4_73, FMS5_73, FMS6_73, FMS7_73, FMS8_73, FMS9_73⟩ := M53q
  have N53 := Fr.app N0 N53q
  refine OwnG.cn hv53 ?_
  clear hv53
  have hc11_74 : (0 : Int32) < p4 := by rw [hp4]; decide
  refine OwnG.st (y_iconst X53 H (0) d5_5 rfl) ?_
  refine OwnG.st (y_istore X53 H #[.val (.ref a1), .val (.ref a2), .val (.ref a3), .val (.int p4), .val (.int (0 : Int32))] d5_6 rfl) ?_
  refine OwnG.st (y_iload X53 H d5_8 rfl) ?_
  refine OwnG.st (y_iloadN X53 H d5_10 rfl) ?_
  refine OwnG.st (y_icN X53 H d5_11 (tlt hc11_74).2.1) ?_
  refine OwnG.st (y_aloadN X53 H d5_14 rfl) ?_
  refine OwnG.st (y_aloadN X53 H d5_15 rfl) ?_
  refine OwnG.st (y_iload X53 H d5_16 rfl) ?_
  refine OwnG.st (y_ldJ f71 X53 H hZ rfl (by decide) (by show (0 : Int) < _; omega) d5_18 (g2 0) rfl) ?_
  refine OwnG.st (y_aloadN X53 H d5_19 rfl) ?_
  refine OwnG.st (y_iload X53 H d5_20 rfl) ?_
  refine OwnG.st (y_ldI f72 X53 H hZ rfl (by decide) (by show (0 : Int) < _; omega) d5_22 (g3 0) rfl) ?_
  obtain ⟨cq75, qc75, qd75⟩ := EMS_73.cell
  refine OwnG.cm 26 1 28 X53 (X53.privateBack hx (y := mn_19) hown (mvT hZ (ww hw 130 rfl)) (mvT hZ (ww hw 131 rfl)) (mvT hZ (own_selP (y := mn_19) (y0 := mn_5) rfl (ww hw 52 rfl) (ww hw 131 rfl) (ww hw 132 rfl) (by decide))) (Cond.privateMethod_at (mvP hZ (ww hw 132 rfl) (args := #[]))) (mvT hZ (ww hw 133 rfl)) (by decide) (backOf (W := 0) (rm19 l Z a0 hw [] a1 (g2 0) (g3 0) pool psz start hash table x53 (0 : Int32) (0 : Int64) size bud n53' g53' T53.heap n0 Z53 gb_a1 gb_x53 ⟨EMS_73, FMS0_73, FMS1_73, FMS2_73, FMS3_73, FMS4_73, FMS5_73, FMS6_73, FMS7_73, FMS8_73, FMS9_73⟩ Vq53 (Ne.symm ne53_54) hBy53 (by omega) (by omega) (by omega) (by omega)) hZ (ww hw 133 rfl) (ww hw 10 rfl) (by decide) (by decide)) (g := mkF m 23 _ _) rfl (by rw [hml]; rfl) (Steps.refl _) (a := a1) qc75 qd75 (argsL := [(.long (g2 0)), (.int (g3 0))]) (rest := []) (lenOf pd_5S1_1 rfl) rfl (by show 2 * 0 + _ ≤ _; exact Nat.le_of_eq rfl) (hb hby d5_23) (fun _ _ => ⟨rfl, rfl, (by decide : 1 + 0 ≤ _), (by decide : 28 + 0 ≤ _)⟩)) rfl rfl ?_
  intro T75 Lc75 vc75 X75 hQ75
  obtain ⟨g75', e75', hv75, N75q, Kq75, M75q, Vq75, hBy75, hg75, hE75, he75a, he75b, hs75⟩ := hQ75
  have Z75 : LeA (n0) (T75.heap.size) := Nat.le_trans Z53 Kq75.1
  have f77 := Exa.keep f63 Kq75
  have f78 := Fld.keep f64 Kq75 (ninS hD.1 (ninS ne53_55 nin0))
  have f79 := Fld.keep f65 Kq75 (ninS hD.1 (ninS ne53_55 nin0))
  have f80 := f66.keep Kq75 (ninS hD.2.1 (ninS ne53_56 nin0))
  have f81 := f67.keep Kq75 (ninS hD.2.2.2.1 (ninS ne53_57 nin0))
  have f82 := f68.keep Kq75 (ninS hD.2.2.2.2.2.2.1 (ninS ne53_58 nin0))
  have f83 := f69.keep Kq75 (ninS hD.2.2.2.2.2.2.2.2.2.2.1 (ninS ne53_59 nin0))
  have K75 : Keep h0 T75.heap [a1, bud, pool, start, hash, table, enc] := K53.trans Kq75 (own_trS (P := fun x => x ∈ [a1, bud, pool, start, hash, table, enc] ∨ h0.size ≤ x) (Or.inl (by simp)) (own_trS (P := fun x => x ∈ [a1, bud, pool, start, hash, table, enc] ∨ h0.size ≤ x) (inw_x53) own_tr0))
  obtain ⟨EMS_86, FMS0_86, FMS1_86, FMS2_86, FMS3_86, FMS4_86, FMS5_86, FMS6_86, FMS7_86, FMS8_86, FMS9_86⟩ := M75q
  have N75 := Fr.app N53 N75q
  refine OwnG.cn hv75 ?_
  clear hv75
  have hc11_87 : ¬ ((1 : Int32) < p4) := by rw [hp4]; decide
  refine OwnG.st (y_iinc X75 H #[.val (.ref a1), .val (.ref a2), .val (.ref a3), .val (.int p4), .val (.int (1 : Int32))] d5_26 rfl rfl) ?_
  refine OwnG.st (y_goto X75 H 8 d5_29 (by decide) (by decide)) ?_
  refine OwnG.st (y_iload X75 H d5_8 rfl) ?_
  refine OwnG.st (y_iloadN X75 H d5_10 rfl) ?_
  refine OwnG.st (y_icY X75 H 32 d5_11 (flt hc11_87).2.1 (by decide) (by decide)) ?_
  refine OwnG.st (y_aloadN X75 H d5_32 rfl) ?_
  obtain ⟨cq88, qc88, qd88⟩ := EMS_86.cell
  refine OwnG.cm 36 4 328 X75 (X75.privateBack hx (y := mn_7) hown (mvT hZ (ww hw 63 rfl)) (mvT hZ (ww hw 64 rfl)) (mvT hZ (own_selP (y := mn_7) (y0 := mn_5) rfl (ww hw 52 rfl) (ww hw 64 rfl) (ww hw 65 rfl) (by decide))) (Cond.privateMethod_at (mvP hZ (ww hw 65 rfl) (args := #[]))) (mvT hZ (ww hw 66 rfl)) (by decide) (backOf (W := 0) (rm7B l Z a0 hw [] a1 kk e0' gX e75'.toInt.toNat g75' T75.heap n0 Z75 hkk ⟨pool, psz, start, hash, table, x53, e75', ((g2 0) + (1 : Int64)), size, bud, used, _, nP, nS, nH, j0, t1, gP, gS, gH, ⟨EMS_86, FMS0_86, FMS1_86, FMS2_86, FMS3_86, FMS4_86, FMS5_86, FMS6_86, FMS7_86, FMS8_86, FMS9_86⟩, ⟨f77, f78, f79⟩, f80, f81, f82, f83, Vq75, hBy75, hBP, ⟨hD.1, hD.2.1, hD.2.2.1, hD.2.2.2.1, hD.2.2.2.2.1, hD.2.2.2.2.2.1, hD.2.2.2.2.2.2.1, hD.2.2.2.2.2.2.2.1, hD.2.2.2.2.2.2.2.2.1, hD.2.2.2.2.2.2.2.2.2.1, hD.2.2.2.2.2.2.2.2.2.2.1, hD.2.2.2.2.2.2.2.2.2.2.2.1, hD.2.2.2.2.2.2.2.2.2.2.2.2.1, hD.2.2.2.2.2.2.2.2.2.2.2.2.2.1, hD.2.2.2.2.2.2.2.2.2.2.2.2.2.2.1, (Ne.symm ne53_54), (Ne.symm ne53_55), (Ne.symm ne53_56), (Ne.symm ne53_57), (Ne.symm ne53_58), (Ne.symm ne53_59)⟩, ⟨ge_a1, ge_bud, ge_pool, ge_start, ge_hash, ge_table, ge_x53⟩, (by omega), (by omega), (by omega), hps, hle0, hnP, hsz, hnS, hnS2, hnH, hnH2, ht1, hj0, hs0, hs1, hX, hu0, hu1⟩ (by omega) (by omega)) hZ (ww hw 66 rfl) (ww hw 10 rfl) (by decide) (by decide)) (g := mkF m 33 _ _) rfl (by rw [hml]; rfl) (Steps.refl _) (a := a1) qc88 qd88 (argsL := []) (rest := []) (lenOf pd_5S1_2 rfl) rfl (by show 2 * 0 + _ ≤ _; exact Nat.le_of_eq rfl) (hb hby d5_33) (fun _ _ => ⟨rfl, rfl, (by decide : 1 + 3 ≤ _), (by decide : 28 + 300 ≤ _)⟩)) rfl rfl ?_
  intro T88 Lc88 vc88 X88 hQ88
  obtain ⟨m88, hv88, N88q, KB88, hSx, hSy⟩ := hQ88
  have N88 := Fr.app N75 N88q
  refine OwnG.cv hv88 ?_
  clear hv88
  have hEs : Ents g75' 0 e75'.toInt.toNat [(own_V (g2 0 - 0) (g3 0), g3 0)] := ⟨_, hE75, rfl⟩
  have hs75' : (g2 0).toInt ≤ 255 → (g3 0).toInt ≤ 4 → e75'.toInt.toNat ≤ 3 := fun a c => by have q := hs75 (by omega) c; omega
  exact OwnG.retI X88 hx Bd.returns (BodyLoose.notSynchronized Bd) (hb hby d5_36) ⟨_, e75'.toInt.toNat, g75', rfl, N88, (own_kb K75 (own_trS (P := fun x => kk ≤ x) ge_a1 (own_trS ge_bud (own_trS ge_pool (own_trS ge_start (own_trS ge_hash (own_trS ge_table (own_trS ge_enc own_tr0)))))))).trans KB88, hEs, hSx, hSy⟩ (by decide) (by decide)
theorem pd_5S2_0 : parseMethodDescriptor "(I)V" = some ⟨[.int], none⟩ := by decide +kernel
theorem pd_5S2_1 : parseMethodDescriptor "(JI)V" = some ⟨[.long, .int], none⟩ := by decide +kernel
theorem pd_5S2_2 : parseMethodDescriptor "()I" = some ⟨[], some .int⟩ := by decide +kernel
def Q5S2 (Z : State) (a1 : Addr) (a2 : Addr) (a3 : Addr) (p4 : Int32) (kk n2 n3 : Nat) (g2 : Nat → Int64) (g3 : Nat → Int32) (e0' : Nat) (gX : Nat → Int32) (eL0 : Nat) (gE : Nat → Int32) (h0 : Heap) (n0 : Nat) (v : Option Value) (h : Heap) (L : List Loc) : Prop := ∃ (m : Int32) (e' : Nat) (g' : Nat → Int32), v = some (.int m) ∧ Fr n0 L ∧ KeepB h0 h kk ∧ Ents g' 0 e' [(own_V (g2 0 - 0) (g3 0), g3 0), (own_V (g2 1 - (g2 0 + 1)) (g3 1), g3 1)] ∧ SD Z h h.size a1 m e' g' ∧ SD Z h h.size a1 0 e0' gX
set_option maxRecDepth 65536 in
set_option maxHeartbeats 40000000 in
theorem rm5S2 (l : Launch) (Z : State) (a0 : Array Value) (hw : HW a0 Z) (ws : List Jvm.Cond) (a1 : Addr) (a2 : Addr) (a3 : Addr) (p4 : Int32) (kk n2 n3 : Nat) (g2 : Nat → Int64) (g3 : Nat → Int32) (e0' : Nat) (gX : Nat → Int32) (eL0 : Nat) (gE : Nat → Int32) (h0 : Heap) (n0 : Nat) (Z0 : n0 ≤ h0.size) (hkk : n0 ≤ kk) (hS : SA1 Z h0 kk a1 e0' gX eL0 gE) (A_2 : OwnA Z h0 a2 .long n2 (jv' g2)) (A_3 : OwnA Z h0 a3 .int n3 (iv' g3)) (hk_a2 : a2 < kk) (hk_a3 : a3 < kk) (hp4 : p4 = 2) (hn2 : 2 ≤ n2) (hn3 : 2 ≤ n3) (hv0 : 0 ≤ (g2 0).toInt ∧ (g2 0).toInt < 4611686018427387904) (hc0 : 1 ≤ (g3 0).toInt) (hv1 : 0 ≤ (g2 1).toInt ∧ (g2 1).toInt < 4611686018427387904) (hc1 : 1 ≤ (g3 1).toInt) (hlt : (g2 0).toInt < (g2 1).toInt) (hsm : e0' ≤ 3) :
    MetFree l mn_5 (head1 (Jvm.Cond.code mn_5 prog_31_method_4_code 5 (some .int) :: ws) ({ frames := 4, cells := 4, slots := 328, locals := 76 } : Room)) (fun a U => a = #[(.ref a1), (.ref a2), (.ref a3), (.int p4)] ∧ Z.Warmed39 U.vm ∧ U.heap = h0) (fun _ _ _ _ _ => True) (fun _ U o U' => ∃ v L, o = .returned v ∧ Q5S2 Z a1 a2 a3 p4 kk n2 n3 g2 g3 e0' gX eL0 gE h0 n0 v U'.heap L ∧ FrameEnd U o U' L ({ frames := 4, cells := 4, slots := 328, locals := 76 } : Room).cells ({ frames := 4, cells := 4, slots := 328, locals := 76 } : Room).slots) := by
  refine MetFree.of_bodySF (plainFor_of_name pn_5) hisR ?_
  intro p e s m args below meth c s₁ Bd hml0 hP hK
  obtain ⟨rfl, hZ, hh⟩ := hP
  have hx := Bd.exec
  have hby := Bd.bytes
  have H := And.intro hx hby
  have hml : c.maxLocals = 5 := hml0
  have hown : s.vm.findClass "com/example/deft_nets/deftnets/MarkingStore" = some m.cls := findClass_of_methodNamed Bd.named
  have hnm := (name_of_methodNamed Bd.named Bd.method).1
  have X0 : Stand p l e ({ frames := 4, cells := 4, slots := 328, locals := 76 } : Room) s m #[(.ref a1), (.ref a2), (.ref a3), (.int p4)] below meth c s₁ [] 0 0 := Stand.of_body Bd
  have e0 : s₁.heap = h0 := by rw [← hh, Bd.state]; rfl
  have N0 := Fr.nil n0
  suffices hG : OwnG p e below s (Q5S2 Z a1 a2 a3 p4 kk n2 n3 g2 g3 e0' gX eL0 gE h0 n0) ({ frames := 4, cells := 4, slots := 328, locals := 76 } : Room).cells ({ frames := 4, cells := 4, slots := 328, locals := 76 } : Room).slots s₁ (mkF m 0 #[.val (.ref a1), .val (.ref a2), .val (.ref a3), .val (.int p4), .unset] []) by
    obtain ⟨s2, o2, g1, g2⟩ := hG
    exact ⟨s2, o2, castTop (ef_5 m a1 a2 a3 p4) g1, g2⟩
  obtain ⟨pool, psz, start, hash, table, enc, elen, next, size, bud, used, nE, nP, nS, nH, j0, t1, gP, gS, gH, hM, hB, A_p, A_s, A_h, A_t, A_e, hBy, hBP, hD, hG, heL, hle, hn, hps, hle0, hnP, hsz, hnS, hnS2, hnH, hnH2, ht1, hj0, hs0, hs1, hX, hu0, hu1⟩ := hS
  have ge_a1 : LeA (kk) (a1) := hG.1
  have ge_bud : LeA (kk) (bud) := hG.2.1
  have ge_pool : LeA (kk) (pool) := hG.2.2.1
  have ge_start : LeA (kk) (start) := hG.2.2.2.1
  have ge_hash : LeA (kk) (hash) := hG.2.2.2.2.1
  have ge_table : LeA (kk) (table) := hG.2.2.2.2.2.1
  have ge_enc : LeA (kk) (enc) := hG.2.2.2.2.2.2
  have gb_a1 : LeA (n0) (a1) := Nat.le_trans hkk ge_a1
  have gb_enc : LeA (n0) (enc) := Nat.le_trans hkk ge_enc
  obtain ⟨EMS_51, FMS0_51, FMS1_51, FMS2_51, FMS3_51, FMS4_51, FMS5_51, FMS6_51, FMS7_51, FMS8_51, FMS9_51⟩ := hM
  obtain ⟨EBG_52, FBG0_52, FBG1_52⟩ := hB
  have hkz : kk ≤ h0.size := Nat.le_of_lt (Nat.lt_of_le_of_lt ge_a1 (Exa.lt EMS_51))
  have z0 : (0 : Int32).toInt = 0 := rfl
  have z0L : (0 : Int64).toInt = 0 := rfl
  have e1L : (1 : Int64).toInt = 1 := rfl
  have hp4' : p4.toInt = 2 := by rw [hp4]; rfl
  have hx0 := x_ladd (g2 0) 1 (by omega)
  have hx1 := x_ladd (g2 1) 1 (by omega)
  refine OwnG.st (y_aloadN X0 H d5_0 rfl) ?_
  refine OwnG.st (y_iloadN X0 H d5_1 rfl) ?_
  obtain ⟨cq53, qc53, qd53⟩ := EMS_51.cell
  refine OwnG.cm 5 1 28 X0 (X0.privateBack hx (y := mn_6) hown (mvT hZ (ww hw 54 rfl)) (mvT hZ (ww hw 55 rfl)) (mvT hZ (own_selP (y := mn_6) (y0 := mn_5) rfl (ww hw 52 rfl) (ww hw 55 rfl) (ww hw 56 rfl) (by decide))) (Cond.privateMethod_at (mvP hZ (ww hw 56 rfl) (args := #[]))) (mvT hZ (ww hw 57 rfl)) (by decide) (backOf (W := 0) (rm6 l Z a0 hw [] a1 p4 pool psz start hash table enc elen next size bud nE gE h0 n0 Z0 gb_a1 ⟨EMS_51, FMS0_51, FMS1_51, FMS2_51, FMS3_51, FMS4_51, FMS5_51, FMS6_51, FMS7_51, FMS8_51, FMS9_51⟩ A_e hD.2.2.2.2.2.2.2.2.2.2.2.2.2.2.2.1 hBy (by omega) hn) hZ (ww hw 57 rfl) (ww hw 10 rfl) (by decide) (by decide)) (g := mkF m 2 _ _) rfl (by rw [hml]; rfl) (Steps.refl _) (a := a1) (by rw [e0]; exact qc53) qd53 (argsL := [(.int p4)]) (rest := []) (lenOf pd_5S2_0 rfl) rfl (by show 2 * 0 + _ ≤ _; exact Nat.le_of_eq rfl) (hb hby d5_2) (fun _ _ => ⟨rfl, e0, (by decide : 0 + 1 ≤ _), (by decide : 0 + 28 ≤ _)⟩)) rfl rfl ?_
  intro T53 Lc53 vc53 X53 hQ53
  obtain ⟨x53, n53', g53', hv53, N53q, Kq53, M53q, Vq53, hBy53, sx53, hn53a, hn53b⟩ := hQ53
  have ne53_54 : NeA a1 x53 := Or.elim sx53 (fun q => by rw [q]; exact (Ne.symm hD.2.2.2.2.2.2.2.2.2.2.2.2.2.2.2.1)) (fun q => Nat.ne_of_lt (Nat.lt_of_lt_of_le (Exa.lt EMS_51) q))
  have ne53_55 : NeA bud x53 := Or.elim sx53 (fun q => by rw [q]; exact (Ne.symm hD.2.2.2.2.2.2.2.2.2.2.2.2.2.2.2.2.1)) (fun q => Nat.ne_of_lt (Nat.lt_of_lt_of_le (Exa.lt EBG_52) q))
  have ne53_56 : NeA pool x53 := Or.elim sx53 (fun q => by rw [q]; exact (Ne.symm hD.2.2.2.2.2.2.2.2.2.2.2.2.2.2.2.2.2.1)) (fun q => Nat.ne_of_lt (Nat.lt_of_lt_of_le A_p.lt q))
  have ne53_57 : NeA start x53 := Or.elim sx53 (fun q => by rw [q]; exact (Ne.symm hD.2.2.2.2.2.2.2.2.2.2.2.2.2.2.2.2.2.2.1)) (fun q => Nat.ne_of_lt (Nat.lt_of_lt_of_le A_s.lt q))
  have ne53_58 : NeA hash x53 := Or.elim sx53 (fun q => by rw [q]; exact (Ne.symm hD.2.2.2.2.2.2.2.2.2.2.2.2.2.2.2.2.2.2.2.1)) (fun q => Nat.ne_of_lt (Nat.lt_of_lt_of_le A_h.lt q))
  have ne53_59 : NeA table x53 := Or.elim sx53 (fun q => by rw [q]; exact (Ne.symm hD.2.2.2.2.2.2.2.2.2.2.2.2.2.2.2.2.2.2.2.2)) (fun q => Nat.ne_of_lt (Nat.lt_of_lt_of_le A_t.lt q))
  have ne53_60 : NeA a2 x53 := Or.elim sx53 (fun q => by rw [q]; exact (Ne.symm (Nat.ne_of_gt (Nat.lt_of_lt_of_le hk_a2 ge_enc)))) (fun q => Nat.ne_of_lt (Nat.lt_of_lt_of_le A_2.lt q))
  have ne53_61 : NeA a3 x53 := Or.elim sx53 (fun q => by rw [q]; exact (Ne.symm (Nat.ne_of_gt (Nat.lt_of_lt_of_le hk_a3 ge_enc)))) (fun q => Nat.ne_of_lt (Nat.lt_of_lt_of_le A_3.lt q))
  have inw_x53 : x53 ∈ [a1, bud, pool, start, hash, table, enc] ∨ h0.size ≤ x53 := Or.elim sx53 (fun q => by rw [q]; exact Or.inl (by simp)) (fun q => Or.inr (Nat.le_trans (Keep.refl h0 [a1, bud, pool, start, hash, table, enc]).1 q))
  have ge_x53 : LeA (kk) (x53) := Or.elim sx53 (fun q => by rw [q]; exact ge_enc) (fun q => Nat.le_trans hkz (Nat.le_trans (Keep.refl h0 [a1, bud, pool, start, hash, table, enc]).1 q))
  have gb_x53 : LeA (n0) (x53) := Or.elim sx53 (fun q => by rw [q]; exact gb_enc) (fun q => Nat.le_trans Z0 q)
  have Z53 : LeA (n0) (T53.heap.size) := Nat.le_trans Z0 Kq53.1
  have f63 := Exa.keep EBG_52 Kq53
  have f64 := Fld.keep FBG0_52 Kq53 (ninS hD.1 nin0)
  have f65 := Fld.keep FBG1_52 Kq53 (ninS hD.1 nin0)
  have f66 := A_p.keep Kq53 (ninS hD.2.1 nin0)
  have f67 := A_s.keep Kq53 (ninS hD.2.2.2.1 nin0)
  have f68 := A_h.keep Kq53 (ninS hD.2.2.2.2.2.2.1 nin0)
  have f69 := A_t.keep Kq53 (ninS hD.2.2.2.2.2.2.2.2.2.2.1 nin0)
  have f71 := A_2.keep Kq53 (ninS (Ne.symm (Nat.ne_of_gt (Nat.lt_of_lt_of_le hk_a2 ge_a1))) nin0)
  have f72 := A_3.keep Kq53 (ninS (Ne.symm (Nat.ne_of_gt (Nat.lt_of_lt_of_le hk_a3 ge_a1))) nin0)
  have K53 : Keep h0 T53.heap [a1, bud, pool, start, hash, table, enc] := (Keep.refl h0 [a1, bud, pool, start, hash, table, enc]).trans Kq53 (own_trS (P := fun x => x ∈ [a1, bud, pool, start, hash, table, enc] ∨ h0.size ≤ x) (Or.inl (by simp)) own_tr0)
  obtain ⟨EMS_73, FMS0_73, FMS1_73, FMS2_73, FMS3_73, FMS4_73, FMS5_73, FMS6_73, FMS7_73, FMS8_73, FMS9_73⟩ := M53q
  have N53 := Fr.app N0 N53q
  refine OwnG.cn hv53 ?_
  clear hv53
  have hc11_74 : (0 : Int32) < p4 := by rw [hp4]; decide
  refine OwnG.st (y_iconst X53 H (0) d5_5 rfl) ?_
  refine OwnG.st (y_istore X53 H #[.val (.ref a1), .val (.ref a2), .val (.ref a3), .val (.int p4), .val (.int (0 : Int32))] d5_6 rfl) ?_
  refine OwnG.st (y_iload X53 H d5_8 rfl) ?_
  refine OwnG.st (y_iloadN X53 H d5_10 rfl) ?_
  refine OwnG.st (y_icN X53 H d5_11 (tlt hc11_74).2.1) ?_
  refine OwnG.st (y_aloadN X53 H d5_14 rfl) ?_
  refine OwnG.st (y_aloadN X53 H d5_15 rfl) ?_
  refine OwnG.st (y_iload X53 H d5_16 rfl) ?_
  refine OwnG.st (y_ldJ f71 X53 H hZ rfl (by decide) (by show (0 : Int) < _; omega) d5_18 (g2 0) rfl) ?_
  refine OwnG.st (y_aloadN X53 H d5_19 rfl) ?_
  refine OwnG.st (y_iload X53 H d5_20 rfl) ?_
  refine OwnG.st (y_ldI f72 X53 H hZ rfl (by decide) (by show (0 : Int) < _; omega) d5_22 (g3 0) rfl) ?_
  obtain ⟨cq75, qc75, qd75⟩ := EMS_73.cell
  refine OwnG.cm 26 1 28 X53 (X53.privateBack hx (y := mn_19) hown (mvT hZ (ww hw 130 rfl)) (mvT hZ (ww hw 131 rfl)) (mvT hZ (own_selP (y := mn_19) (y0 := mn_5) rfl (ww hw 52 rfl) (ww hw 131 rfl) (ww hw 132 rfl) (by decide))) (Cond.privateMethod_at (mvP hZ (ww hw 132 rfl) (args := #[]))) (mvT hZ (ww hw 133 rfl)) (by decide) (backOf (W := 0) (rm19 l Z a0 hw [] a1 (g2 0) (g3 0) pool psz start hash table x53 (0 : Int32) (0 : Int64) size bud n53' g53' T53.heap n0 Z53 gb_a1 gb_x53 ⟨EMS_73, FMS0_73, FMS1_73, FMS2_73, FMS3_73, FMS4_73, FMS5_73, FMS6_73, FMS7_73, FMS8_73, FMS9_73⟩ Vq53 (Ne.symm ne53_54) hBy53 (by omega) (by omega) (by omega) (by omega)) hZ (ww hw 133 rfl) (ww hw 10 rfl) (by decide) (by decide)) (g := mkF m 23 _ _) rfl (by rw [hml]; rfl) (Steps.refl _) (a := a1) qc75 qd75 (argsL := [(.long (g2 0)), (.int (g3 0))]) (rest := []) (lenOf pd_5S2_1 rfl) rfl (by show 2 * 0 + _ ≤ _; exact Nat.le_of_eq rfl) (hb hby d5_23) (fun _ _ => ⟨rfl, rfl, (by decide : 1 + 0 ≤ _), (by decide : 28 + 0 ≤ _)⟩)) rfl rfl ?_
  intro T75 Lc75 vc75 X75 hQ75
  obtain ⟨g75', e75', hv75, N75q, Kq75, M75q, Vq75, hBy75, hg75, hE75, he75a, he75b, hs75⟩ := hQ75
  have Z75 : LeA (n0) (T75.heap.size) := Nat.le_trans Z53 Kq75.1
  have f77 := Exa.keep f63 Kq75
  have f78 := Fld.keep f64 Kq75 (ninS hD.1 (ninS ne53_55 nin0))
  have f79 := Fld.keep f65 Kq75 (ninS hD.1 (ninS ne53_55 nin0))
  have f80 := f66.keep Kq75 (ninS hD.2.1 (ninS ne53_56 nin0))
  have f81 := f67.keep Kq75 (ninS hD.2.2.2.1 (ninS ne53_57 nin0))
  have f82 := f68.keep Kq75 (ninS hD.2.2.2.2.2.2.1 (ninS ne53_58 nin0))
  have f83 := f69.keep Kq75 (ninS hD.2.2.2.2.2.2.2.2.2.2.1 (ninS ne53_59 nin0))
  have f84 := f71.keep Kq75 (ninS (Ne.symm (Nat.ne_of_gt (Nat.lt_of_lt_of_le hk_a2 ge_a1))) (ninS ne53_60 nin0))
  have f85 := f72.keep Kq75 (ninS (Ne.symm (Nat.ne_of_gt (Nat.lt_of_lt_of_le hk_a3 ge_a1))) (ninS ne53_61 nin0))
  have K75 : Keep h0 T75.heap [a1, bud, pool, start, hash, table, enc] := K53.trans Kq75 (own_trS (P := fun x => x ∈ [a1, bud, pool, start, hash, table, enc] ∨ h0.size ≤ x) (Or.inl (by simp)) (own_trS (P := fun x => x ∈ [a1, bud, pool, start, hash, table, enc] ∨ h0.size ≤ x) (inw_x53) own_tr0))
  obtain ⟨EMS_86, FMS0_86, FMS1_86, FMS2_86, FMS3_86, FMS4_86, FMS5_86, FMS6_86, FMS7_86, FMS8_86, FMS9_86⟩ := M75q
  have N75 := Fr.app N53 N75q
  refine OwnG.cn hv75 ?_
  clear hv75
  have hc11_87 : (1 : Int32) < p4 := by rw [hp4]; decide
  refine OwnG.st (y_iinc X75 H #[.val (.ref a1), .val (.ref a2), .val (.ref a3), .val (.int p4), .val (.int (1 : Int32))] d5_26 rfl rfl) ?_
  refine OwnG.st (y_goto X75 H 8 d5_29 (by decide) (by decide)) ?_
  refine OwnG.st (y_iload X75 H d5_8 rfl) ?_
  refine OwnG.st (y_iloadN X75 H d5_10 rfl) ?_
  refine OwnG.st (y_icN X75 H d5_11 (tlt hc11_87).2.1) ?_
  refine OwnG.st (y_aloadN X75 H d5_14 rfl) ?_
  refine OwnG.st (y_aloadN X75 H d5_15 rfl) ?_
  refine OwnG.st (y_iload X75 H d5_16 rfl) ?_
  refine OwnG.st (y_ldJ f84 X75 H hZ rfl (by decide) (by show (1 : Int) < _; omega) d5_18 (g2 1) rfl) ?_
  refine OwnG.st (y_aloadN X75 H d5_19 rfl) ?_
  refine OwnG.st (y_iload X75 H d5_20 rfl) ?_
  refine OwnG.st (y_ldI f85 X75 H hZ rfl (by decide) (by show (1 : Int) < _; omega) d5_22 (g3 1) rfl) ?_
  obtain ⟨cq88, qc88, qd88⟩ := EMS_86.cell
  refine OwnG.cm 26 1 28 X75 (X75.privateBack hx (y := mn_19) hown (mvT hZ (ww hw 130 rfl)) (mvT hZ (ww hw 131 rfl)) (mvT hZ (own_selP (y := mn_19) (y0 := mn_5) rfl (ww hw 52 rfl) (ww hw 131 rfl) (ww hw 132 rfl) (by decide))) (Cond.privateMethod_at (mvP hZ (ww hw 132 rfl) (args := #[]))) (mvT hZ (ww hw 133 rfl)) (by decide) (backOf (W := 0) (rm19 l Z a0 hw [] a1 (g2 1) (g3 1) pool psz start hash table x53 e75' ((g2 0) + (1 : Int64)) size bud n53' g75' T75.heap n0 Z75 gb_a1 gb_x53 ⟨EMS_86, FMS0_86, FMS1_86, FMS2_86, FMS3_86, FMS4_86, FMS5_86, FMS6_86, FMS7_86, FMS8_86, FMS9_86⟩ Vq75 (Ne.symm ne53_54) hBy75 (by omega) (by omega) (by omega) (by omega)) hZ (ww hw 133 rfl) (ww hw 10 rfl) (by decide) (by decide)) (g := mkF m 23 _ _) rfl (by rw [hml]; rfl) (Steps.refl _) (a := a1) qc88 qd88 (argsL := [(.long (g2 1)), (.int (g3 1))]) (rest := []) (lenOf pd_5S2_1 rfl) rfl (by show 2 * 0 + _ ≤ _; exact Nat.le_of_eq rfl) (hb hby d5_23) (fun _ _ => ⟨rfl, rfl, (by decide : 1 + 0 ≤ _), (by decide : 28 + 0 ≤ _)⟩)) rfl rfl ?_
  intro T88 Lc88 vc88 X88 hQ88
  obtain ⟨g88', e88', hv88, N88q, Kq88, M88q, Vq88, hBy88, hg88, hE88, he88a, he88b, hs88⟩ := hQ88
  have Z88 : LeA (n0) (T88.heap.size) := Nat.le_trans Z75 Kq88.1
  have f90 := Exa.keep f77 Kq88
  have f91 := Fld.keep f78 Kq88 (ninS hD.1 (ninS ne53_55 nin0))
  have f92 := Fld.keep f79 Kq88 (ninS hD.1 (ninS ne53_55 nin0))
  have f93 := f80.keep Kq88 (ninS hD.2.1 (ninS ne53_56 nin0))
  have f94 := f81.keep Kq88 (ninS hD.2.2.2.1 (ninS ne53_57 nin0))
  have f95 := f82.keep Kq88 (ninS hD.2.2.2.2.2.2.1 (ninS ne53_58 nin0))
  have f96 := f83.keep Kq88 (ninS hD.2.2.2.2.2.2.2.2.2.2.1 (ninS ne53_59 nin0))
  have K88 : Keep h0 T88.heap [a1, bud, pool, start, hash, table, enc] := K75.trans Kq88 (own_trS (P := fun x => x ∈ [a1, bud, pool, start, hash, table, enc] ∨ h0.size ≤ x) (Or.inl (by simp)) (own_trS (P := fun x => x ∈ [a1, bud, pool, start, hash, table, enc] ∨ h0.size ≤ x) (inw_x53) own_tr0))
  obtain ⟨EMS_99, FMS0_99, FMS1_99, FMS2_99, FMS3_99, FMS4_99, FMS5_99, FMS6_99, FMS7_99, FMS8_99, FMS9_99⟩ := M88q
  have N88 := Fr.app N75 N88q
  refine OwnG.cn hv88 ?_
  clear hv88
  have hc11_100 : ¬ ((2 : Int32) < p4) := by rw [hp4]; decide
  refine OwnG.st (y_iinc X88 H #[.val (.ref a1), .val (.ref a2), .val (.ref a3), .val (.int p4), .val (.int (2 : Int32))] d5_26 rfl rfl) ?_
  refine OwnG.st (y_goto X88 H 8 d5_29 (by decide) (by decide)) ?_
  refine OwnG.st (y_iload X88 H d5_8 rfl) ?_
  refine OwnG.st (y_iloadN X88 H d5_10 rfl) ?_
  refine OwnG.st (y_icY X88 H 32 d5_11 (flt hc11_100).2.1 (by decide) (by decide)) ?_
  refine OwnG.st (y_aloadN X88 H d5_32 rfl) ?_
  obtain ⟨cq101, qc101, qd101⟩ := EMS_99.cell
  refine OwnG.cm 36 4 328 X88 (X88.privateBack hx (y := mn_7) hown (mvT hZ (ww hw 63 rfl)) (mvT hZ (ww hw 64 rfl)) (mvT hZ (own_selP (y := mn_7) (y0 := mn_5) rfl (ww hw 52 rfl) (ww hw 64 rfl) (ww hw 65 rfl) (by decide))) (Cond.privateMethod_at (mvP hZ (ww hw 65 rfl) (args := #[]))) (mvT hZ (ww hw 66 rfl)) (by decide) (backOf (W := 0) (rm7B l Z a0 hw [] a1 kk e0' gX e88'.toInt.toNat g88' T88.heap n0 Z88 hkk ⟨pool, psz, start, hash, table, x53, e88', ((g2 1) + (1 : Int64)), size, bud, used, _, nP, nS, nH, j0, t1, gP, gS, gH, ⟨EMS_99, FMS0_99, FMS1_99, FMS2_99, FMS3_99, FMS4_99, FMS5_99, FMS6_99, FMS7_99, FMS8_99, FMS9_99⟩, ⟨f90, f91, f92⟩, f93, f94, f95, f96, Vq88, hBy88, hBP, ⟨hD.1, hD.2.1, hD.2.2.1, hD.2.2.2.1, hD.2.2.2.2.1, hD.2.2.2.2.2.1, hD.2.2.2.2.2.2.1, hD.2.2.2.2.2.2.2.1, hD.2.2.2.2.2.2.2.2.1, hD.2.2.2.2.2.2.2.2.2.1, hD.2.2.2.2.2.2.2.2.2.2.1, hD.2.2.2.2.2.2.2.2.2.2.2.1, hD.2.2.2.2.2.2.2.2.2.2.2.2.1, hD.2.2.2.2.2.2.2.2.2.2.2.2.2.1, hD.2.2.2.2.2.2.2.2.2.2.2.2.2.2.1, (Ne.symm ne53_54), (Ne.symm ne53_55), (Ne.symm ne53_56), (Ne.symm ne53_57), (Ne.symm ne53_58), (Ne.symm ne53_59)⟩, ⟨ge_a1, ge_bud, ge_pool, ge_start, ge_hash, ge_table, ge_x53⟩, (by omega), (by omega), (by omega), hps, hle0, hnP, hsz, hnS, hnS2, hnH, hnH2, ht1, hj0, hs0, hs1, hX, hu0, hu1⟩ (by omega) (by omega)) hZ (ww hw 66 rfl) (ww hw 10 rfl) (by decide) (by decide)) (g := mkF m 33 _ _) rfl (by rw [hml]; rfl) (Steps.refl _) (a := a1) qc101 qd101 (argsL := []) (rest := []) (lenOf pd_5S2_2 rfl) rfl (by show 2 * 0 + _ ≤ _; exact Nat.le_of_eq rfl) (hb hby d5_33) (fun _ _ => ⟨rfl, rfl, (by decide : 1 + 3 ≤ _), (by decide : 28 + 300 ≤ _)⟩)) rfl rfl ?_
  intro T101 Lc101 vc101 X101 hQ101
  obtain ⟨m101, hv101, N101q, KB101, hSx, hSy⟩ := hQ101
  have N101 := Fr.app N88 N101q
  refine OwnG.cv hv101 ?_
  clear hv101
  have hEs : Ents g88' 0 e88'.toInt.toNat [(own_V (g2 0 - 0) (g3 0), g3 0), (own_V (g2 1 - (g2 0 + 1)) (g3 1), g3 1)] := ⟨_, hE75.copy rfl (fun j hj => hg88 _ hj), _, hE88, rfl⟩
  exact OwnG.retI X101 hx Bd.returns (BodyLoose.notSynchronized Bd) (hb hby d5_36) ⟨_, e88'.toInt.toNat, g88', rfl, N101, (own_kb K88 (own_trS (P := fun x => kk ≤ x) ge_a1 (own_trS ge_bud (own_trS ge_pool (own_trS ge_start (own_trS ge_hash (own_trS ge_table (own_trS ge_enc own_tr0)))))))).trans KB101, hEs, hSx, hSy⟩ (by decide) (by decide)
theorem d2_0 : decode k2_ 0 = .ok (.aload_n 0, 1) := by decide +kernel
theorem d2_1 : decode k2_ 1 = .ok (.invokespecial 3, 3) := by decide +kernel
theorem d2_4 : decode k2_ 4 = .ok (.aload_n 0, 1) := by decide +kernel
theorem d2_5 : decode k2_ 5 = .ok (.lload_n 1, 1) := by decide +kernel
theorem d2_6 : decode k2_ 6 = .ok (.putfield 9, 3) := by decide +kernel
theorem d2_9 : decode k2_ 9 = .ok (.aload_n 0, 1) := by decide +kernel
theorem d2_10 : decode k2_ 10 = .ok (.aload_n 3, 1) := by decide +kernel
theorem d2_11 : decode k2_ 11 = .ok (.putfield 15, 3) := by decide +kernel
theorem d2_14 : decode k2_ 14 = .ok (.return_, 1) := by decide +kernel
theorem pn_2 : plainName "com/example/deft_nets/deftnets/MemoryBudget" = true := by first | (simp [plainName, overriddenIn]; done) | decide +kernel
theorem ef_2 (m : MethodId) (a1 : Addr) (q2 : Int64) (a3 : Addr) : entryFrame m #[(.ref a1), (.long q2), (.ref a3)] 4 = mkF m 0 #[.val (.ref a1), .val (.long q2), .second, .val (.ref a3)] [] := by first | (simp [entryFrame, mkF, argsToLocals, Value.category]; done) | rfl
def Q2 (Z : State) (a1 : Addr) (q2 : Int64) (a3 : Addr) (h0 : Heap) (n0 : Nat) (v : Option Value) (h : Heap) (L : List Loc) : Prop := v = none ∧ Fr n0 L ∧ Keep h0 h [a1] ∧ BG Z h a1 (0 : Int64)
set_option maxRecDepth 65536 in
set_option maxHeartbeats 40000000 in
theorem rm2 (l : Launch) (Z : State) (a0 : Array Value) (hw : HW a0 Z) (ws : List Jvm.Cond) (a1 : Addr) (q2 : Int64) (a3 : Addr)  (h0 : Heap) (n0 : Nat) (Z0 : n0 ≤ h0.size) (gb_a1 : n0 ≤ a1) (E_a1 : Exa Z h0 a1 "com/example/deft_nets/deftnets/MemoryBudget") (D_mLimit : Fld Z h0 a1 "com/example/deft_nets/deftnets/MemoryBudget" "mLimit" "J" (.long (0 : Int64))) (D_mUsed : Fld Z h0 a1 "com/example/deft_nets/deftnets/MemoryBudget" "mUsed" "J" (.long (0 : Int64))) (D_mSource : Fld Z h0 a1 "com/example/deft_nets/deftnets/MemoryBudget" "mSource" "Ljava/lang/String;" .null) (hq : q2 = (1099511627776 : Int64)) :
    MetFree l mn_2 (head1 (Jvm.Cond.code mn_2 prog_34_method_1_code 4 none :: ws) ({ frames := 1, cells := 0, slots := 0, locals := 12 } : Room)) (fun a U => a = #[(.ref a1), (.long q2), (.ref a3)] ∧ Z.Warmed39 U.vm ∧ U.heap = h0) (fun _ _ _ _ _ => True) (fun _ U o U' => ∃ v L, o = .returned v ∧ Q2 Z a1 q2 a3 h0 n0 v U'.heap L ∧ FrameEnd U o U' L ({ frames := 1, cells := 0, slots := 0, locals := 12 } : Room).cells ({ frames := 1, cells := 0, slots := 0, locals := 12 } : Room).slots) := by
  refine MetFree.of_bodySF (plainFor_of_name pn_2) hisR ?_
  intro p e s m args below meth c s₁ Bd hml0 hP hK
  obtain ⟨rfl, hZ, hh⟩ := hP
  have hx := Bd.exec
  have hby := Bd.bytes
  have H := And.intro hx hby
  have hml : c.maxLocals = 4 := hml0
  have hown : s.vm.findClass "com/example/deft_nets/deftnets/MemoryBudget" = some m.cls := findClass_of_methodNamed Bd.named
  have hnm := (name_of_methodNamed Bd.named Bd.method).1
  have X0 : Stand p l e ({ frames := 1, cells := 0, slots := 0, locals := 12 } : Room) s m #[(.ref a1), (.long q2), (.ref a3)] below meth c s₁ [] 0 0 := Stand.of_body Bd
  have e0 : s₁.heap = h0 := by rw [← hh, Bd.state]; rfl
  have N0 := Fr.nil n0
  suffices hG : OwnG p e below s (Q2 Z a1 q2 a3 h0 n0) ({ frames := 1, cells := 0, slots := 0, locals := 12 } : Room).cells ({ frames := 1, cells := 0, slots := 0, locals := 12 } : Room).slots s₁ (mkF m 0 #[.val (.ref a1), .val (.long q2), .second, .val (.ref a3)] []) by
    obtain ⟨s2, o2, g1, g2⟩ := hG
    exact ⟨s2, o2, castTop (ef_2 m a1 q2 a3) g1, g2⟩
  refine OwnG.st (y_aloadN X0 H d2_0 rfl) ?_
  refine OwnG.v1 4 (initO X0 hx hZ hown (ww hw 26 rfl) (ww hw 27 rfl) (ww hw 28 rfl) e0 (g := mkF m 1 _ _) rfl (by rw [hml]; rfl) rfl (hb hby d2_1) (by decide) (W := 0) (by show 2 * 0 + _ ≤ _; exact Nat.le_of_eq rfl) (by decide)) ?_
  intro T51 X51 e51
  refine OwnG.st (y_aloadN X51 H d2_4 rfl) ?_
  refine OwnG.st (y_lloadN X51 H d2_5 rfl) ?_
  refine OwnG.v2 9 (putF X51 hx hZ hown (host := "") (Or.inl (ww hw 29 rfl)) Via.refl e51 D_mLimit E_a1 (Or.inr ⟨(ww hw 30 rfl), rfl, hnm⟩) (ww hw 12 rfl) (ty := .long) (by decide) rfl rfl (g := mkF m 6 _ _) rfl rfl (hb hby d2_6)) ?_
  intro T52 h52 X52 e52 W52
  have f53 := Exa.wr W52 E_a1
  have f54 := Fld.other W52 D_mUsed (Or.inr (sn_82 hw))
  have f55 := Fld.other W52 D_mSource (Or.inr (sn_83 hw))
  have Fw52 : Fld Z h52 a1 "com/example/deft_nets/deftnets/MemoryBudget" "mLimit" "J" (.long q2) := Fld.same W52 D_mLimit
  have N52 := Fr.snoc X52 N0 gb_a1
  have K52 : Keep h0 h52 [a1] := (Keep.refl h0 [a1]).wr W52 (Or.inl (List.mem_of_getElem? (i := 0) rfl))
  refine OwnG.st (y_aloadN X52 H d2_9 rfl) ?_
  refine OwnG.st (y_aloadN X52 H d2_10 rfl) ?_
  refine OwnG.v2 14 (putF X52 hx hZ hown (host := "") (Or.inl (ww hw 31 rfl)) Via.refl e52 f55 f53 (Or.inr ⟨(ww hw 32 rfl), rfl, hnm⟩) (ww hw 12 rfl) (ty := (.object "java/lang/String")) (by decide) rfl rfl (g := mkF m 11 _ _) rfl rfl (hb hby d2_11)) ?_
  intro T56 h56 X56 e56 W56
  have f57 := Exa.wr W56 f53
  have f58 := Fld.other W56 Fw52 (Or.inr (sn_84 hw))
  have f59 := Fld.other W56 f54 (Or.inr (sn_85 hw))
  have Fw56 : Fld Z h56 a1 "com/example/deft_nets/deftnets/MemoryBudget" "mSource" "Ljava/lang/String;" (.ref a3) := Fld.same W56 f55
  have N56 := Fr.snoc X56 N52 gb_a1
  have K56 : Keep h0 h56 [a1] := K52.wr W56 (Or.inl (List.mem_of_getElem? (i := 0) rfl))
  exact OwnG.retV X56 hx Bd.returns (BodyLoose.notSynchronized Bd) (hb hby d2_14) (by rw [e56]; exact ⟨rfl, N56, K56, f57, (by have q := f58; rw [hq] at q; exact q), f59⟩) (by decide) (by decide)
theorem d4_0 : decode k4_ 0 = .ok (.aload_n 0, 1) := by decide +kernel
theorem d4_1 : decode k4_ 1 = .ok (.invokespecial 1, 3) := by decide +kernel
theorem d4_4 : decode k4_ 4 = .ok (.aload_n 0, 1) := by decide +kernel
theorem d4_5 : decode k4_ 5 = .ok (.iconst 0, 1) := by decide +kernel
theorem d4_6 : decode k4_ 6 = .ok (.newarray .byte, 2) := by decide +kernel
theorem d4_8 : decode k4_ 8 = .ok (.putfield 7, 3) := by decide +kernel
theorem d4_11 : decode k4_ 11 = .ok (.aload_n 0, 1) := by decide +kernel
theorem d4_12 : decode k4_ 12 = .ok (.iconst 1, 1) := by decide +kernel
theorem d4_13 : decode k4_ 13 = .ok (.newarray .int, 2) := by decide +kernel
theorem d4_15 : decode k4_ 15 = .ok (.putfield 13, 3) := by decide +kernel
theorem d4_18 : decode k4_ 18 = .ok (.aload_n 0, 1) := by decide +kernel
theorem d4_19 : decode k4_ 19 = .ok (.iconst 0, 1) := by decide +kernel
theorem d4_20 : decode k4_ 20 = .ok (.newarray .int, 2) := by decide +kernel
theorem d4_22 : decode k4_ 22 = .ok (.putfield 17, 3) := by decide +kernel
theorem d4_25 : decode k4_ 25 = .ok (.aload_n 0, 1) := by decide +kernel
theorem d4_26 : decode k4_ 26 = .ok (.iconst 0, 1) := by decide +kernel
theorem d4_27 : decode k4_ 27 = .ok (.newarray .int, 2) := by decide +kernel
theorem d4_29 : decode k4_ 29 = .ok (.putfield 20, 3) := by decide +kernel
theorem d4_32 : decode k4_ 32 = .ok (.aload_n 0, 1) := by decide +kernel
theorem d4_33 : decode k4_ 33 = .ok (.iconst 0, 1) := by decide +kernel
theorem d4_34 : decode k4_ 34 = .ok (.newarray .byte, 2) := by decide +kernel
theorem d4_36 : decode k4_ 36 = .ok (.putfield 23, 3) := by decide +kernel
theorem d4_39 : decode k4_ 39 = .ok (.aload_n 0, 1) := by decide +kernel
theorem d4_40 : decode k4_ 40 = .ok (.aload_n 1, 1) := by decide +kernel
theorem d4_41 : decode k4_ 41 = .ok (.putfield 26, 3) := by decide +kernel
theorem d4_44 : decode k4_ 44 = .ok (.return_, 1) := by decide +kernel
theorem pn_4 : plainName "com/example/deft_nets/deftnets/MarkingStore" = true := by first | (simp [plainName, overriddenIn]; done) | decide +kernel
theorem ef_4 (m : MethodId) (a1 : Addr) (a2 : Addr) : entryFrame m #[(.ref a1), (.ref a2)] 2 = mkF m 0 #[.val (.ref a1), .val (.ref a2)] [] := by first | (simp [entryFrame, mkF, argsToLocals, Value.category]; done) | rfl
def Q4 (Z : State) (a1 : Addr) (a2 : Addr) (kk : Nat) (h0 : Heap) (n0 : Nat) (v : Option Value) (h : Heap) (L : List Loc) : Prop := v = none ∧ Fr n0 L ∧ KeepB h0 h kk ∧ SA0 Z h kk a1 0 (fun _ => 0)
set_option maxRecDepth 65536 in
set_option maxHeartbeats 40000000 in
theorem rm4 (l : Launch) (Z : State) (a0 : Array Value) (hw : HW a0 Z) (ws : List Jvm.Cond) (a1 : Addr) (a2 : Addr) (kk : Nat) (h0 : Heap) (n0 : Nat) (Z0 : n0 ≤ h0.size) (gb_a1 : n0 ≤ a1) (E_a1 : Exa Z h0 a1 "com/example/deft_nets/deftnets/MarkingStore") (D_mPool : Fld Z h0 a1 "com/example/deft_nets/deftnets/MarkingStore" "mPool" "[B" .null) (D_mPoolSize : Fld Z h0 a1 "com/example/deft_nets/deftnets/MarkingStore" "mPoolSize" "I" (.int (0 : Int32))) (D_mStart : Fld Z h0 a1 "com/example/deft_nets/deftnets/MarkingStore" "mStart" "[I" .null) (D_mHash : Fld Z h0 a1 "com/example/deft_nets/deftnets/MarkingStore" "mHash" "[I" .null) (D_mTable : Fld Z h0 a1 "com/example/deft_nets/deftnets/MarkingStore" "mTable" "[I" .null) (D_mEncoded : Fld Z h0 a1 "com/example/deft_nets/deftnets/MarkingStore" "mEncoded" "[B" .null) (D_mEncodedLength : Fld Z h0 a1 "com/example/deft_nets/deftnets/MarkingStore" "mEncodedLength" "I" (.int (0 : Int32))) (D_mNextPlace : Fld Z h0 a1 "com/example/deft_nets/deftnets/MarkingStore" "mNextPlace" "J" (.long (0 : Int64))) (D_mSize : Fld Z h0 a1 "com/example/deft_nets/deftnets/MarkingStore" "mSize" "I" (.int (0 : Int32))) (D_mBudget : Fld Z h0 a1 "com/example/deft_nets/deftnets/MarkingStore" "mBudget" "Lcom/example/deft_nets/deftnets/MemoryBudget;" .null) (hB : BG Z h0 a2 (0 : Int64)) (ge_a1 : kk ≤ a1) (ge_a2 : kk ≤ a2) (hne : a2 ≠ a1) :
    MetFree l mn_4 (head1 (Jvm.Cond.code mn_4 prog_31_method_1_code 2 none :: ws) ({ frames := 1, cells := 5, slots := 1, locals := 12 } : Room)) (fun a U => a = #[(.ref a1), (.ref a2)] ∧ Z.Warmed39 U.vm ∧ U.heap = h0) (fun _ _ _ _ _ => True) (fun _ U o U' => ∃ v L, o = .returned v ∧ Q4 Z a1 a2 kk h0 n0 v U'.heap L ∧ FrameEnd U o U' L ({ frames := 1, cells := 5, slots := 1, locals := 12 } : Room).cells ({ frames := 1, cells := 5, slots := 1, locals := 12 } : Room).slots) := by
  refine MetFree.of_bodySF (plainFor_of_name pn_4) hisR ?_
  intro p e s m args below meth c s₁ Bd hml0 hP hK
  obtain ⟨rfl, hZ, hh⟩ := hP
  have hx := Bd.exec
  have hby := Bd.bytes
  have H := And.intro hx hby
  have hml : c.maxLocals = 2 := hml0
  have hown : s.vm.findClass "com/example/deft_nets/deftnets/MarkingStore" = some m.cls := findClass_of_methodNamed Bd.named
  have hnm := (name_of_methodNamed Bd.named Bd.method).1
  have X0 : Stand p l e ({ frames := 1, cells := 5, slots := 1, locals := 12 } : Room) s m #[(.ref a1), (.ref a2)] below meth c s₁ [] 0 0 := Stand.of_body Bd
  have e0 : s₁.heap = h0 := by rw [← hh, Bd.state]; rfl
  have N0 := Fr.nil n0
  suffices hG : OwnG p e below s (Q4 Z a1 a2 kk h0 n0) ({ frames := 1, cells := 5, slots := 1, locals := 12 } : Room).cells ({ frames := 1, cells := 5, slots := 1, locals := 12 } : Room).slots s₁ (mkF m 0 #[.val (.ref a1), .val (.ref a2)] []) by
    obtain ⟨s2, o2, g1, g2⟩ := hG
    exact ⟨s2, o2, castTop (ef_4 m a1 a2) g1, g2⟩
  obtain ⟨EBG_51, FBG0_51, FBG1_51⟩ := hB
  have hkz : kk ≤ h0.size := Nat.le_of_lt (Nat.lt_of_le_of_lt ge_a1 (Exa.lt E_a1))
  refine OwnG.st (y_aloadN X0 H d4_0 rfl) ?_
  refine OwnG.v1 4 (initO X0 hx hZ hown (ww hw 36 rfl) (ww hw 27 rfl) (ww hw 28 rfl) e0 (g := mkF m 1 _ _) rfl (by rw [hml]; rfl) rfl (hb hby d4_1) (by decide) (W := 0) (by show 2 * 0 + _ ≤ _; exact Nat.le_of_eq rfl) (by decide)) ?_
  intro T52 X52 e52
  refine OwnG.st (y_aloadN X52 H d4_4 rfl) ?_
  refine OwnG.st (y_iconst X52 H (0) d4_5 rfl) ?_
  refine OwnG.v4 8 1 0 X52 (newP X52 hx hZ (ww hw 18 rfl) e52 (g := mkF m 6 _ _) rfl (hb hby d4_6) rfl (by decide) (cap := 0) (by decide) (by decide) (by decide) (by decide)) rfl rfl ?_
  intro T53 h53 k53 X53 e53 E53 A53
  obtain ⟨b53, g53⟩ : ∃ z, z = h0.size := ⟨_, rfl⟩
  rw [← g53] at A53 ⊢
  have ne53_54 : NeA a1 b53 := Nat.ne_of_lt (Nat.lt_of_lt_of_le (Exa.lt E_a1) (Nat.le_of_eq g53.symm))
  have ne53_55 : NeA a2 b53 := Nat.ne_of_lt (Nat.lt_of_lt_of_le (Exa.lt EBG_51) (Nat.le_of_eq g53.symm))
  have V53 : OwnA Z h53 b53 .byte 0 (iv' fun _ => 0) := own_newA A53 (by decide)
  have f56 := Exa.ext E53 E_a1
  have f57 := Fld.ext E53 D_mPool
  have f58 := Fld.ext E53 D_mPoolSize
  have f59 := Fld.ext E53 D_mStart
  have f60 := Fld.ext E53 D_mHash
  have f61 := Fld.ext E53 D_mTable
  have f62 := Fld.ext E53 D_mEncoded
  have f63 := Fld.ext E53 D_mEncodedLength
  have f64 := Fld.ext E53 D_mNextPlace
  have f65 := Fld.ext E53 D_mSize
  have f66 := Fld.ext E53 D_mBudget
  have f67 := Exa.ext E53 EBG_51
  have f68 := Fld.ext E53 FBG0_51
  have f69 := Fld.ext E53 FBG1_51
  have sz_b53 : LeA (h0.size) (b53) := Nat.le_trans (Keep.refl h0 [a1]).1 (Nat.le_of_eq g53.symm)
  have K53 : Keep h0 h53 [a1] := (Keep.refl h0 [a1]).ext E53
  refine OwnG.v2 11 (putF X53 hx hZ hown (host := "") (Or.inl (ww hw 37 rfl)) Via.refl e53 f57 f56 (Or.inl (ww hw 38 rfl)) (ww hw 9 rfl) (ty := (.array .byte)) (by decide) rfl rfl (g := mkF m 8 _ _) rfl rfl (hb hby d4_8)) ?_
  intro T70 h70 X70 e70 W70
  have f71 := Exa.wr W70 f56
  have f72 := Fld.other W70 f58 (Or.inr (sn_37 hw))
  have f73 := Fld.other W70 f59 (Or.inr (sn_38 hw))
  have f74 := Fld.other W70 f60 (Or.inr (sn_39 hw))
  have f75 := Fld.other W70 f61 (Or.inr (sn_40 hw))
  have f76 := Fld.other W70 f62 (Or.inr (sn_41 hw))
  have f77 := Fld.other W70 f63 (Or.inr (sn_42 hw))
  have f78 := Fld.other W70 f64 (Or.inr (sn_43 hw))
  have f79 := Fld.other W70 f65 (Or.inr (sn_44 hw))
  have f80 := Fld.other W70 f66 (Or.inr (sn_45 hw))
  have f81 := Exa.wr W70 f67
  have f82 := Fld.other W70 f68 (Or.inl hne)
  have f83 := Fld.other W70 f69 (Or.inl hne)
  have f84 := V53.other W70 (Ne.symm ne53_54)
  have Fw70 : Fld Z h70 a1 "com/example/deft_nets/deftnets/MarkingStore" "mPool" "[B" (.ref b53) := Fld.same W70 f57
  have N70 := Fr.snoc X70 N0 gb_a1
  have K70 : Keep h0 h70 [a1] := K53.wr W70 (Or.inl (by simp))
  refine OwnG.st (y_aloadN X70 H d4_11 rfl) ?_
  refine OwnG.st (y_iconst X70 H (1) d4_12 rfl) ?_
  refine OwnG.v4 15 2 1 X70 (newP X70 hx hZ (ww hw 7 rfl) e70 (g := mkF m 13 _ _) rfl (hb hby d4_13) rfl (by decide) (cap := 1) (by decide) (by decide) (by decide) (by decide)) rfl rfl ?_
  intro T85 h85 k85 X85 e85 E85 A85
  obtain ⟨b85, g85⟩ : ∃ z, z = h70.size := ⟨_, rfl⟩
  rw [← g85] at A85 ⊢
  have ne85_86 : NeA a1 b85 := Nat.ne_of_lt (Nat.lt_of_lt_of_le (Exa.lt f71) (Nat.le_of_eq g85.symm))
  have ne85_87 : NeA a2 b85 := Nat.ne_of_lt (Nat.lt_of_lt_of_le (Exa.lt f81) (Nat.le_of_eq g85.symm))
  have ne85_88 : NeA b53 b85 := Nat.ne_of_lt (Nat.lt_of_lt_of_le f84.lt (Nat.le_of_eq g85.symm))
  have V85 : OwnA Z h85 b85 .int 1 (iv' fun _ => 0) := own_newA A85 (by decide)
  have f89 := Exa.ext E85 f71
  have f90 := Fld.ext E85 Fw70
  have f91 := Fld.ext E85 f72
  have f92 := Fld.ext E85 f73
  have f93 := Fld.ext E85 f74
  have f94 := Fld.ext E85 f75
  have f95 := Fld.ext E85 f76
  have f96 := Fld.ext E85 f77
  have f97 := Fld.ext E85 f78
  have f98 := Fld.ext E85 f79
  have f99 := Fld.ext E85 f80
  have f100 := Exa.ext E85 f81
  have f101 := Fld.ext E85 f82
  have f102 := Fld.ext E85 f83
  have f103 := f84.ext E85
  have sz_b85 : LeA (h0.size) (b85) := Nat.le_trans K70.1 (Nat.le_of_eq g85.symm)
  have K85 : Keep h0 h85 [a1] := K70.ext E85
  refine OwnG.v2 18 (putF X85 hx hZ hown (host := "") (Or.inl (ww hw 39 rfl)) Via.refl e85 f92 f89 (Or.inl (ww hw 40 rfl)) (ww hw 9 rfl) (ty := (.array .int)) (by decide) rfl rfl (g := mkF m 15 _ _) rfl rfl (hb hby d4_15)) ?_
  intro T104 h104 X104 e104 W104
  have f105 := Exa.wr W104 f89
  have f106 := Fld.other W104 f90 (Or.inr (sn_55 hw))
  have f107 := Fld.other W104 f91 (Or.inr (sn_56 hw))
  have f108 := Fld.other W104 f93 (Or.inr (sn_57 hw))
  have f109 := Fld.other W104 f94 (Or.inr (sn_58 hw))
  have f110 := Fld.other W104 f95 (Or.inr (sn_59 hw))
  have f111 := Fld.other W104 f96 (Or.inr (sn_60 hw))
  have f112 := Fld.other W104 f97 (Or.inr (sn_61 hw))
  have f113 := Fld.other W104 f98 (Or.inr (sn_62 hw))
  have f114 := Fld.other W104 f99 (Or.inr (sn_63 hw))
  have f115 := Exa.wr W104 f100
  have f116 := Fld.other W104 f101 (Or.inl hne)
  have f117 := Fld.other W104 f102 (Or.inl hne)
  have f118 := f103.other W104 (Ne.symm ne53_54)
  have f119 := V85.other W104 (Ne.symm ne85_86)
  have Fw104 : Fld Z h104 a1 "com/example/deft_nets/deftnets/MarkingStore" "mStart" "[I" (.ref b85) := Fld.same W104 f92
  have N104 := Fr.snoc X104 N70 gb_a1
  have K104 : Keep h0 h104 [a1] := K85.wr W104 (Or.inl (by simp))
  refine OwnG.st (y_aloadN X104 H d4_18 rfl) ?_
  refine OwnG.st (y_iconst X104 H (0) d4_19 rfl) ?_
  refine OwnG.v4 22 3 1 X104 (newP X104 hx hZ (ww hw 7 rfl) e104 (g := mkF m 20 _ _) rfl (hb hby d4_20) rfl (by decide) (cap := 0) (by decide) (by decide) (by decide) (by decide)) rfl rfl ?_
  intro T120 h120 k120 X120 e120 E120 A120
  obtain ⟨b120, g120⟩ : ∃ z, z = h104.size := ⟨_, rfl⟩
  rw [← g120] at A120 ⊢
  have ne120_121 : NeA a1 b120 := Nat.ne_of_lt (Nat.lt_of_lt_of_le (Exa.lt f105) (Nat.le_of_eq g120.symm))
  have ne120_122 : NeA a2 b120 := Nat.ne_of_lt (Nat.lt_of_lt_of_le (Exa.lt f115) (Nat.le_of_eq g120.symm))
  have ne120_123 : NeA b53 b120 := Nat.ne_of_lt (Nat.lt_of_lt_of_le f118.lt (Nat.le_of_eq g120.symm))
  have ne120_124 : NeA b85 b120 := Nat.ne_of_lt (Nat.lt_of_lt_of_le f119.lt (Nat.le_of_eq g120.symm))
  have V120 : OwnA Z h120 b120 .int 0 (iv' fun _ => 0) := own_newA A120 (by decide)
  have f125 := Exa.ext E120 f105
  have f126 := Fld.ext E120 f106
  have f127 := Fld.ext E120 f107
  have f128 := Fld.ext E120 Fw104
  have f129 := Fld.ext E120 f108
  have f130 := Fld.ext E120 f109
  have f131 := Fld.ext E120 f110
  have f132 := Fld.ext E120 f111
  have f133 := Fld.ext E120 f112
  have f134 := Fld.ext E120 f113
  have f135 := Fld.ext E120 f114
  have f136 := Exa.ext E120 f115
  have f137 := Fld.ext E120 f116
  have f138 := Fld.ext E120 f117
  have f139 := f118.ext E120
  have f140 := f119.ext E120
  have sz_b120 : LeA (h0.size) (b120) := Nat.le_trans K104.1 (Nat.le_of_eq g120.symm)
  have K120 : Keep h0 h120 [a1] := K104.ext E120
  refine OwnG.v2 25 (putF X120 hx hZ hown (host := "") (Or.inl (ww hw 41 rfl)) Via.refl e120 f129 f125 (Or.inl (ww hw 42 rfl)) (ww hw 9 rfl) (ty := (.array .int)) (by decide) rfl rfl (g := mkF m 22 _ _) rfl rfl (hb hby d4_22)) ?_
  intro T141 h141 X141 e141 W141
  have f142 := Exa.wr W141 f125
  have f143 := Fld.other W141 f126 (Or.inr (sn_64 hw))
  have f144 := Fld.other W141 f127 (Or.inr (sn_65 hw))
  have f145 := Fld.other W141 f128 (Or.inr (sn_66 hw))
  have f146 := Fld.other W141 f130 (Or.inr (sn_67 hw))
  have f147 := Fld.other W141 f131 (Or.inr (sn_68 hw))
  have f148 := Fld.other W141 f132 (Or.inr (sn_69 hw))
  have f149 := Fld.other W141 f133 (Or.inr (sn_70 hw))
  have f150 := Fld.other W141 f134 (Or.inr (sn_71 hw))
  have f151 := Fld.other W141 f135 (Or.inr (sn_72 hw))
  have f152 := Exa.wr W141 f136
  have f153 := Fld.other W141 f137 (Or.inl hne)
  have f154 := Fld.other W141 f138 (Or.inl hne)
  have f155 := f139.other W141 (Ne.symm ne53_54)
  have f156 := f140.other W141 (Ne.symm ne85_86)
  have f157 := V120.other W141 (Ne.symm ne120_121)
  have Fw141 : Fld Z h141 a1 "com/example/deft_nets/deftnets/MarkingStore" "mHash" "[I" (.ref b120) := Fld.same W141 f129
  have N141 := Fr.snoc X141 N104 gb_a1
  have K141 : Keep h0 h141 [a1] := K120.wr W141 (Or.inl (by simp))
  refine OwnG.st (y_aloadN X141 H d4_25 rfl) ?_
  refine OwnG.st (y_iconst X141 H (0) d4_26 rfl) ?_
  refine OwnG.v4 29 4 1 X141 (newP X141 hx hZ (ww hw 7 rfl) e141 (g := mkF m 27 _ _) rfl (hb hby d4_27) rfl (by decide) (cap := 0) (by decide) (by decide) (by decide) (by decide)) rfl rfl ?_
  intro T158 h158 k158 X158 e158 E158 A158
  obtain ⟨b158, g158⟩ : ∃ z, z = h141.size := ⟨_, rfl⟩
  rw [← g158] at A158 ⊢
  have ne158_159 : NeA a1 b158 := Nat.ne_of_lt (Nat.lt_of_lt_of_le (Exa.lt f142) (Nat.le_of_eq g158.symm))
  have ne158_160 : NeA a2 b158 := Nat.ne_of_lt (Nat.lt_of_lt_of_le (Exa.lt f152) (Nat.le_of_eq g158.symm))
  have ne158_161 : NeA b53 b158 := Nat.ne_of_lt (Nat.lt_of_lt_of_le f155.lt (Nat.le_of_eq g158.symm))
  have ne158_162 : NeA b85 b158 := Nat.ne_of_lt (Nat.lt_of_lt_of_le f156.lt (Nat.le_of_eq g158.symm))
  have ne158_163 : NeA b120 b158 := Nat.ne_of_lt (Nat.lt_of_lt_of_le f157.lt (Nat.le_of_eq g158.symm))
  have V158 : OwnA Z h158 b158 .int 0 (iv' fun _ => 0) := own_newA A158 (by decide)
  have f164 := Exa.ext E158 f142
  have f165 := Fld.ext E158 f143
  have f166 := Fld.ext E158 f144
  have f167 := Fld.ext E158 f145
  have f168 := Fld.ext E158 Fw141
  have f169 := Fld.ext E158 f146
  have f170 := Fld.ext E158 f147
  have f171 := Fld.ext E158 f148
  have f172 := Fld.ext E158 f149
  have f173 := Fld.ext E158 f150
  have f174 := Fld.ext E158 f151
  have f175 := Exa.ext E158 f152
  have f176 := Fld.ext E158 f153
  have f177 := Fld.ext E158 f154
  have f178 := f155.ext E158
  have f179 := f156.ext E158
  have f180 := f157.ext E158
  have sz_b158 : LeA (h0.size) (b158) := Nat.le_trans K141.1 (Nat.le_of_eq g158.symm)
  have K158 : Keep h0 h158 [a1] := K141.ext E158
  refine OwnG.v2 32 (putF X158 hx hZ hown (host := "") (Or.inl (ww hw 43 rfl)) Via.refl e158 f169 f164 (Or.inl (ww hw 44 rfl)) (ww hw 9 rfl) (ty := (.array .int)) (by decide) rfl rfl (g := mkF m 29 _ _) rfl rfl (hb hby d4_29)) ?_
  intro T181 h181 X181 e181 W181
  have f182 := Exa.wr W181 f164
  have f183 := Fld.other W181 f165 (Or.inr (sn_1 hw))
  have f184 := Fld.other W181 f166 (Or.inr (sn_2 hw))
  have f185 := Fld.other W181 f167 (Or.inr (sn_3 hw))
  have f186 := Fld.other W181 f168 (Or.inr (sn_4 hw))
  have f187 := Fld.other W181 f170 (Or.inr (sn_5 hw))
  have f188 := Fld.other W181 f171 (Or.inr (sn_6 hw))
  have f189 := Fld.other W181 f172 (Or.inr (sn_7 hw))
  have f190 := Fld.other W181 f173 (Or.inr (sn_8 hw))
  have f191 := Fld.other W181 f174 (Or.inr (sn_9 hw))
  have f192 := Exa.wr W181 f175
  have f193 := Fld.other W181 f176 (Or.inl hne)
  have f194 := Fld.other W181 f177 (Or.inl hne)
  have f195 := f178.other W181 (Ne.symm ne53_54)
  have f196 := f179.other W181 (Ne.symm ne85_86)
  have f197 := f180.other W181 (Ne.symm ne120_121)
  have f198 := V158.other W181 (Ne.symm ne158_159)
  have Fw181 : Fld Z h181 a1 "com/example/deft_nets/deftnets/MarkingStore" "mTable" "[I" (.ref b158) := Fld.same W181 f169
  have N181 := Fr.snoc X181 N141 gb_a1
  have K181 : Keep h0 h181 [a1] := K158.wr W181 (Or.inl (by simp))
  refine OwnG.st (y_aloadN X181 H d4_32 rfl) ?_
  refine OwnG.st (y_iconst X181 H (0) d4_33 rfl) ?_
  refine OwnG.v4 36 5 1 X181 (newP X181 hx hZ (ww hw 18 rfl) e181 (g := mkF m 34 _ _) rfl (hb hby d4_34) rfl (by decide) (cap := 0) (by decide) (by decide) (by decide) (by decide)) rfl rfl ?_
  intro T199 h199 k199 X199 e199 E199 A199
  obtain ⟨b199, g199⟩ : ∃ z, z = h181.size := ⟨_, rfl⟩
  rw [← g199] at A199 ⊢
  have ne199_200 : NeA a1 b199 := Nat.ne_of_lt (Nat.lt_of_lt_of_le (Exa.lt f182) (Nat.le_of_eq g199.symm))
  have ne199_201 : NeA a2 b199 := Nat.ne_of_lt (Nat.lt_of_lt_of_le (Exa.lt f192) (Nat.le_of_eq g199.symm))
  have ne199_202 : NeA b53 b199 := Nat.ne_of_lt (Nat.lt_of_lt_of_le f195.lt (Nat.le_of_eq g199.symm))
  have ne199_203 : NeA b85 b199 := Nat.ne_of_lt (Nat.lt_of_lt_of_le f196.lt (Nat.le_of_eq g199.symm))
  have ne199_204 : NeA b120 b199 := Nat.ne_of_lt (Nat.lt_of_lt_of_le f197.lt (Nat.le_of_eq g199.symm))
  have ne199_205 : NeA b158 b199 := Nat.ne_of_lt (Nat.lt_of_lt_of_le f198.lt (Nat.le_of_eq g199.symm))
  have V199 : OwnA Z h199 b199 .byte 0 (iv' fun _ => 0) := own_newA A199 (by decide)
  have f206 := Exa.ext E199 f182
  have f207 := Fld.ext E199 f183
  have f208 := Fld.ext E199 f184
  have f209 := Fld.ext E199 f185
  have f210 := Fld.ext E199 f186
  have f211 := Fld.ext E199 Fw181
  have f212 := Fld.ext E199 f187
  have f213 := Fld.ext E199 f188
  have f214 := Fld.ext E199 f189
  have f215 := Fld.ext E199 f190
  have f216 := Fld.ext E199 f191
  have f217 := Exa.ext E199 f192
  have f218 := Fld.ext E199 f193
  have f219 := Fld.ext E199 f194
  have f220 := f195.ext E199
  have f221 := f196.ext E199
  have f222 := f197.ext E199
  have f223 := f198.ext E199
  have sz_b199 : LeA (h0.size) (b199) := Nat.le_trans K181.1 (Nat.le_of_eq g199.symm)
  have K199 : Keep h0 h199 [a1] := K181.ext E199
  refine OwnG.v2 39 (putF X199 hx hZ hown (host := "") (Or.inl (ww hw 45 rfl)) Via.refl e199 f212 f206 (Or.inl (ww hw 46 rfl)) (ww hw 9 rfl) (ty := (.array .byte)) (by decide) rfl rfl (g := mkF m 36 _ _) rfl rfl (hb hby d4_36)) ?_
  intro T224 h224 X224 e224 W224
  have f225 := Exa.wr W224 f206
  have f226 := Fld.other W224 f207 (Or.inr (sn_10 hw))
  have f227 := Fld.other W224 f208 (Or.inr (sn_11 hw))
  have f228 := Fld.other W224 f209 (Or.inr (sn_12 hw))
  have f229 := Fld.other W224 f210 (Or.inr (sn_13 hw))
  have f230 := Fld.other W224 f211 (Or.inr (sn_14 hw))
  have f231 := Fld.other W224 f213 (Or.inr (sn_15 hw))
  have f232 := Fld.other W224 f214 (Or.inr (sn_16 hw))
  have f233 := Fld.other W224 f215 (Or.inr (sn_17 hw))
  have f234 := Fld.other W224 f216 (Or.inr (sn_18 hw))
  have f235 := Exa.wr W224 f217
  have f236 := Fld.other W224 f218 (Or.inl hne)
  have f237 := Fld.other W224 f219 (Or.inl hne)
  have f238 := f220.other W224 (Ne.symm ne53_54)
  have f239 := f221.other W224 (Ne.symm ne85_86)
  have f240 := f222.other W224 (Ne.symm ne120_121)
  have f241 := f223.other W224 (Ne.symm ne158_159)
  have f242 := V199.other W224 (Ne.symm ne199_200)
  have Fw224 : Fld Z h224 a1 "com/example/deft_nets/deftnets/MarkingStore" "mEncoded" "[B" (.ref b199) := Fld.same W224 f212
  have N224 := Fr.snoc X224 N181 gb_a1
  have K224 : Keep h0 h224 [a1] := K199.wr W224 (Or.inl (by simp))
  refine OwnG.st (y_aloadN X224 H d4_39 rfl) ?_
  refine OwnG.st (y_aloadN X224 H d4_40 rfl) ?_
  refine OwnG.v2 44 (putF X224 hx hZ hown (host := "") (Or.inl (ww hw 47 rfl)) Via.refl e224 f234 f225 (Or.inr ⟨(ww hw 48 rfl), rfl, hnm⟩) (ww hw 9 rfl) (ty := (.object "com/example/deft_nets/deftnets/MemoryBudget")) (by decide) rfl rfl (g := mkF m 41 _ _) rfl rfl (hb hby d4_41)) ?_
  intro T243 h243 X243 e243 W243
  have f244 := Exa.wr W243 f225
  have f245 := Fld.other W243 f226 (Or.inr (sn_86 hw))
  have f246 := Fld.other W243 f227 (Or.inr (sn_87 hw))
  have f247 := Fld.other W243 f228 (Or.inr (sn_88 hw))
  have f248 := Fld.other W243 f229 (Or.inr (sn_89 hw))
  have f249 := Fld.other W243 f230 (Or.inr (sn_90 hw))
  have f250 := Fld.other W243 Fw224 (Or.inr (sn_91 hw))
  have f251 := Fld.other W243 f231 (Or.inr (sn_92 hw))
  have f252 := Fld.other W243 f232 (Or.inr (sn_93 hw))
  have f253 := Fld.other W243 f233 (Or.inr (sn_94 hw))
  have f254 := Exa.wr W243 f235
  have f255 := Fld.other W243 f236 (Or.inl hne)
  have f256 := Fld.other W243 f237 (Or.inl hne)
  have f257 := f238.other W243 (Ne.symm ne53_54)
  have f258 := f239.other W243 (Ne.symm ne85_86)
  have f259 := f240.other W243 (Ne.symm ne120_121)
  have f260 := f241.other W243 (Ne.symm ne158_159)
  have f261 := f242.other W243 (Ne.symm ne199_200)
  have Fw243 : Fld Z h243 a1 "com/example/deft_nets/deftnets/MarkingStore" "mBudget" "Lcom/example/deft_nets/deftnets/MemoryBudget;" (.ref a2) := Fld.same W243 f234
  have N243 := Fr.snoc X243 N224 gb_a1
  have K243 : Keep h0 h243 [a1] := K224.wr W243 (Or.inl (by simp))
  have ge_b53 : LeA (kk) (b53) := Nat.le_trans hkz sz_b53
  have ge_b85 : LeA (kk) (b85) := Nat.le_trans hkz sz_b85
  have ge_b120 : LeA (kk) (b120) := Nat.le_trans hkz sz_b120
  have ge_b158 : LeA (kk) (b158) := Nat.le_trans hkz sz_b158
  have ge_b199 : LeA (kk) (b199) := Nat.le_trans hkz sz_b199
  have hSA : SA0 Z h243 kk a1 0 (fun _ => 0) := ⟨b53, (0 : Int32), b85, b120, b158, b199, (0 : Int32), (0 : Int64), (0 : Int32), a2, (0 : Int64), 0, (fun _ => 0), (fun _ => 0), (fun _ => 0), (fun _ => 0), ⟨f244, f245, f246, f247, f248, f249, f250, f251, f252, f253, Fw243⟩, ⟨f254, f255, f256⟩, f257, f258, f259, f260, f261, own_z0, own_z0, ⟨hne, (Ne.symm ne53_54), (Ne.symm ne53_55), (Ne.symm ne85_86), (Ne.symm ne85_87), (Ne.symm ne85_88), (Ne.symm ne120_121), (Ne.symm ne120_122), (Ne.symm ne120_123), (Ne.symm ne120_124), (Ne.symm ne158_159), (Ne.symm ne158_160), (Ne.symm ne158_161), (Ne.symm ne158_162), (Ne.symm ne158_163), (Ne.symm ne199_200), (Ne.symm ne199_201), (Ne.symm ne199_202), (Ne.symm ne199_203), (Ne.symm ne199_204), (Ne.symm ne199_205)⟩, ⟨ge_a1, ge_a2, ge_b53, ge_b85, ge_b120, ge_b158, ge_b199⟩, rfl, Nat.le_refl _, (by decide), rfl, rfl, rfl, (by decide), (by decide)⟩
  exact OwnG.retV X243 hx Bd.returns (BodyLoose.notSynchronized Bd) (hb hby d4_44) (by rw [e243]; exact ⟨rfl, N243, own_kb K243 (own_trS (P := fun x => kk ≤ x) ge_a1 own_tr0), hSA⟩) (by decide) (by decide)
theorem d23_0 : decode k23_ 0 = .ok (.aload_n 0, 1) := by decide +kernel
theorem d23_1 : decode k23_ 1 = .ok (.aload_n 1, 1) := by decide +kernel
theorem d23_2 : decode k23_ 2 = .ok (.putfield 1, 3) := by decide +kernel
theorem d23_5 : decode k23_ 5 = .ok (.aload_n 0, 1) := by decide +kernel
theorem d23_6 : decode k23_ 6 = .ok (.invokespecial 7, 3) := by decide +kernel
theorem d23_9 : decode k23_ 9 = .ok (.aload_n 0, 1) := by decide +kernel
theorem d23_10 : decode k23_ 10 = .ok (.ldc2_w 13, 3) := by decide +kernel
theorem d23_13 : decode k23_ 13 = .ok (.putfield 15, 3) := by decide +kernel
theorem d23_16 : decode k23_ 16 = .ok (.aload_n 0, 1) := by decide +kernel
theorem d23_17 : decode k23_ 17 = .ok (.aload_n 1, 1) := by decide +kernel
theorem d23_18 : decode k23_ 18 = .ok (.getfield 19, 3) := by decide +kernel
theorem d23_21 : decode k23_ 21 = .ok (.iload_n 2, 1) := by decide +kernel
theorem d23_22 : decode k23_ 22 = .ok (.iaload, 1) := by decide +kernel
theorem d23_23 : decode k23_ 23 = .ok (.putfield 25, 3) := by decide +kernel
theorem d23_26 : decode k23_ 26 = .ok (.aload_n 0, 1) := by decide +kernel
theorem d23_27 : decode k23_ 27 = .ok (.aload_n 1, 1) := by decide +kernel
theorem d23_28 : decode k23_ 28 = .ok (.getfield 19, 3) := by decide +kernel
theorem d23_31 : decode k23_ 31 = .ok (.iload_n 2, 1) := by decide +kernel
theorem d23_32 : decode k23_ 32 = .ok (.iconst 1, 1) := by decide +kernel
theorem d23_33 : decode k23_ 33 = .ok (.iadd, 1) := by decide +kernel
theorem d23_34 : decode k23_ 34 = .ok (.iaload, 1) := by decide +kernel
theorem d23_35 : decode k23_ 35 = .ok (.putfield 29, 3) := by decide +kernel
theorem d23_38 : decode k23_ 38 = .ok (.return_, 1) := by decide +kernel
theorem pn_23 : plainName "com/example/deft_nets/deftnets/MarkingStore$Entries" = true := by first | (simp [plainName, overriddenIn]; done) | decide +kernel
theorem ef_23 (m : MethodId) (a1 : Addr) (a2 : Addr) (p3 : Int32) : entryFrame m #[(.ref a1), (.ref a2), (.int p3)] 3 = mkF m 0 #[.val (.ref a1), .val (.ref a2), .val (.int p3)] [] := by first | (simp [entryFrame, mkF, argsToLocals, Value.category]; done) | rfl
def Q23 (Z : State) (a1 : Addr) (a2 : Addr) (p3 : Int32) (start : Addr) (nS : Nat) (gS : Nat → Int32) (h0 : Heap) (n0 : Nat) (v : Option Value) (h : Heap) (L : List Loc) : Prop := v = none ∧ Fr n0 L ∧ Keep h0 h [a1] ∧ EN Z h a1 a2 (-1 : Int64) (gS p3.toInt.toNat) (gS (p3 + (1 : Int32)).toInt.toNat) (0 : Int32)
set_option maxRecDepth 65536 in
set_option maxHeartbeats 40000000 in
theorem rm23 (l : Launch) (Z : State) (a0 : Array Value) (hw : HW a0 Z) (ws : List Jvm.Cond) (a1 : Addr) (a2 : Addr) (p3 : Int32) (start : Addr) (nS : Nat) (gS : Nat → Int32) (h0 : Heap) (n0 : Nat) (Z0 : n0 ≤ h0.size) (gb_a1 : n0 ≤ a1) (E_a1 : Exa Z h0 a1 "com/example/deft_nets/deftnets/MarkingStore$Entries") (D_this_0 : Fld Z h0 a1 "com/example/deft_nets/deftnets/MarkingStore$Entries" "this$0" "Lcom/example/deft_nets/deftnets/MarkingStore;" .null) (D_mPlace : Fld Z h0 a1 "com/example/deft_nets/deftnets/MarkingStore$Entries" "mPlace" "J" (.long (0 : Int64))) (D_mAt : Fld Z h0 a1 "com/example/deft_nets/deftnets/MarkingStore$Entries" "mAt" "I" (.int (0 : Int32))) (D_mEnd : Fld Z h0 a1 "com/example/deft_nets/deftnets/MarkingStore$Entries" "mEnd" "I" (.int (0 : Int32))) (D_mCount : Fld Z h0 a1 "com/example/deft_nets/deftnets/MarkingStore$Entries" "mCount" "I" (.int (0 : Int32))) (Fs : Fld Z h0 a2 "com/example/deft_nets/deftnets/MarkingStore" "mStart" "[I" (.ref start)) (A_s : OwnA Z h0 start .int nS (iv' gS)) (ne_2 : a2 ≠ a1) (ne_s : start ≠ a1) (h3 : 0 ≤ p3.toInt ∧ p3.toInt + 1 < nS) (hn : nS ≤ 100) :
    MetFree l mn_23 (head1 (Jvm.Cond.code mn_23 prog_32_method_1_code 3 none :: ws) ({ frames := 1, cells := 0, slots := 0, locals := 12 } : Room)) (fun a U => a = #[(.ref a1), (.ref a2), (.int p3)] ∧ Z.Warmed39 U.vm ∧ U.heap = h0) (fun _ _ _ _ _ => True) (fun _ U o U' => ∃ v L, o = .returned v ∧ Q23 Z a1 a2 p3 start nS gS h0 n0 v U'.heap L ∧ FrameEnd U o U' L ({ frames := 1, cells := 0, slots := 0, locals := 12 } : Room).cells ({ frames := 1, cells := 0, slots := 0, locals := 12 } : Room).slots) := by
  refine MetFree.of_bodySF (plainFor_of_name pn_23) hisR ?_
  intro p e s m args below meth c s₁ Bd hml0 hP hK
  obtain ⟨rfl, hZ, hh⟩ := hP
  have hx := Bd.exec
  have hby := Bd.bytes
  have H := And.intro hx hby
  have hml : c.maxLocals = 3 := hml0
  have hown : s.vm.findClass "com/example/deft_nets/deftnets/MarkingStore$Entries" = some m.cls := findClass_of_methodNamed Bd.named
  have hnm := (name_of_methodNamed Bd.named Bd.method).1
  have X0 : Stand p l e ({ frames := 1, cells := 0, slots := 0, locals := 12 } : Room) s m #[(.ref a1), (.ref a2), (.int p3)] below meth c s₁ [] 0 0 := Stand.of_body Bd
  have e0 : s₁.heap = h0 := by rw [← hh, Bd.state]; rfl
  have N0 := Fr.nil n0
  suffices hG : OwnG p e below s (Q23 Z a1 a2 p3 start nS gS h0 n0) ({ frames := 1, cells := 0, slots := 0, locals := 12 } : Room).cells ({ frames := 1, cells := 0, slots := 0, locals := 12 } : Room).slots s₁ (mkF m 0 #[.val (.ref a1), .val (.ref a2), .val (.int p3)] []) by
    obtain ⟨s2, o2, g1, g2⟩ := hG
    exact ⟨s2, o2, castTop (ef_23 m a1 a2 p3) g1, g2⟩
  have w1 : (1 : Int32).toInt = 1 := rfl
  have hp1 := x_iadd p3 1 (by omega)
  refine OwnG.st (y_aloadN X0 H d23_0 rfl) ?_
  refine OwnG.st (y_aloadN X0 H d23_1 rfl) ?_
  refine OwnG.v2 5 (putF X0 hx hZ hown (host := "") (Or.inl (ww hw 155 rfl)) Via.refl e0 D_this_0 E_a1 (Or.inr ⟨(ww hw 156 rfl), rfl, hnm⟩) (ww hw 150 rfl) (ty := (.object "com/example/deft_nets/deftnets/MarkingStore")) (by decide) rfl rfl (g := mkF m 2 _ _) rfl rfl (hb hby d23_2)) ?_
  intro T51 h51 X51 e51 W51
  have f52 := Exa.wr W51 E_a1
  have f53 := Fld.other W51 D_mPlace (Or.inr (sn_95 hw))
  have f54 := Fld.other W51 D_mAt (Or.inr (sn_96 hw))
  have f55 := Fld.other W51 D_mEnd (Or.inr (sn_97 hw))
  have f56 := Fld.other W51 D_mCount (Or.inr (sn_98 hw))
  have f57 := Fld.other W51 Fs (Or.inl ne_2)
  have f58 := A_s.other W51 ne_s
  have Fw51 : Fld Z h51 a1 "com/example/deft_nets/deftnets/MarkingStore$Entries" "this$0" "Lcom/example/deft_nets/deftnets/MarkingStore;" (.ref a2) := Fld.same W51 D_this_0
  have N51 := Fr.snoc X51 N0 gb_a1
  have K51 : Keep h0 h51 [a1] := (Keep.refl h0 [a1]).wr W51 (Or.inl (List.mem_of_getElem? (i := 0) rfl))
  refine OwnG.st (y_aloadN X51 H d23_5 rfl) ?_
  refine OwnG.v1 9 (initO X51 hx hZ hown (ww hw 157 rfl) (ww hw 27 rfl) (ww hw 28 rfl) e51 (g := mkF m 6 _ _) rfl (by rw [hml]; rfl) rfl (hb hby d23_6) (by decide) (W := 0) (by show 2 * 0 + _ ≤ _; exact Nat.le_of_eq rfl) (by decide)) ?_
  intro T59 X59 e59
  refine OwnG.st (y_aloadN X59 H d23_9 rfl) ?_
  refine OwnG.st (y_ldc2 X59 H hown (mvT hZ (ww hw 158 rfl)) d23_10) ?_
  refine OwnG.v2 16 (putF X59 hx hZ hown (host := "") (Or.inl (ww hw 159 rfl)) Via.refl e59 f53 f52 (Or.inl (ww hw 160 rfl)) (ww hw 150 rfl) (ty := .long) (by decide) rfl rfl (g := mkF m 13 _ _) rfl rfl (hb hby d23_13)) ?_
  intro T60 h60 X60 e60 W60
  have f61 := Exa.wr W60 f52
  have f62 := Fld.other W60 Fw51 (Or.inr (sn_99 hw))
  have f63 := Fld.other W60 f54 (Or.inr (sn_100 hw))
  have f64 := Fld.other W60 f55 (Or.inr (sn_101 hw))
  have f65 := Fld.other W60 f56 (Or.inr (sn_102 hw))
  have f66 := Fld.other W60 f57 (Or.inl ne_2)
  have f67 := f58.other W60 ne_s
  have Fw60 : Fld Z h60 a1 "com/example/deft_nets/deftnets/MarkingStore$Entries" "mPlace" "J" (.long (-1 : Int64)) := Fld.same W60 f53
  have N60 := Fr.snoc X60 N51 gb_a1
  have K60 : Keep h0 h60 [a1] := K51.wr W60 (Or.inl (List.mem_of_getElem? (i := 0) rfl))
  refine OwnG.st (y_aloadN X60 H d23_16 rfl) ?_
  refine OwnG.st (y_aloadN X60 H d23_17 rfl) ?_
  refine OwnG.v1 21 (getF X60 hx hZ hown (Or.inr (ww hw 161 rfl)) Via.refl e60 f66 (g := mkF m 18 _ _) rfl rfl (hb hby d23_18)) ?_
  intro T68 X68 e68
  refine OwnG.st (y_iloadN X68 H d23_21 rfl) ?_
  refine OwnG.st (y_ldI f67 X68 H hZ e68 (by omega) (by omega) d23_22 (gS p3.toInt.toNat) rfl) ?_
  refine OwnG.v2 26 (putF X68 hx hZ hown (host := "") (Or.inl (ww hw 162 rfl)) Via.refl e68 f63 f61 (Or.inl (ww hw 163 rfl)) (ww hw 150 rfl) (ty := .int) (by decide) rfl rfl (g := mkF m 23 _ _) rfl rfl (hb hby d23_23)) ?_
  intro T69 h69 X69 e69 W69
  have f70 := Exa.wr W69 f61
  have f71 := Fld.other W69 f62 (Or.inr (sn_103 hw))
  have f72 := Fld.other W69 Fw60 (Or.inr (sn_104 hw))
  have f73 := Fld.other W69 f64 (Or.inr (sn_105 hw))
  have f74 := Fld.other W69 f65 (Or.inr (sn_106 hw))
  have f75 := Fld.other W69 f66 (Or.inl ne_2)
  have f76 := f67.other W69 ne_s
  have Fw69 : Fld Z h69 a1 "com/example/deft_nets/deftnets/MarkingStore$Entries" "mAt" "I" (.int (gS p3.toInt.toNat)) := Fld.same W69 f63
  have N69 := Fr.snoc X69 N60 gb_a1
  have K69 : Keep h0 h69 [a1] := K60.wr W69 (Or.inl (List.mem_of_getElem? (i := 0) rfl))
  refine OwnG.st (y_aloadN X69 H d23_26 rfl) ?_
  refine OwnG.st (y_aloadN X69 H d23_27 rfl) ?_
  refine OwnG.v1 31 (getF X69 hx hZ hown (Or.inr (ww hw 161 rfl)) Via.refl e69 f75 (g := mkF m 28 _ _) rfl rfl (hb hby d23_28)) ?_
  intro T77 X77 e77
  refine OwnG.st (y_iloadN X77 H d23_31 rfl) ?_
  refine OwnG.st (y_iconst X77 H (1) d23_32 rfl) ?_
  refine OwnG.st (y_iadd X77 H d23_33) ?_
  refine OwnG.st (y_ldI f76 X77 H hZ e77 (by omega) (by omega) d23_34 (gS (p3 + (1 : Int32)).toInt.toNat) rfl) ?_
  refine OwnG.v2 38 (putF X77 hx hZ hown (host := "") (Or.inl (ww hw 164 rfl)) Via.refl e77 f73 f70 (Or.inr ⟨(ww hw 165 rfl), rfl, hnm⟩) (ww hw 150 rfl) (ty := .int) (by decide) rfl rfl (g := mkF m 35 _ _) rfl rfl (hb hby d23_35)) ?_
  intro T78 h78 X78 e78 W78
  have f79 := Exa.wr W78 f70
  have f80 := Fld.other W78 f71 (Or.inr (sn_107 hw))
  have f81 := Fld.other W78 f72 (Or.inr (sn_108 hw))
  have f82 := Fld.other W78 Fw69 (Or.inr (sn_109 hw))
  have f83 := Fld.other W78 f74 (Or.inr (sn_110 hw))
  have Fw78 : Fld Z h78 a1 "com/example/deft_nets/deftnets/MarkingStore$Entries" "mEnd" "I" (.int (gS (p3 + (1 : Int32)).toInt.toNat)) := Fld.same W78 f73
  have N78 := Fr.snoc X78 N69 gb_a1
  have K78 : Keep h0 h78 [a1] := K69.wr W78 (Or.inl (List.mem_of_getElem? (i := 0) rfl))
  exact OwnG.retV X78 hx Bd.returns (BodyLoose.notSynchronized Bd) (hb hby d23_38) (by rw [e78]; exact ⟨rfl, N78, K78, ⟨f79, f80, f81, f82, Fw78, f83⟩⟩) (by decide) (by decide)
theorem own_o1 (n : Nat) : Int32.ofNat n + (1 : Int32) = Int32.ofNat (n + 1) := by rw [Int32.ofNat_add]; rfl
theorem own_one (a b : Nat) (h : a < b) (hb : b ≤ 1000) : ¬ Int32.ofNat a = Int32.ofNat b := fun q => by
  have w := congrArg Int32.toInt q
  rw [own_i32 a (by omega), own_i32 b (by omega)] at w
  omega
theorem own_c3 (c : Int32) : c.toInt64.toInt32 = c := by
  rw [← Int32.toInt_inj]
  have a := c_i2l c
  have r := rng32 c
  rw [x_l2i c.toInt64 (by omega), a]
theorem d25_0 : decode k25_ 0 = .ok (.lconst 0, 1) := by decide +kernel
theorem d25_1 : decode k25_ 1 = .ok (.lstore_n 1, 1) := by decide +kernel
theorem d25_2 : decode k25_ 2 = .ok (.iconst 0, 1) := by decide +kernel
theorem d25_3 : decode k25_ 3 = .ok (.istore_n 3, 1) := by decide +kernel
theorem d25_4 : decode k25_ 4 = .ok (.aload_n 0, 1) := by decide +kernel
theorem d25_5 : decode k25_ 5 = .ok (.getfield 1, 3) := by decide +kernel
theorem d25_8 : decode k25_ 8 = .ok (.getfield 39, 3) := by decide +kernel
theorem d25_11 : decode k25_ 11 = .ok (.aload_n 0, 1) := by decide +kernel
theorem d25_12 : decode k25_ 12 = .ok (.dup, 1) := by decide +kernel
theorem d25_13 : decode k25_ 13 = .ok (.getfield 25, 3) := by decide +kernel
theorem d25_16 : decode k25_ 16 = .ok (.dup_x1, 1) := by decide +kernel
theorem d25_17 : decode k25_ 17 = .ok (.iconst 1, 1) := by decide +kernel
theorem d25_18 : decode k25_ 18 = .ok (.iadd, 1) := by decide +kernel
theorem d25_19 : decode k25_ 19 = .ok (.putfield 25, 3) := by decide +kernel
theorem d25_22 : decode k25_ 22 = .ok (.baload, 1) := by decide +kernel
theorem d25_23 : decode k25_ 23 = .ok (.istore 4, 2) := by decide +kernel
theorem d25_25 : decode k25_ 25 = .ok (.lload_n 1, 1) := by decide +kernel
theorem d25_26 : decode k25_ 26 = .ok (.iload 4, 2) := by decide +kernel
theorem d25_28 : decode k25_ 28 = .ok (.bipush 127, 2) := by decide +kernel
theorem d25_30 : decode k25_ 30 = .ok (.iand, 1) := by decide +kernel
theorem d25_31 : decode k25_ 31 = .ok (.i2l, 1) := by decide +kernel
theorem d25_32 : decode k25_ 32 = .ok (.iload_n 3, 1) := by decide +kernel
theorem d25_33 : decode k25_ 33 = .ok (.lshl, 1) := by decide +kernel
theorem d25_34 : decode k25_ 34 = .ok (.lor, 1) := by decide +kernel
theorem d25_35 : decode k25_ 35 = .ok (.lstore_n 1, 1) := by decide +kernel
theorem d25_36 : decode k25_ 36 = .ok (.iload 4, 2) := by decide +kernel
theorem d25_38 : decode k25_ 38 = .ok (.ifCond .lt 5, 3) := by decide +kernel
theorem d25_41 : decode k25_ 41 = .ok (.lload_n 1, 1) := by decide +kernel
theorem d25_42 : decode k25_ 42 = .ok (.lreturn, 1) := by decide +kernel
theorem d25_43 : decode k25_ 43 = .ok (.iinc 3 7, 3) := by decide +kernel
theorem d25_46 : decode k25_ 46 = .ok (.goto (-42), 3) := by decide +kernel
theorem pn_25 : plainName "com/example/deft_nets/deftnets/MarkingStore$Entries" = true := by first | (simp [plainName, overriddenIn]; done) | decide +kernel
theorem ef_25 (m : MethodId) (a1 : Addr) : entryFrame m #[(.ref a1)] 5 = mkF m 0 #[.val (.ref a1), .unset, .unset, .unset, .unset] [] := by first | (simp [entryFrame, mkF, argsToLocals, Value.category]; done) | rfl
def Q25 (Z : State) (a1 : Addr) (ms : Addr) (place : Int64) (a : Nat) (end_ cnt : Int32) (pool : Addr) (nP : Nat) (gP : Nat → Int32) (M : Nat) (vv : Int64) (h0 : Heap) (n0 : Nat) (v : Option Value) (h : Heap) (L : List Loc) : Prop := v = some (.long vv) ∧ Fr n0 L ∧ Keep h0 h [a1] ∧ EN Z h a1 ms place (Int32.ofNat (a + M)) end_ cnt
set_option maxRecDepth 65536 in
set_option maxHeartbeats 40000000 in
theorem rm25 (l : Launch) (Z : State) (a0 : Array Value) (hw : HW a0 Z) (ws : List Jvm.Cond) (a1 : Addr) (ms : Addr) (place : Int64) (a : Nat) (end_ cnt : Int32) (pool : Addr) (nP : Nat) (gP : Nat → Int32) (M : Nat) (vv : Int64) (h0 : Heap) (n0 : Nat) (Z0 : n0 ≤ h0.size) (gb_a1 : n0 ≤ a1) (hEN : EN Z h0 a1 ms place (Int32.ofNat a) end_ cnt) (Fp : Fld Z h0 ms "com/example/deft_nets/deftnets/MarkingStore" "mPool" "[B" (.ref pool)) (A_p : OwnA Z h0 pool .byte nP (iv' gP)) (ne_m : ms ≠ a1) (ne_p : pool ≠ a1) (hnP : nP ≤ 100) (hN : Num gP a M vv) (hbd : a + M ≤ nP) :
    MetFree l mn_25 (head1 (Jvm.Cond.code mn_25 prog_32_method_3_code 5 (some .long) :: ws) ({ frames := 0, cells := 0, slots := 0, locals := 0 } : Room)) (fun a U => a = #[(.ref a1)] ∧ Z.Warmed39 U.vm ∧ U.heap = h0) (fun _ _ _ _ _ => True) (fun _ U o U' => ∃ v L, o = .returned v ∧ Q25 Z a1 ms place a end_ cnt pool nP gP M vv h0 n0 v U'.heap L ∧ FrameEnd U o U' L ({ frames := 0, cells := 0, slots := 0, locals := 0 } : Room).cells ({ frames := 0, cells := 0, slots := 0, locals := 0 } : Room).slots) := by
  refine MetFree.of_bodySF (plainFor_of_name pn_25) hisR ?_
  intro p e s m args below meth c s₁ Bd hml0 hP hK
  obtain ⟨rfl, hZ, hh⟩ := hP
  have hx := Bd.exec
  have hby := Bd.bytes
  have H := And.intro hx hby
  have hml : c.maxLocals = 5 := hml0
  have hown : s.vm.findClass "com/example/deft_nets/deftnets/MarkingStore$Entries" = some m.cls := findClass_of_methodNamed Bd.named
  have hnm := (name_of_methodNamed Bd.named Bd.method).1
  have X0 : Stand p l e ({ frames := 0, cells := 0, slots := 0, locals := 0 } : Room) s m #[(.ref a1)] below meth c s₁ [] 0 0 := Stand.of_body Bd
  have e0 : s₁.heap = h0 := by rw [← hh, Bd.state]; rfl
  have N0 := Fr.nil n0
  suffices hG : OwnG p e below s (Q25 Z a1 ms place a end_ cnt pool nP gP M vv h0 n0) ({ frames := 0, cells := 0, slots := 0, locals := 0 } : Room).cells ({ frames := 0, cells := 0, slots := 0, locals := 0 } : Room).slots s₁ (mkF m 0 #[.val (.ref a1), .unset, .unset, .unset, .unset] []) by
    obtain ⟨s2, o2, g1, g2⟩ := hG
    exact ⟨s2, o2, castTop (ef_25 m a1) g1, g2⟩
  obtain ⟨hM, hneg, hpos, hacc⟩ := hN
  refine OwnG.st (y_lconst X0 H 0 d25_0 rfl) ?_
  refine OwnG.st (y_lstoreN X0 H #[.val (.ref a1), .val (.long (0 : Int64)), .second, .unset, .unset] d25_1 rfl) ?_
  refine OwnG.st (y_iconst X0 H (0) d25_2 rfl) ?_
  refine OwnG.st (y_istoreN X0 H #[.val (.ref a1), .val (.long (0 : Int64)), .second, .val (.int (0 : Int32)), .unset] d25_3 rfl) ?_
  have lp51 : ∀ (k : Nat) (T : State) (lc : List Loc) (hh : Heap) (j : Nat) (r2 : Int64) (s4 : Int32) (l5 : Slot) (X : Stand p l e ({ frames := 0, cells := 0, slots := 0, locals := 0 } : Room) s m #[(.ref a1)] below meth c T lc 0 0) (eT : T.heap = hh) (N : Fr n0 lc) (Hx : EN Z hh a1 ms place (Int32.ofNat (a + j)) end_ cnt) (Hf : Fld Z hh ms "com/example/deft_nets/deftnets/MarkingStore" "mPool" "[B" (.ref pool)) (Ha : OwnA Z hh pool .byte nP (iv' gP)) (Hk : Keep h0 hh [a1]) (Hz : n0 ≤ hh.size) (hI : r2 = own_acc gP a j) (hsh : s4 = Int32.ofNat (7 * j)) (hj : j < M) (hl5 : One l5), M - j = k → OwnG p e below s (Q25 Z a1 ms place a end_ cnt pool nP gP M vv h0 n0) ({ frames := 0, cells := 0, slots := 0, locals := 0 } : Room).cells ({ frames := 0, cells := 0, slots := 0, locals := 0 } : Room).slots T (mkF m 4 #[.val (.ref a1), .val (.long r2), .second, .val (.int s4), l5] []) := by
    intro k
    induction k using Nat.strongRecOn with
    | _ k ih =>
      intro T lc hh j r2 s4 l5 X eT N Hx Hf Ha Hk Hz hI hsh hj hl5 hk
      obtain ⟨EEN_52, FEN0_52, FEN1_52, FEN2_52, FEN3_52, FEN4_52⟩ := Hx
      have hai := own_i32 (a + j) (by omega)
      have han : (Int32.ofNat (a + j)).toInt.toNat = a + j := by omega
      refine OwnG.st (y_aloadN X H d25_4 rfl) ?_
      refine OwnG.v1 8 (getF X hx hZ hown (host := "") (Or.inl (ww hw 155 rfl)) Via.refl eT FEN0_52 (g := mkF m 5 _ _) rfl rfl (hb hby d25_5)) ?_
      intro T53 X53 e53
      refine OwnG.v1 11 (getF X53 hx hZ hown (Or.inr (ww hw 175 rfl)) Via.refl e53 Hf (g := mkF m 8 _ _) rfl rfl (hb hby d25_8)) ?_
      intro T54 X54 e54
      refine OwnG.st (y_aloadN X54 H d25_11 rfl) ?_
      refine OwnG.st (y_dup X54 H d25_12 rfl) ?_
      refine OwnG.v1 16 (getF X54 hx hZ hown (host := "") (Or.inl (ww hw 162 rfl)) Via.refl e54 FEN2_52 (g := mkF m 13 _ _) rfl rfl (hb hby d25_13)) ?_
      intro T55 X55 e55
      refine OwnG.st (y_dup_x1 X55 H d25_16 rfl rfl) ?_
      refine OwnG.st (y_iconst X55 H (1) d25_17 rfl) ?_
      refine OwnG.st (y_iadd X55 H d25_18) ?_
      refine OwnG.v2 22 (putF X55 hx hZ hown (host := "") (Or.inl (ww hw 162 rfl)) Via.refl e55 FEN2_52 EEN_52 (Or.inl (ww hw 163 rfl)) (ww hw 150 rfl) (ty := .int) (by decide) rfl rfl (g := mkF m 19 _ _) rfl rfl (hb hby d25_19)) ?_
      intro T56 h56 X56 e56 W56
      have f57 := Fld.other W56 Hf (Or.inl ne_m)
      have f58 := Ha.other W56 ne_p
      have f59 := Exa.wr W56 EEN_52
      have f60 := Fld.other W56 FEN0_52 (Or.inr (sn_103 hw))
      have f61 := Fld.other W56 FEN1_52 (Or.inr (sn_104 hw))
      have f62 := Fld.other W56 FEN3_52 (Or.inr (sn_105 hw))
      have f63 := Fld.other W56 FEN4_52 (Or.inr (sn_106 hw))
      have Fw56 : Fld Z h56 a1 "com/example/deft_nets/deftnets/MarkingStore$Entries" "mAt" "I" (.int ((Int32.ofNat (a + j)) + (1 : Int32))) := Fld.same W56 FEN2_52
      have N56 := Fr.snoc X56 N gb_a1
      have Z56 : LeA (n0) (h56.size) := by rw [W56.size]; exact Hz
      have K56 : Keep h0 h56 [a1] := Hk.wr W56 (Or.inl (List.mem_of_getElem? (i := 0) rfl))
      refine OwnG.st (y_ldB f58 X56 H hZ e56 (by omega) (by omega) d25_22 (gP (Int32.ofNat (a + j)).toInt.toNat) rfl) ?_
      refine OwnG.st (y_istoreS X56 H #[.val (.ref a1), .val (.long r2), .second, .val (.int s4), .val (.int (gP (Int32.ofNat (a + j)).toInt.toNat))] d25_23 rfl hl5 rfl) ?_
      refine OwnG.st (y_lloadN X56 H d25_25 rfl) ?_
      refine OwnG.st (y_iload X56 H d25_26 rfl) ?_
      refine OwnG.st (y_bipush X56 H (127) d25_28 rfl) ?_
      refine OwnG.st (y_iand X56 H d25_30) ?_
      refine OwnG.st (y_i2l X56 H d25_31) ?_
      refine OwnG.st (y_iloadN X56 H d25_32 rfl) ?_
      refine OwnG.st (y_lshl X56 H d25_33) ?_
      refine OwnG.st (y_lor X56 H d25_34) ?_
      refine OwnG.st (y_lstoreN X56 H #[.val (.ref a1), .val (.long (r2 ||| ((((gP (Int32.ofNat (a + j)).toInt.toNat) &&& (127 : Int32)).toInt64) <<< (s4 &&& 0x3f).toInt64))), .second, .val (.int s4), .val (.int (gP (Int32.ofNat (a + j)).toInt.toNat))] d25_35 rfl) ?_
      refine OwnG.st (y_iload X56 H d25_36 rfl) ?_
      by_cases hc38_64 : (gP (Int32.ofNat (a + j)).toInt.toNat) < (0 : Int32)
      · refine OwnG.st (y_ifY X56 H 43 d25_38 ((if0 _ _).trans (tlt hc38_64).1) (by decide) (by decide)) ?_
        refine OwnG.st (y_iinc X56 H #[.val (.ref a1), .val (.long (r2 ||| ((((gP (Int32.ofNat (a + j)).toInt.toNat) &&& (127 : Int32)).toInt64) <<< (s4 &&& 0x3f).toInt64))), .second, .val (.int (s4 + (7 : Int32))), .val (.int (gP (Int32.ofNat (a + j)).toInt.toNat))] d25_43 rfl rfl) ?_
        refine OwnG.st (y_goto X56 H 4 d25_46 (by decide) (by decide)) ?_
        have hj1 : j + 1 < M := by
          rcases Nat.lt_or_ge (j + 1) M with q | q
          · exact q
          · exact absurd hc38_64 (by rw [han, show a + j = a + (M - 1) by omega]; exact hpos)
        have hEN' : EN Z h56 a1 ms place (Int32.ofNat (a + (j + 1))) end_ cnt := by
          have q : EN Z h56 a1 ms place (Int32.ofNat (a + j) + (1 : Int32)) end_ cnt := ⟨f59, f60, f61, Fw56, f62, f63⟩
          rw [own_o1] at q; exact q
        exact ih _ (by rw [← hk]; omega) T56 _ h56 (j + 1) _ _ (.val (.int _)) X56 e56 N56 hEN' f57 f58 K56 Z56 (by rw [own_as, ← hI, ← hsh, han]) (by rw [hsh]; exact own_s7 j (by omega)) hj1 (One.val rfl) rfl
      · refine OwnG.st (y_ifN X56 H d25_38 ((if0 _ _).trans (flt hc38_64).1)) ?_
        refine OwnG.st (y_lloadN X56 H d25_41 rfl) ?_
        have hjN : j + 1 = M := by
          rcases Nat.lt_or_ge (j + 1) M with q | q
          · exact absurd (hneg j q) (by rw [← han]; exact hc38_64)
          · omega
        have hv : (r2 ||| ((((gP (Int32.ofNat (a + j)).toInt.toNat) &&& (127 : Int32)).toInt64) <<< (s4 &&& 0x3f).toInt64)) = vv := by rw [← hacc, ← hjN, own_as, ← hI, ← hsh, han]
        have hEN' : EN Z h56 a1 ms place (Int32.ofNat (a + M)) end_ cnt := by
          have q : EN Z h56 a1 ms place (Int32.ofNat (a + j) + (1 : Int32)) end_ cnt := ⟨f59, f60, f61, Fw56, f62, f63⟩
          rw [own_o1, show a + j + 1 = a + M by omega] at q; exact q
        exact OwnG.retJ X56 hx Bd.returns (BodyLoose.notSynchronized Bd) (hb hby d25_42) (by rw [e56]; exact ⟨congrArg (fun w => some (Value.long w)) hv, N56, K56, hEN'⟩) (by decide) (by decide)
  exact lp51 _ s₁ _  h0 0 _ _ _ X0 e0 N0 hEN Fp A_p (Keep.refl h0 [a1]) Z0 rfl rfl (by omega) One.u  rfl
theorem d24_0 : decode k24_ 0 = .ok (.aload_n 0, 1) := by decide +kernel
theorem d24_1 : decode k24_ 1 = .ok (.getfield 25, 3) := by decide +kernel
theorem d24_4 : decode k24_ 4 = .ok (.aload_n 0, 1) := by decide +kernel
theorem d24_5 : decode k24_ 5 = .ok (.getfield 29, 3) := by decide +kernel
theorem d24_8 : decode k24_ 8 = .ok (.if_icmp .ne 5, 3) := by decide +kernel
theorem d24_11 : decode k24_ 11 = .ok (.iconst 0, 1) := by decide +kernel
theorem d24_12 : decode k24_ 12 = .ok (.ireturn, 1) := by decide +kernel
theorem pn_24 : plainName "com/example/deft_nets/deftnets/MarkingStore$Entries" = true := by first | (simp [plainName, overriddenIn]; done) | decide +kernel
theorem ef_24 (m : MethodId) (a1 : Addr) : entryFrame m #[(.ref a1)] 3 = mkF m 0 #[.val (.ref a1), .unset, .unset] [] := by first | (simp [entryFrame, mkF, argsToLocals, Value.category]; done) | rfl
def Q24E (Z : State) (a1 : Addr) (ms : Addr) (place : Int64) (a : Nat) (end_ cnt : Int32) (pool : Addr) (nP : Nat) (gP : Nat → Int32) (h0 : Heap) (n0 : Nat) (v : Option Value) (h : Heap) (L : List Loc) : Prop := v = some (.int 0) ∧ Fr n0 L ∧ h = h0
set_option maxRecDepth 65536 in
set_option maxHeartbeats 40000000 in
theorem rm24E (l : Launch) (Z : State) (a0 : Array Value) (hw : HW a0 Z) (ws : List Jvm.Cond) (a1 : Addr) (ms : Addr) (place : Int64) (a : Nat) (end_ cnt : Int32) (pool : Addr) (nP : Nat) (gP : Nat → Int32) (h0 : Heap) (n0 : Nat) (Z0 : n0 ≤ h0.size) (gb_a1 : n0 ≤ a1) (hEN : EN Z h0 a1 ms place (Int32.ofNat a) end_ cnt) (Fp : Fld Z h0 ms "com/example/deft_nets/deftnets/MarkingStore" "mPool" "[B" (.ref pool)) (A_p : OwnA Z h0 pool .byte nP (iv' gP)) (ne_m : ms ≠ a1) (ne_p : pool ≠ a1) (hnP : nP ≤ 100) (hend : Int32.ofNat a = end_) :
    MetFree l mn_24 (head1 (Jvm.Cond.code mn_24 prog_32_method_2_code 3 (some .boolean) :: ws) ({ frames := 0, cells := 0, slots := 0, locals := 0 } : Room)) (fun a U => a = #[(.ref a1)] ∧ Z.Warmed39 U.vm ∧ U.heap = h0) (fun _ _ _ _ _ => True) (fun _ U o U' => ∃ v L, o = .returned v ∧ Q24E Z a1 ms place a end_ cnt pool nP gP h0 n0 v U'.heap L ∧ FrameEnd U o U' L ({ frames := 0, cells := 0, slots := 0, locals := 0 } : Room).cells ({ frames := 0, cells := 0, slots := 0, locals := 0 } : Room).slots) := by
  refine MetFree.of_bodySF (plainFor_of_name pn_24) hisR ?_
  intro p e s m args below meth c s₁ Bd hml0 hP hK
  obtain ⟨rfl, hZ, hh⟩ := hP
  have hx := Bd.exec
  have hby := Bd.bytes
  have H := And.intro hx hby
  have hml : c.maxLocals = 3 := hml0
  have hown : s.vm.findClass "com/example/deft_nets/deftnets/MarkingStore$Entries" = some m.cls := findClass_of_methodNamed Bd.named
  have hnm := (name_of_methodNamed Bd.named Bd.method).1
  have X0 : Stand p l e ({ frames := 0, cells := 0, slots := 0, locals := 0 } : Room) s m #[(.ref a1)] below meth c s₁ [] 0 0 := Stand.of_body Bd
  have e0 : s₁.heap = h0 := by rw [← hh, Bd.state]; rfl
  have N0 := Fr.nil n0
  suffices hG : OwnG p e below s (Q24E Z a1 ms place a end_ cnt pool nP gP h0 n0) ({ frames := 0, cells := 0, slots := 0, locals := 0 } : Room).cells ({ frames := 0, cells := 0, slots := 0, locals := 0 } : Room).slots s₁ (mkF m 0 #[.val (.ref a1), .unset, .unset] []) by
    obtain ⟨s2, o2, g1, g2⟩ := hG
    exact ⟨s2, o2, castTop (ef_24 m a1) g1, g2⟩
  obtain ⟨EEN_51, FEN0_51, FEN1_51, FEN2_51, FEN3_51, FEN4_51⟩ := hEN
  refine OwnG.st (y_aloadN X0 H d24_0 rfl) ?_
  refine OwnG.v1 4 (getF X0 hx hZ hown (host := "") (Or.inl (ww hw 162 rfl)) Via.refl e0 FEN2_51 (g := mkF m 1 _ _) rfl rfl (hb hby d24_1)) ?_
  intro T52 X52 e52
  refine OwnG.st (y_aloadN X52 H d24_4 rfl) ?_
  refine OwnG.v1 8 (getF X52 hx hZ hown (host := "") (Or.inl (ww hw 164 rfl)) Via.refl e52 FEN3_51 (g := mkF m 5 _ _) rfl rfl (hb hby d24_5)) ?_
  intro T53 X53 e53
  have hc8_54 : (Int32.ofNat a) = end_ := hend
  refine OwnG.st (y_icN X53 H d24_8 (teq hc8_54).2) ?_
  refine OwnG.st (y_iconst X53 H (0) d24_11 rfl) ?_
  exact OwnG.retN X53 hx (t := .boolean) (by simp) Bd.returns (BodyLoose.notSynchronized Bd) (hb hby d24_12) (by rw [e53]; exact ⟨rfl, N0, rfl⟩) (by decide) (by decide)
theorem d24_13 : decode k24_ 13 = .ok (.aload_n 0, 1) := by decide +kernel
theorem d24_14 : decode k24_ 14 = .ok (.invokevirtual 32, 3) := by decide +kernel
theorem d24_17 : decode k24_ 17 = .ok (.lstore_n 1, 1) := by decide +kernel
theorem d24_18 : decode k24_ 18 = .ok (.aload_n 0, 1) := by decide +kernel
theorem d24_19 : decode k24_ 19 = .ok (.dup, 1) := by decide +kernel
theorem d24_20 : decode k24_ 20 = .ok (.getfield 15, 3) := by decide +kernel
theorem d24_23 : decode k24_ 23 = .ok (.lconst 1, 1) := by decide +kernel
theorem d24_24 : decode k24_ 24 = .ok (.lload_n 1, 1) := by decide +kernel
theorem d24_25 : decode k24_ 25 = .ok (.iconst 1, 1) := by decide +kernel
theorem d24_26 : decode k24_ 26 = .ok (.lushr, 1) := by decide +kernel
theorem d24_27 : decode k24_ 27 = .ok (.ladd, 1) := by decide +kernel
theorem d24_28 : decode k24_ 28 = .ok (.ladd, 1) := by decide +kernel
theorem d24_29 : decode k24_ 29 = .ok (.putfield 15, 3) := by decide +kernel
theorem d24_32 : decode k24_ 32 = .ok (.aload_n 0, 1) := by decide +kernel
theorem d24_33 : decode k24_ 33 = .ok (.lload_n 1, 1) := by decide +kernel
theorem d24_34 : decode k24_ 34 = .ok (.lconst 1, 1) := by decide +kernel
theorem d24_35 : decode k24_ 35 = .ok (.land, 1) := by decide +kernel
theorem d24_36 : decode k24_ 36 = .ok (.lconst 0, 1) := by decide +kernel
theorem d24_37 : decode k24_ 37 = .ok (.lcmp, 1) := by decide +kernel
theorem d24_38 : decode k24_ 38 = .ok (.ifCond .ne 7, 3) := by decide +kernel
theorem d24_41 : decode k24_ 41 = .ok (.iconst 1, 1) := by decide +kernel
theorem d24_42 : decode k24_ 42 = .ok (.goto 8, 3) := by decide +kernel
theorem d24_45 : decode k24_ 45 = .ok (.aload_n 0, 1) := by decide +kernel
theorem d24_46 : decode k24_ 46 = .ok (.invokevirtual 32, 3) := by decide +kernel
theorem d24_49 : decode k24_ 49 = .ok (.l2i, 1) := by decide +kernel
theorem d24_50 : decode k24_ 50 = .ok (.putfield 36, 3) := by decide +kernel
theorem d24_53 : decode k24_ 53 = .ok (.iconst 1, 1) := by decide +kernel
theorem d24_54 : decode k24_ 54 = .ok (.ireturn, 1) := by decide +kernel
theorem pd_24X_0 : parseMethodDescriptor "()J" = some ⟨[], some .long⟩ := by decide +kernel
def Q24X (Z : State) (a1 : Addr) (ms : Addr) (place : Int64) (a : Nat) (end_ cnt : Int32) (pool : Addr) (nP : Nat) (gP : Nat → Int32) (b : Nat) (vv : Int64) (cc : Int32) (h0 : Heap) (n0 : Nat) (v : Option Value) (h : Heap) (L : List Loc) : Prop := v = some (.int 1) ∧ Fr n0 L ∧ Keep h0 h [a1] ∧ EN Z h a1 ms (place + ((1 : Int64) + ((vv.toUInt64 >>> ((1 : Int32) &&& 0x3f).toInt64.toUInt64).toInt64))) (Int32.ofNat b) end_ cc
set_option maxRecDepth 65536 in
set_option maxHeartbeats 40000000 in
theorem rm24X (l : Launch) (Z : State) (a0 : Array Value) (hw : HW a0 Z) (ws : List Jvm.Cond) (a1 : Addr) (ms : Addr) (place : Int64) (a : Nat) (end_ cnt : Int32) (pool : Addr) (nP : Nat) (gP : Nat → Int32) (b : Nat) (vv : Int64) (cc : Int32) (h0 : Heap) (n0 : Nat) (Z0 : n0 ≤ h0.size) (gb_a1 : n0 ≤ a1) (hEN : EN Z h0 a1 ms place (Int32.ofNat a) end_ cnt) (Fp : Fld Z h0 ms "com/example/deft_nets/deftnets/MarkingStore" "mPool" "[B" (.ref pool)) (A_p : OwnA Z h0 pool .byte nP (iv' gP)) (ne_m : ms ≠ a1) (ne_p : pool ≠ a1) (hnP : nP ≤ 100) (hend : ¬ Int32.ofNat a = end_) (hE : Ent gP a b vv cc) (hbn : b ≤ nP) :
    MetFree l mn_24 (head1 (Jvm.Cond.code mn_24 prog_32_method_2_code 3 (some .boolean) :: ws) ({ frames := 1, cells := 0, slots := 0, locals := 17 } : Room)) (fun a U => a = #[(.ref a1)] ∧ Z.Warmed39 U.vm ∧ U.heap = h0) (fun _ _ _ _ _ => True) (fun _ U o U' => ∃ v L, o = .returned v ∧ Q24X Z a1 ms place a end_ cnt pool nP gP b vv cc h0 n0 v U'.heap L ∧ FrameEnd U o U' L ({ frames := 1, cells := 0, slots := 0, locals := 17 } : Room).cells ({ frames := 1, cells := 0, slots := 0, locals := 17 } : Room).slots) := by
  refine MetFree.of_bodySF (plainFor_of_name pn_24) hisR ?_
  intro p e s m args below meth c s₁ Bd hml0 hP hK
  obtain ⟨rfl, hZ, hh⟩ := hP
  have hx := Bd.exec
  have hby := Bd.bytes
  have H := And.intro hx hby
  have hml : c.maxLocals = 3 := hml0
  have hown : s.vm.findClass "com/example/deft_nets/deftnets/MarkingStore$Entries" = some m.cls := findClass_of_methodNamed Bd.named
  have hnm := (name_of_methodNamed Bd.named Bd.method).1
  have X0 : Stand p l e ({ frames := 1, cells := 0, slots := 0, locals := 17 } : Room) s m #[(.ref a1)] below meth c s₁ [] 0 0 := Stand.of_body Bd
  have e0 : s₁.heap = h0 := by rw [← hh, Bd.state]; rfl
  have N0 := Fr.nil n0
  suffices hG : OwnG p e below s (Q24X Z a1 ms place a end_ cnt pool nP gP b vv cc h0 n0) ({ frames := 1, cells := 0, slots := 0, locals := 17 } : Room).cells ({ frames := 1, cells := 0, slots := 0, locals := 17 } : Room).slots s₁ (mkF m 0 #[.val (.ref a1), .unset, .unset] []) by
    obtain ⟨s2, o2, g1, g2⟩ := hG
    exact ⟨s2, o2, castTop (ef_24 m a1) g1, g2⟩
  obtain ⟨EEN_51, FEN0_51, FEN1_51, FEN2_51, FEN3_51, FEN4_51⟩ := hEN
  obtain ⟨M1, M2, hN1, hH⟩ := hE
  have hbM : a + M1 ≤ b := by rcases hH with ⟨-, -, q⟩ | ⟨-, -, q⟩ <;> omega
  refine OwnG.st (y_aloadN X0 H d24_0 rfl) ?_
  refine OwnG.v1 4 (getF X0 hx hZ hown (host := "") (Or.inl (ww hw 162 rfl)) Via.refl e0 FEN2_51 (g := mkF m 1 _ _) rfl rfl (hb hby d24_1)) ?_
  intro T52 X52 e52
  refine OwnG.st (y_aloadN X52 H d24_4 rfl) ?_
  refine OwnG.v1 8 (getF X52 hx hZ hown (host := "") (Or.inl (ww hw 164 rfl)) Via.refl e52 FEN3_51 (g := mkF m 5 _ _) rfl rfl (hb hby d24_5)) ?_
  intro T53 X53 e53
  have hc8_54 : ¬ ((Int32.ofNat a) = end_) := hend
  refine OwnG.st (y_icY X53 H 13 d24_8 (feq hc8_54).2 (by decide) (by decide)) ?_
  refine OwnG.st (y_aloadN X53 H d24_13 rfl) ?_
  obtain ⟨cq55, qc55, qd55⟩ := EEN_51.cell
  refine OwnG.cm 17 0 0 X53 (X53.privateBack hx (y := mn_25) hown (mvT hZ (ww hw 171 rfl)) (mvT hZ (ww hw 172 rfl)) (mvT hZ (own_selP (y := mn_25) (y0 := mn_24) rfl (ww hw 169 rfl) (ww hw 172 rfl) (ww hw 173 rfl) (by decide))) (Cond.privateMethod_at (mvP hZ (ww hw 173 rfl) (args := #[]))) (mvT hZ (ww hw 174 rfl)) (by decide) (backOf (W := 0) (rm25 l Z a0 hw [] a1 ms place a end_ cnt pool nP gP M1 vv h0 n0 Z0 gb_a1 ⟨EEN_51, FEN0_51, FEN1_51, FEN2_51, FEN3_51, FEN4_51⟩ Fp A_p ne_m ne_p hnP hN1 (by omega)) hZ (ww hw 174 rfl) (ww hw 151 rfl) (by decide) (by decide)) (g := mkF m 14 _ _) rfl (by rw [hml]; rfl) (Steps.refl _) (a := a1) (by rw [e53]; exact qc55) qd55 (argsL := []) (rest := []) (lenOf pd_24X_0 rfl) rfl (by show 2 * 0 + _ ≤ _; exact Nat.le_of_eq rfl) (hb hby d24_14) (fun _ _ => ⟨rfl, e53, (by decide : 0 + 0 ≤ _), (by decide : 0 + 0 ≤ _)⟩)) rfl rfl ?_
  intro T55 Lc55 vc55 X55 hQ55
  obtain ⟨hv55, N55q, Kq55, ENq55⟩ := hQ55
  have Z55 : LeA (n0) (T55.heap.size) := Nat.le_trans Z0 Kq55.1
  have f57 := Fld.keep Fp Kq55 (ninS ne_m nin0)
  have f58 := A_p.keep Kq55 (ninS ne_p nin0)
  have K55 : Keep h0 T55.heap [a1] := (Keep.refl h0 [a1]).trans Kq55 (own_trS (P := fun x => x ∈ [a1] ∨ h0.size ≤ x) (Or.inl (List.mem_of_getElem? (i := 0) rfl)) own_tr0)
  obtain ⟨EEN_59, FEN0_59, FEN1_59, FEN2_59, FEN3_59, FEN4_59⟩ := ENq55
  have N55 := Fr.app N0 N55q
  refine OwnG.cv hv55 ?_
  clear hv55
  refine OwnG.st (y_lstoreN X55 H #[.val (.ref a1), .val (.long vv), .second] d24_17 rfl) ?_
  refine OwnG.st (y_aloadN X55 H d24_18 rfl) ?_
  refine OwnG.st (y_dup X55 H d24_19 rfl) ?_
  refine OwnG.v1 23 (getF X55 hx hZ hown (host := "") (Or.inl (ww hw 159 rfl)) Via.refl rfl FEN1_59 (g := mkF m 20 _ _) rfl rfl (hb hby d24_20)) ?_
  intro T60 X60 e60
  refine OwnG.st (y_lconst X60 H 1 d24_23 rfl) ?_
  refine OwnG.st (y_lloadN X60 H d24_24 rfl) ?_
  refine OwnG.st (y_iconst X60 H (1) d24_25 rfl) ?_
  refine OwnG.st (y_lushr X60 H d24_26) ?_
  refine OwnG.st (y_ladd X60 H d24_27) ?_
  refine OwnG.st (y_ladd X60 H d24_28) ?_
  refine OwnG.v2 32 (putF X60 hx hZ hown (host := "") (Or.inl (ww hw 159 rfl)) Via.refl e60 FEN1_59 EEN_59 (Or.inl (ww hw 160 rfl)) (ww hw 150 rfl) (ty := .long) (by decide) rfl rfl (g := mkF m 29 _ _) rfl rfl (hb hby d24_29)) ?_
  intro T61 h61 X61 e61 W61
  have f62 := Exa.wr W61 EEN_59
  have f63 := Fld.other W61 FEN0_59 (Or.inr (sn_99 hw))
  have f64 := Fld.other W61 FEN2_59 (Or.inr (sn_100 hw))
  have f65 := Fld.other W61 FEN3_59 (Or.inr (sn_101 hw))
  have f66 := Fld.other W61 FEN4_59 (Or.inr (sn_102 hw))
  have f67 := Fld.other W61 f57 (Or.inl ne_m)
  have f68 := f58.other W61 ne_p
  have Fw61 : Fld Z h61 a1 "com/example/deft_nets/deftnets/MarkingStore$Entries" "mPlace" "J" (.long (place + ((1 : Int64) + ((vv.toUInt64 >>> ((1 : Int32) &&& 0x3f).toInt64.toUInt64).toInt64)))) := Fld.same W61 FEN1_59
  have N61 := Fr.snoc X61 N55 gb_a1
  have Z61 : LeA (n0) (h61.size) := by rw [W61.size]; exact Z55
  have K61 : Keep h0 h61 [a1] := K55.wr W61 (Or.inl (List.mem_of_getElem? (i := 0) rfl))
  refine OwnG.st (y_aloadN X61 H d24_32 rfl) ?_
  refine OwnG.st (y_lloadN X61 H d24_33 rfl) ?_
  refine OwnG.st (y_lconst X61 H 1 d24_34 rfl) ?_
  refine OwnG.st (y_land X61 H d24_35) ?_
  refine OwnG.st (y_lconst X61 H 0 d24_36 rfl) ?_
  refine OwnG.st (y_lcmp X61 H d24_37) ?_
  by_cases hc38_69 : (vv &&& (1 : Int64)) = (0 : Int64)
  · refine OwnG.st (y_ifN X61 H d24_38 ((if0 _ _).trans (teq ((lw_eq (vv &&& (1 : Int64)) (0 : Int64)).mpr hc38_69)).2)) ?_
    refine OwnG.st (y_iconst X61 H (1) d24_41 rfl) ?_
    refine OwnG.st (y_goto X61 H 50 d24_42 (by decide) (by decide)) ?_
    refine OwnG.v2 53 (putF X61 hx hZ hown (host := "") (Or.inl (ww hw 176 rfl)) Via.refl e61 f66 f62 (Or.inl (ww hw 177 rfl)) (ww hw 150 rfl) (ty := .int) (by decide) rfl rfl (g := mkF m 50 _ _) rfl rfl (hb hby d24_50)) ?_
    intro T70 h70 X70 e70 W70
    have f71 := Exa.wr W70 f62
    have f72 := Fld.other W70 f63 (Or.inr (sn_111 hw))
    have f73 := Fld.other W70 Fw61 (Or.inr (sn_112 hw))
    have f74 := Fld.other W70 f64 (Or.inr (sn_113 hw))
    have f75 := Fld.other W70 f65 (Or.inr (sn_114 hw))
    have Fw70 : Fld Z h70 a1 "com/example/deft_nets/deftnets/MarkingStore$Entries" "mCount" "I" (.int (1 : Int32)) := Fld.same W70 f66
    have N70 := Fr.snoc X70 N61 gb_a1
    have K70 : Keep h0 h70 [a1] := K61.wr W70 (Or.inl (List.mem_of_getElem? (i := 0) rfl))
    refine OwnG.st (y_iconst X70 H (1) d24_53 rfl) ?_
    have hH1 := hH.resolve_right (fun q => q.1 hc38_69)
    have hEN' : EN Z h70 a1 ms (place + ((1 : Int64) + ((vv.toUInt64 >>> ((1 : Int32) &&& 0x3f).toInt64.toUInt64).toInt64))) (Int32.ofNat b) end_ cc := by
      rw [hH1.2.1, hH1.2.2]
      exact ⟨f71, f72, f73, f74, f75, Fw70⟩
    exact OwnG.retN X70 hx (t := .boolean) (by simp) Bd.returns (BodyLoose.notSynchronized Bd) (hb hby d24_54) (by rw [e70]; exact ⟨rfl, N70, K70, hEN'⟩) (by decide) (by decide)
  · refine OwnG.st (y_ifY X61 H 45 d24_38 ((if0 _ _).trans (feq (mt (lw_eq (vv &&& (1 : Int64)) (0 : Int64)).mp hc38_69)).2) (by decide) (by decide)) ?_
    have hH2 := hH.resolve_left (fun q => hc38_69 q.1)
    have hb3 := hH2.2.2
    refine OwnG.st (y_aloadN X61 H d24_45 rfl) ?_
    obtain ⟨cq78, qc78, qd78⟩ := f62.cell
    refine OwnG.cm 49 0 0 X61 (X61.privateBack hx (y := mn_25) hown (mvT hZ (ww hw 171 rfl)) (mvT hZ (ww hw 172 rfl)) (mvT hZ (own_selP (y := mn_25) (y0 := mn_24) rfl (ww hw 169 rfl) (ww hw 172 rfl) (ww hw 173 rfl) (by decide))) (Cond.privateMethod_at (mvP hZ (ww hw 173 rfl) (args := #[]))) (mvT hZ (ww hw 174 rfl)) (by decide) (backOf (W := 1) (rm25 l Z a0 hw [] a1 ms (place + ((1 : Int64) + ((vv.toUInt64 >>> ((1 : Int32) &&& 0x3f).toInt64.toUInt64).toInt64))) (a + M1) end_ cnt pool nP gP M2 (cc.toInt64) h61 n0 Z61 gb_a1 ⟨f62, f63, Fw61, f64, f65, f66⟩ f67 f68 ne_m ne_p hnP hH2.2.1 (by omega)) hZ (ww hw 174 rfl) (ww hw 151 rfl) (by decide) (by decide)) (g := mkF m 46 _ _) rfl (by rw [hml]; rfl) (Steps.refl _) (a := a1) (by rw [e61]; exact qc78) qd78 (argsL := []) (rest := [(.ref a1)]) (lenOf pd_24X_0 rfl) rfl (by show 2 * 0 + _ ≤ _; exact Nat.le_of_eq rfl) (hb hby d24_46) (fun _ _ => ⟨rfl, e61, (by decide : 0 + 0 ≤ _), (by decide : 0 + 0 ≤ _)⟩)) rfl rfl ?_
    intro T78 Lc78 vc78 X78 hQ78
    obtain ⟨hv78, N78q, Kq78, ENq78⟩ := hQ78
    have K78 : Keep h0 T78.heap [a1] := K61.trans Kq78 (own_trS (P := fun x => x ∈ [a1] ∨ h0.size ≤ x) (Or.inl (List.mem_of_getElem? (i := 0) rfl)) own_tr0)
    obtain ⟨EEN_82, FEN0_82, FEN1_82, FEN2_82, FEN3_82, FEN4_82⟩ := ENq78
    have N78 := Fr.app N61 N78q
    refine OwnG.cv hv78 ?_
    clear hv78
    refine OwnG.st (y_l2i X78 H d24_49) ?_
    refine OwnG.v2 53 (putF X78 hx hZ hown (host := "") (Or.inl (ww hw 176 rfl)) Via.refl rfl FEN4_82 EEN_82 (Or.inl (ww hw 177 rfl)) (ww hw 150 rfl) (ty := .int) (by decide) rfl rfl (g := mkF m 50 _ _) rfl rfl (hb hby d24_50)) ?_
    intro T83 h83 X83 e83 W83
    have f84 := Exa.wr W83 EEN_82
    have f85 := Fld.other W83 FEN0_82 (Or.inr (sn_111 hw))
    have f86 := Fld.other W83 FEN1_82 (Or.inr (sn_112 hw))
    have f87 := Fld.other W83 FEN2_82 (Or.inr (sn_113 hw))
    have f88 := Fld.other W83 FEN3_82 (Or.inr (sn_114 hw))
    have Fw83 : Fld Z h83 a1 "com/example/deft_nets/deftnets/MarkingStore$Entries" "mCount" "I" (.int ((cc.toInt64).toInt32)) := Fld.same W83 FEN4_82
    have N83 := Fr.snoc X83 N78 gb_a1
    have K83 : Keep h0 h83 [a1] := K78.wr W83 (Or.inl (List.mem_of_getElem? (i := 0) rfl))
    refine OwnG.st (y_iconst X83 H (1) d24_53 rfl) ?_
    have hEN' : EN Z h83 a1 ms (place + ((1 : Int64) + ((vv.toUInt64 >>> ((1 : Int32) &&& 0x3f).toInt64.toUInt64).toInt64))) (Int32.ofNat b) end_ cc := by
      have q : EN Z h83 a1 ms (place + ((1 : Int64) + ((vv.toUInt64 >>> ((1 : Int32) &&& 0x3f).toInt64.toUInt64).toInt64))) (Int32.ofNat (a + M1 + M2)) end_ (cc.toInt64.toInt32) := ⟨f84, f85, f86, f87, f88, Fw83⟩
      rw [own_c3] at q; rw [hb3]; exact q
    exact OwnG.retN X83 hx (t := .boolean) (by simp) Bd.returns (BodyLoose.notSynchronized Bd) (hb hby d24_54) (by rw [e83]; exact ⟨rfl, N83, K83, hEN'⟩) (by decide) (by decide)
theorem d22_0 : decode k22_ 0 = .ok (.iconst 0, 1) := by decide +kernel
theorem d22_1 : decode k22_ 1 = .ok (.istore 4, 2) := by decide +kernel
theorem d22_3 : decode k22_ 3 = .ok (.new 85, 3) := by decide +kernel
theorem d22_6 : decode k22_ 6 = .ok (.dup, 1) := by decide +kernel
theorem d22_7 : decode k22_ 7 = .ok (.aload_n 0, 1) := by decide +kernel
theorem d22_8 : decode k22_ 8 = .ok (.iload_n 1, 1) := by decide +kernel
theorem d22_9 : decode k22_ 9 = .ok (.invokespecial 87, 3) := by decide +kernel
theorem d22_12 : decode k22_ 12 = .ok (.astore 5, 2) := by decide +kernel
theorem d22_14 : decode k22_ 14 = .ok (.aload 5, 2) := by decide +kernel
theorem d22_16 : decode k22_ 16 = .ok (.invokevirtual 90, 3) := by decide +kernel
theorem d22_19 : decode k22_ 19 = .ok (.ifCond .eq 27, 3) := by decide +kernel
theorem d22_46 : decode k22_ 46 = .ok (.return_, 1) := by decide +kernel
theorem pn_22 : plainName "com/example/deft_nets/deftnets/MarkingStore" = true := by first | (simp [plainName, overriddenIn]; done) | decide +kernel
theorem pd_22D0_0 : parseMethodDescriptor "(Lcom/example/deft_nets/deftnets/MarkingStore;I)V" = some ⟨[(.object "com/example/deft_nets/deftnets/MarkingStore"), .int], none⟩ := by decide +kernel
theorem pd_22D0_1 : parseMethodDescriptor "()Z" = some ⟨[], some .boolean⟩ := by decide +kernel
theorem ef_22 (m : MethodId) (a1 : Addr) (p2 : Int32) (a3 : Addr) (a4 : Addr) : entryFrame m #[(.ref a1), (.int p2), (.ref a3), (.ref a4)] 6 = mkF m 0 #[.val (.ref a1), .val (.int p2), .val (.ref a3), .val (.ref a4), .unset, .unset] [] := by first | (simp [entryFrame, mkF, argsToLocals, Value.category]; done) | rfl
def Q22D0 (Z : State) (a1 : Addr) (p2 : Int32) (a3 : Addr) (a4 : Addr) (kx eL : Nat) (gE : Nat → Int32) (go : Nat → Int64) (gc : Nat → Int32) (h0 : Heap) (n0 : Nat) (v : Option Value) (h : Heap) (L : List Loc) : Prop := v = none ∧ Fr n0 L ∧ Keep h0 h [a3, a4] ∧ OwnA Z h a3 .long 3 (jv' go) ∧ OwnA Z h a4 .int 3 (iv' gc)
set_option maxRecDepth 65536 in
set_option maxHeartbeats 40000000 in
theorem rm22D0 (l : Launch) (Z : State) (a0 : Array Value) (hw : HW a0 Z) (ws : List Jvm.Cond) (a1 : Addr) (p2 : Int32) (a3 : Addr) (a4 : Addr) (kx eL : Nat) (gE : Nat → Int32) (go : Nat → Int64) (gc : Nat → Int32) (h0 : Heap) (n0 : Nat) (Z0 : n0 ≤ h0.size) (gb_a3 : n0 ≤ a3) (gb_a4 : n0 ≤ a4) (hS : SD Z h0 kx a1 p2 eL gE) (hEs : Ents gE 0 eL []) (A_3 : OwnA Z h0 a3 .long 3 (jv' go)) (A_4 : OwnA Z h0 a4 .int 3 (iv' gc)) (hx_a3 : kx ≤ a3) (hx_a4 : kx ≤ a4) (hne34 : a3 ≠ a4) :
    MetFree l mn_22 (head1 (Jvm.Cond.code mn_22 prog_31_method_7_code 6 none :: ws) ({ frames := 2, cells := 1, slots := 5, locals := 27 } : Room)) (fun a U => a = #[(.ref a1), (.int p2), (.ref a3), (.ref a4)] ∧ Z.Warmed39 U.vm ∧ U.heap = h0) (fun _ _ _ _ _ => True) (fun _ U o U' => ∃ v L, o = .returned v ∧ Q22D0 Z a1 p2 a3 a4 kx eL gE go gc h0 n0 v U'.heap L ∧ FrameEnd U o U' L ({ frames := 2, cells := 1, slots := 5, locals := 27 } : Room).cells ({ frames := 2, cells := 1, slots := 5, locals := 27 } : Room).slots) := by
  refine MetFree.of_bodySF (plainFor_of_name pn_22) hisR ?_
  intro p e s m args below meth c s₁ Bd hml0 hP hK
  obtain ⟨rfl, hZ, hh⟩ := hP
  have hx := Bd.exec
  have hby := Bd.bytes
  have H := And.intro hx hby
  have hml : c.maxLocals = 6 := hml0
  have hown : s.vm.findClass "com/example/deft_nets/deftnets/MarkingStore" = some m.cls := findClass_of_methodNamed Bd.named
  have hnm := (name_of_methodNamed Bd.named Bd.method).1
  have X0 : Stand p l e ({ frames := 2, cells := 1, slots := 5, locals := 27 } : Room) s m #[(.ref a1), (.int p2), (.ref a3), (.ref a4)] below meth c s₁ [] 0 0 := Stand.of_body Bd
  have e0 : s₁.heap = h0 := by rw [← hh, Bd.state]; rfl
  have N0 := Fr.nil n0
  suffices hG : OwnG p e below s (Q22D0 Z a1 p2 a3 a4 kx eL gE go gc h0 n0) ({ frames := 2, cells := 1, slots := 5, locals := 27 } : Room).cells ({ frames := 2, cells := 1, slots := 5, locals := 27 } : Room).slots s₁ (mkF m 0 #[.val (.ref a1), .val (.int p2), .val (.ref a3), .val (.ref a4), .unset, .unset] []) by
    obtain ⟨s2, o2, g1, g2⟩ := hG
    exact ⟨s2, o2, castTop (ef_22 m a1 p2 a3 a4) g1, g2⟩
  obtain ⟨pool, psz, start, hash, table, enc, elen, next, size, bud, nP, nS, sA, gP, gS, hM, A_p, A_s, ne_p, ne_s, hk1, hk2, hk3, hnP, hnS, hm0, hm1, hs0, hs1, hle, hgE⟩ := hS
  obtain ⟨EMS_51, FMS0_51, FMS1_51, FMS2_51, FMS3_51, FMS4_51, FMS5_51, FMS6_51, FMS7_51, FMS8_51, FMS9_51⟩ := hM
  have w1 : (1 : Int32).toInt = 1 := rfl
  have hp1 := x_iadd p2 1 (by omega)
  have hm01 : 0 ≤ p2.toInt ∧ p2.toInt + 1 < nS := ⟨hm0, hm1⟩
  have hA0 : gS p2.toInt.toNat = Int32.ofNat sA := by rw [← Int32.toInt_inj, own_i32 _ (by omega)]; exact hs0
  have hA1 : gS (p2 + (1 : Int32)).toInt.toNat = Int32.ofNat (sA + eL) := by rw [← Int32.toInt_inj, own_i32 _ (by omega), show (p2 + (1 : Int32)).toInt.toNat = p2.toInt.toNat + 1 by omega, hs1]; omega
  have hEs' : Ents gP sA (sA + eL) [] := Ents.copy hEs (by omega) (fun j hj => by rw [Nat.zero_add]; exact hgE j (by omega))
  have hend : sA = sA + eL := hEs'
  refine OwnG.st (y_iconst X0 H (0) d22_0 rfl) ?_
  refine OwnG.st (y_istore X0 H #[.val (.ref a1), .val (.int p2), .val (.ref a3), .val (.ref a4), .val (.int (0 : Int32)), .unset] d22_1 rfl) ?_
  refine OwnG.v5 6 1 5 X0 (newO X0 hx hZ hown (ww hw 149 rfl) (ww hw 150 rfl) (ww hw 151 rfl) e0 (g := mkF m 3 _ _) rfl (hb hby d22_3) (by decide) (by decide)) rfl rfl ?_
  intro T52 h52 X52 e52 E52 A52 D52 _
  obtain ⟨b52, g52⟩ : ∃ z, z = h0.size := ⟨_, rfl⟩
  rw [← g52] at A52 D52 ⊢
  have ne52_53 : NeA a1 b52 := Nat.ne_of_lt (Nat.lt_of_lt_of_le (Fld.lt FMS0_51) (Nat.le_of_eq g52.symm))
  have ne52_54 : NeA pool b52 := Nat.ne_of_lt (Nat.lt_of_lt_of_le A_p.lt (Nat.le_of_eq g52.symm))
  have ne52_55 : NeA start b52 := Nat.ne_of_lt (Nat.lt_of_lt_of_le A_s.lt (Nat.le_of_eq g52.symm))
  have ne52_56 : NeA a3 b52 := Nat.ne_of_lt (Nat.lt_of_lt_of_le A_3.lt (Nat.le_of_eq g52.symm))
  have ne52_57 : NeA a4 b52 := Nat.ne_of_lt (Nat.lt_of_lt_of_le A_4.lt (Nat.le_of_eq g52.symm))
  have f58 := Fld.ext E52 FMS0_51
  have f59 := Fld.ext E52 FMS2_51
  have f60 := A_p.ext E52
  have f61 := A_s.ext E52
  have f62 := A_3.ext E52
  have f63 := A_4.ext E52
  have F52_this_0 : Fld Z h52 b52 "com/example/deft_nets/deftnets/MarkingStore$Entries" "this$0" "Lcom/example/deft_nets/deftnets/MarkingStore;" .null := D52 (Or.inr (ww hw 156 rfl)) (ty := (.object "com/example/deft_nets/deftnets/MarkingStore")) (by decide)
  have F52_mPlace : Fld Z h52 b52 "com/example/deft_nets/deftnets/MarkingStore$Entries" "mPlace" "J" (.long (0 : Int64)) := D52 (Or.inl (ww hw 160 rfl)) (ty := .long) (by decide)
  have F52_mAt : Fld Z h52 b52 "com/example/deft_nets/deftnets/MarkingStore$Entries" "mAt" "I" (.int (0 : Int32)) := D52 (Or.inl (ww hw 163 rfl)) (ty := .int) (by decide)
  have F52_mEnd : Fld Z h52 b52 "com/example/deft_nets/deftnets/MarkingStore$Entries" "mEnd" "I" (.int (0 : Int32)) := D52 (Or.inr (ww hw 165 rfl)) (ty := .int) (by decide)
  have F52_mCount : Fld Z h52 b52 "com/example/deft_nets/deftnets/MarkingStore$Entries" "mCount" "I" (.int (0 : Int32)) := D52 (Or.inl (ww hw 177 rfl)) (ty := .int) (by decide)
  have gb_b52 : LeA (n0) (b52) := Nat.le_trans Z0 (Nat.le_of_eq g52.symm)
  have Z52 : LeA (n0) (h52.size) := Nat.le_trans Z0 E52.1
  have sz_b52 : LeA (h0.size) (b52) := Nat.le_trans (Keep.refl h0 [a3, a4]).1 (Nat.le_of_eq g52.symm)
  have K52 : Keep h0 h52 [a3, a4] := (Keep.refl h0 [a3, a4]).ext E52
  refine OwnG.st (y_dup X52 H d22_6 rfl) ?_
  refine OwnG.st (y_aloadN X52 H d22_7 rfl) ?_
  refine OwnG.st (y_iloadN X52 H d22_8 rfl) ?_
  refine OwnG.cm 12 1 5 X52 (X52.specialBack hx (y := mn_23) rfl hown (mvT hZ (ww hw 152 rfl)) (mvT hZ (ww hw 153 rfl)) (mvT hZ (ww hw 154 rfl)) (by decide) (backOf (W := 1) (rm23 l Z a0 hw [] b52 a1 p2 start nS gS h52 n0 Z52 gb_b52 A52 F52_this_0 F52_mPlace F52_mAt F52_mEnd F52_mCount f59 f61 ne52_53 ne52_55 hm01 hnS) hZ (ww hw 154 rfl) (ww hw 151 rfl) (by decide) (by decide)) (g := mkF m 9 _ _) rfl (by rw [hml]; rfl) (Steps.refl _) (a := b52) (argsL := [(.ref a1), (.int p2)]) (rest := [(.ref b52)]) (lenOf pd_22D0_0 rfl) rfl (by show 2 * 0 + _ ≤ _; exact Nat.le_of_eq rfl) (hb hby d22_9) (fun _ _ => ⟨rfl, e52, (by decide : 1 + 0 ≤ _), (by decide : 5 + 0 ≤ _)⟩)) rfl rfl ?_
  intro T64 Lc64 vc64 X64 hQ64
  obtain ⟨hv64, N64q, Kq64, ENq64⟩ := hQ64
  have Z64 : LeA (n0) (T64.heap.size) := Nat.le_trans Z52 Kq64.1
  have f65 := Fld.keep f58 Kq64 (ninS ne52_53 nin0)
  have f67 := f60.keep Kq64 (ninS ne52_54 nin0)
  have f69 := f62.keep Kq64 (ninS ne52_56 nin0)
  have f70 := f63.keep Kq64 (ninS ne52_57 nin0)
  have K64 : Keep h0 T64.heap [a3, a4] := K52.trans Kq64 (own_trS (P := fun x => x ∈ [a3, a4] ∨ h0.size ≤ x) (Or.inr sz_b52) own_tr0)
  have ENr64 : EN Z T64.heap b52 a1 (-1 : Int64) (Int32.ofNat sA) (Int32.ofNat (sA + eL)) (0 : Int32) := by have q := ENq64; rw [hA0, hA1] at q; exact q
  obtain ⟨EEN_72, FEN0_72, FEN1_72, FEN2_72, FEN3_72, FEN4_72⟩ := ENr64
  have N64 := Fr.app N0 N64q
  refine OwnG.cn hv64 ?_
  clear hv64
  refine OwnG.st (y_astore X64 H #[.val (.ref a1), .val (.int p2), .val (.ref a3), .val (.ref a4), .val (.int (0 : Int32)), .val (.ref b52)] d22_12 rfl) ?_
  refine OwnG.st (y_aload X64 H d22_14 rfl) ?_
  obtain ⟨cq73, kq73, q73a, q73b, q73c⟩ := isOf hZ rfl EEN_72
  refine OwnG.cm 19 1 5 X64 (X64.virtualBack hx (y := mn_24) (z := mn_24) hown (mvT hZ (ww hw 166 rfl)) (mvT hZ (ww hw 167 rfl)) (notFace_of_selects (args := #[]) (mvT hZ (ww hw 169 rfl))) (mvT hZ (ww hw 169 rfl)) (mvT hZ (ww hw 168 rfl)) (by decide) (backOf (W := 0) (rm24E l Z a0 hw [] b52 a1 (-1 : Int64) sA (Int32.ofNat (sA + eL)) (0 : Int32) pool nP gP T64.heap n0 Z64 gb_b52 ⟨EEN_72, FEN0_72, FEN1_72, FEN2_72, FEN3_72, FEN4_72⟩ f65 f67 ne52_53 ne52_54 hnP (congrArg Int32.ofNat hend)) hZ (ww hw 170 rfl) (ww hw 151 rfl) (by decide) (by decide)) q73a q73c (g := mkF m 16 _ _) rfl (by rw [hml]; rfl) (Steps.refl _) (argsL := []) (rest := []) (lenOf pd_22D0_1 rfl) rfl (by show 2 * 0 + _ ≤ _; exact Nat.le_of_eq rfl) (hb hby d22_16) (fun _ _ => ⟨rfl, rfl, (by decide : 1 + 0 ≤ _), (by decide : 5 + 0 ≤ _)⟩)) rfl rfl ?_
  intro T73 Lc73 vc73 X73 hQ73
  obtain ⟨hv73, N73q, e73⟩ := hQ73
  have N73 := Fr.app N64 N73q
  refine OwnG.cv hv73 ?_
  clear hv73
  have hc19_74 : (0 : Int32) = (0 : Int32) := by decide
  refine OwnG.st (y_ifY X73 H 46 d22_19 ((if0 _ _).trans (teq hc19_74).1) (by decide) (by decide)) ?_
  exact OwnG.retV X73 hx Bd.returns (BodyLoose.notSynchronized Bd) (hb hby d22_46) (by rw [e73]; exact ⟨rfl, N73, K64, f69, f70⟩) (by decide) (by decide)
theorem d22_22 : decode k22_ 22 = .ok (.aload_n 2, 1) := by decide +kernel
theorem d22_23 : decode k22_ 23 = .ok (.iload 4, 2) := by decide +kernel
theorem d22_25 : decode k22_ 25 = .ok (.aload 5, 2) := by decide +kernel
theorem d22_27 : decode k22_ 27 = .ok (.getfield 94, 3) := by decide +kernel
theorem d22_30 : decode k22_ 30 = .ok (.lastore, 1) := by decide +kernel
theorem d22_31 : decode k22_ 31 = .ok (.aload_n 3, 1) := by decide +kernel
theorem d22_32 : decode k22_ 32 = .ok (.iload 4, 2) := by decide +kernel
theorem d22_34 : decode k22_ 34 = .ok (.aload 5, 2) := by decide +kernel
theorem d22_36 : decode k22_ 36 = .ok (.getfield 98, 3) := by decide +kernel
theorem d22_39 : decode k22_ 39 = .ok (.iastore, 1) := by decide +kernel
theorem d22_40 : decode k22_ 40 = .ok (.iinc 4 1, 3) := by decide +kernel
theorem d22_43 : decode k22_ 43 = .ok (.goto (-29), 3) := by decide +kernel
theorem pd_22D1_0 : parseMethodDescriptor "(Lcom/example/deft_nets/deftnets/MarkingStore;I)V" = some ⟨[(.object "com/example/deft_nets/deftnets/MarkingStore"), .int], none⟩ := by decide +kernel
theorem pd_22D1_1 : parseMethodDescriptor "()Z" = some ⟨[], some .boolean⟩ := by decide +kernel
def Q22D1 (Z : State) (a1 : Addr) (p2 : Int32) (a3 : Addr) (a4 : Addr) (kx eL : Nat) (gE : Nat → Int32) (go : Nat → Int64) (gc : Nat → Int32) (v0 : Int64) (c0 : Int32) (h0 : Heap) (n0 : Nat) (v : Option Value) (h : Heap) (L : List Loc) : Prop := v = none ∧ Fr n0 L ∧ Keep h0 h [a3, a4] ∧ OwnA Z h a3 .long 3 (jv' (updv go 0 ((-1 : Int64) + ((1 : Int64) + ((v0.toUInt64 >>> ((1 : Int32) &&& 0x3f).toInt64.toUInt64).toInt64))))) ∧ OwnA Z h a4 .int 3 (iv' (updv gc 0 c0))
set_option maxRecDepth 65536 in
set_option maxHeartbeats 40000000 in
theorem rm22D1 (l : Launch) (Z : State) (a0 : Array Value) (hw : HW a0 Z) (ws : List Jvm.Cond) (a1 : Addr) (p2 : Int32) (a3 : Addr) (a4 : Addr) (kx eL : Nat) (gE : Nat → Int32) (go : Nat → Int64) (gc : Nat → Int32) (v0 : Int64) (c0 : Int32) (h0 : Heap) (n0 : Nat) (Z0 : n0 ≤ h0.size) (gb_a3 : n0 ≤ a3) (gb_a4 : n0 ≤ a4) (hS : SD Z h0 kx a1 p2 eL gE) (hEs : Ents gE 0 eL [(v0, c0)]) (A_3 : OwnA Z h0 a3 .long 3 (jv' go)) (A_4 : OwnA Z h0 a4 .int 3 (iv' gc)) (hx_a3 : kx ≤ a3) (hx_a4 : kx ≤ a4) (hne34 : a3 ≠ a4) :
    MetFree l mn_22 (head1 (Jvm.Cond.code mn_22 prog_31_method_7_code 6 none :: ws) ({ frames := 2, cells := 1, slots := 5, locals := 31 } : Room)) (fun a U => a = #[(.ref a1), (.int p2), (.ref a3), (.ref a4)] ∧ Z.Warmed39 U.vm ∧ U.heap = h0) (fun _ _ _ _ _ => True) (fun _ U o U' => ∃ v L, o = .returned v ∧ Q22D1 Z a1 p2 a3 a4 kx eL gE go gc v0 c0 h0 n0 v U'.heap L ∧ FrameEnd U o U' L ({ frames := 2, cells := 1, slots := 5, locals := 31 } : Room).cells ({ frames := 2, cells := 1, slots := 5, locals := 31 } : Room).slots) := by
  refine MetFree.of_bodySF (plainFor_of_name pn_22) hisR ?_
  intro p e s m args below meth c s₁ Bd hml0 hP hK
  obtain ⟨rfl, hZ, hh⟩ := hP
  have hx := Bd.exec
  have hby := Bd.bytes
  have H := And.intro hx hby
  have hml : c.maxLocals = 6 := hml0
  have hown : s.vm.findClass "com/example/deft_nets/deftnets/MarkingStore" = some m.cls := findClass_of_methodNamed Bd.named
  have hnm := (name_of_methodNamed Bd.named Bd.method).1
  have X0 : Stand p l e ({ frames := 2, cells := 1, slots := 5, locals := 31 } : Room) s m #[(.ref a1), (.int p2), (.ref a3), (.ref a4)] below meth c s₁ [] 0 0 := Stand.of_body Bd
  have e0 : s₁.heap = h0 := by rw [← hh, Bd.state]; rfl
  have N0 := Fr.nil n0
  suffices hG : OwnG p e below s (Q22D1 Z a1 p2 a3 a4 kx eL gE go gc v0 c0 h0 n0) ({ frames := 2, cells := 1, slots := 5, locals := 31 } : Room).cells ({ frames := 2, cells := 1, slots := 5, locals := 31 } : Room).slots s₁ (mkF m 0 #[.val (.ref a1), .val (.int p2), .val (.ref a3), .val (.ref a4), .unset, .unset] []) by
    obtain ⟨s2, o2, g1, g2⟩ := hG
    exact ⟨s2, o2, castTop (ef_22 m a1 p2 a3 a4) g1, g2⟩
  obtain ⟨pool, psz, start, hash, table, enc, elen, next, size, bud, nP, nS, sA, gP, gS, hM, A_p, A_s, ne_p, ne_s, hk1, hk2, hk3, hnP, hnS, hm0, hm1, hs0, hs1, hle, hgE⟩ := hS
  obtain ⟨EMS_51, FMS0_51, FMS1_51, FMS2_51, FMS3_51, FMS4_51, FMS5_51, FMS6_51, FMS7_51, FMS8_51, FMS9_51⟩ := hM
  have w1 : (1 : Int32).toInt = 1 := rfl
  have hp1 := x_iadd p2 1 (by omega)
  have hm01 : 0 ≤ p2.toInt ∧ p2.toInt + 1 < nS := ⟨hm0, hm1⟩
  have hA0 : gS p2.toInt.toNat = Int32.ofNat sA := by rw [← Int32.toInt_inj, own_i32 _ (by omega)]; exact hs0
  have hA1 : gS (p2 + (1 : Int32)).toInt.toNat = Int32.ofNat (sA + eL) := by rw [← Int32.toInt_inj, own_i32 _ (by omega), show (p2 + (1 : Int32)).toInt.toNat = p2.toInt.toNat + 1 by omega, hs1]; omega
  have hEs' : Ents gP sA (sA + eL) [(v0, c0)] := Ents.copy hEs (by omega) (fun j hj => by rw [Nat.zero_add]; exact hgE j (by omega))
  obtain ⟨kA, hE0, hend⟩ := hEs'
  have hend : kA = sA + eL := hend
  have hlt0 := hE0.lt
  refine OwnG.st (y_iconst X0 H (0) d22_0 rfl) ?_
  refine OwnG.st (y_istore X0 H #[.val (.ref a1), .val (.int p2), .val (.ref a3), .val (.ref a4), .val (.int (0 : Int32)), .unset] d22_1 rfl) ?_
  refine OwnG.v5 6 1 5 X0 (newO X0 hx hZ hown (ww hw 149 rfl) (ww hw 150 rfl) (ww hw 151 rfl) e0 (g := mkF m 3 _ _) rfl (hb hby d22_3) (by decide) (by decide)) rfl rfl ?_
  intro T52 h52 X52 e52 E52 A52 D52 _
  obtain ⟨b52, g52⟩ : ∃ z, z = h0.size := ⟨_, rfl⟩
  rw [← g52] at A52 D52 ⊢
  have ne52_53 : NeA a1 b52 := Nat.ne_of_lt (Nat.lt_of_lt_of_le (Fld.lt FMS0_51) (Nat.le_of_eq g52.symm))
  have ne52_54 : NeA pool b52 := Nat.ne_of_lt (Nat.lt_of_lt_of_le A_p.lt (Nat.le_of_eq g52.symm))
  have ne52_55 : NeA start b52 := Nat.ne_of_lt (Nat.lt_of_lt_of_le A_s.lt (Nat.le_of_eq g52.symm))
  have ne52_56 : NeA a3 b52 := Nat.ne_of_lt (Nat.lt_of_lt_of_le A_3.lt (Nat.le_of_eq g52.symm))
  have ne52_57 : NeA a4 b52 := Nat.ne_of_lt (Nat.lt_of_lt_of_le A_4.lt (Nat.le_of_eq g52.symm))
  have f58 := Fld.ext E52 FMS0_51
  have f59 := Fld.ext E52 FMS2_51
  have f60 := A_p.ext E52
  have f61 := A_s.ext E52
  have f62 := A_3.ext E52
  have f63 := A_4.ext E52
  have F52_this_0 : Fld Z h52 b52 "com/example/deft_nets/deftnets/MarkingStore$Entries" "this$0" "Lcom/example/deft_nets/deftnets/MarkingStore;" .null := D52 (Or.inr (ww hw 156 rfl)) (ty := (.object "com/example/deft_nets/deftnets/MarkingStore")) (by decide)
  have F52_mPlace : Fld Z h52 b52 "com/example/deft_nets/deftnets/MarkingStore$Entries" "mPlace" "J" (.long (0 : Int64)) := D52 (Or.inl (ww hw 160 rfl)) (ty := .long) (by decide)
  have F52_mAt : Fld Z h52 b52 "com/example/deft_nets/deftnets/MarkingStore$Entries" "mAt" "I" (.int (0 : Int32)) := D52 (Or.inl (ww hw 163 rfl)) (ty := .int) (by decide)
  have F52_mEnd : Fld Z h52 b52 "com/example/deft_nets/deftnets/MarkingStore$Entries" "mEnd" "I" (.int (0 : Int32)) := D52 (Or.inr (ww hw 165 rfl)) (ty := .int) (by decide)
  have F52_mCount : Fld Z h52 b52 "com/example/deft_nets/deftnets/MarkingStore$Entries" "mCount" "I" (.int (0 : Int32)) := D52 (Or.inl (ww hw 177 rfl)) (ty := .int) (by decide)
  have gb_b52 : LeA (n0) (b52) := Nat.le_trans Z0 (Nat.le_of_eq g52.symm)
  have Z52 : LeA (n0) (h52.size) := Nat.le_trans Z0 E52.1
  have sz_b52 : LeA (h0.size) (b52) := Nat.le_trans (Keep.refl h0 [a3, a4]).1 (Nat.le_of_eq g52.symm)
  have K52 : Keep h0 h52 [a3, a4] := (Keep.refl h0 [a3, a4]).ext E52
  refine OwnG.st (y_dup X52 H d22_6 rfl) ?_
  refine OwnG.st (y_aloadN X52 H d22_7 rfl) ?_
  refine OwnG.st (y_iloadN X52 H d22_8 rfl) ?_
  refine OwnG.cm 12 1 5 X52 (X52.specialBack hx (y := mn_23) rfl hown (mvT hZ (ww hw 152 rfl)) (mvT hZ (ww hw 153 rfl)) (mvT hZ (ww hw 154 rfl)) (by decide) (backOf (W := 1) (rm23 l Z a0 hw [] b52 a1 p2 start nS gS h52 n0 Z52 gb_b52 A52 F52_this_0 F52_mPlace F52_mAt F52_mEnd F52_mCount f59 f61 ne52_53 ne52_55 hm01 hnS) hZ (ww hw 154 rfl) (ww hw 151 rfl) (by decide) (by decide)) (g := mkF m 9 _ _) rfl (by rw [hml]; rfl) (Steps.refl _) (a := b52) (argsL := [(.ref a1), (.int p2)]) (rest := [(.ref b52)]) (lenOf pd_22D1_0 rfl) rfl (by show 2 * 0 + _ ≤ _; exact Nat.le_of_eq rfl) (hb hby d22_9) (fun _ _ => ⟨rfl, e52, (by decide : 1 + 0 ≤ _), (by decide : 5 + 0 ≤ _)⟩)) rfl rfl ?_
  intro T64 Lc64 vc64 X64 hQ64
  obtain ⟨hv64, N64q, Kq64, ENq64⟩ := hQ64
  have Z64 : LeA (n0) (T64.heap.size) := Nat.le_trans Z52 Kq64.1
  have f65 := Fld.keep f58 Kq64 (ninS ne52_53 nin0)
  have f67 := f60.keep Kq64 (ninS ne52_54 nin0)
  have f69 := f62.keep Kq64 (ninS ne52_56 nin0)
  have f70 := f63.keep Kq64 (ninS ne52_57 nin0)
  have K64 : Keep h0 T64.heap [a3, a4] := K52.trans Kq64 (own_trS (P := fun x => x ∈ [a3, a4] ∨ h0.size ≤ x) (Or.inr sz_b52) own_tr0)
  have ENr64 : EN Z T64.heap b52 a1 (-1 : Int64) (Int32.ofNat sA) (Int32.ofNat (sA + eL)) (0 : Int32) := by have q := ENq64; rw [hA0, hA1] at q; exact q
  obtain ⟨EEN_72, FEN0_72, FEN1_72, FEN2_72, FEN3_72, FEN4_72⟩ := ENr64
  have N64 := Fr.app N0 N64q
  refine OwnG.cn hv64 ?_
  clear hv64
  refine OwnG.st (y_astore X64 H #[.val (.ref a1), .val (.int p2), .val (.ref a3), .val (.ref a4), .val (.int (0 : Int32)), .val (.ref b52)] d22_12 rfl) ?_
  refine OwnG.st (y_aload X64 H d22_14 rfl) ?_
  obtain ⟨cq73, kq73, q73a, q73b, q73c⟩ := isOf hZ rfl EEN_72
  refine OwnG.cm 19 1 5 X64 (X64.virtualBack hx (y := mn_24) (z := mn_24) hown (mvT hZ (ww hw 166 rfl)) (mvT hZ (ww hw 167 rfl)) (notFace_of_selects (args := #[]) (mvT hZ (ww hw 169 rfl))) (mvT hZ (ww hw 169 rfl)) (mvT hZ (ww hw 168 rfl)) (by decide) (backOf (W := 0) (rm24X l Z a0 hw [] b52 a1 (-1 : Int64) sA (Int32.ofNat (sA + eL)) (0 : Int32) pool nP gP kA v0 c0 T64.heap n0 Z64 gb_b52 ⟨EEN_72, FEN0_72, FEN1_72, FEN2_72, FEN3_72, FEN4_72⟩ f65 f67 ne52_53 ne52_54 hnP (own_one _ _ (by omega) (by omega)) hE0 (by omega)) hZ (ww hw 170 rfl) (ww hw 151 rfl) (by decide) (by decide)) q73a q73c (g := mkF m 16 _ _) rfl (by rw [hml]; rfl) (Steps.refl _) (argsL := []) (rest := []) (lenOf pd_22D1_1 rfl) rfl (by show 2 * 0 + _ ≤ _; exact Nat.le_of_eq rfl) (hb hby d22_16) (fun _ _ => ⟨rfl, rfl, (by decide : 1 + 0 ≤ _), (by decide : 5 + 0 ≤ _)⟩)) rfl rfl ?_
  intro T73 Lc73 vc73 X73 hQ73
  obtain ⟨hv73, N73q, Kq73, ENq73⟩ := hQ73
  have Z73 : LeA (n0) (T73.heap.size) := Nat.le_trans Z64 Kq73.1
  have f74 := Fld.keep f65 Kq73 (ninS ne52_53 nin0)
  have f76 := f67.keep Kq73 (ninS ne52_54 nin0)
  have f78 := f69.keep Kq73 (ninS ne52_56 nin0)
  have f79 := f70.keep Kq73 (ninS ne52_57 nin0)
  have K73 : Keep h0 T73.heap [a3, a4] := K64.trans Kq73 (own_trS (P := fun x => x ∈ [a3, a4] ∨ h0.size ≤ x) (Or.inr sz_b52) own_tr0)
  obtain ⟨EEN_81, FEN0_81, FEN1_81, FEN2_81, FEN3_81, FEN4_81⟩ := ENq73
  have N73 := Fr.app N64 N73q
  refine OwnG.cv hv73 ?_
  clear hv73
  have hc19_82 : ¬ ((1 : Int32) = (0 : Int32)) := by decide
  refine OwnG.st (y_ifN X73 H d22_19 ((if0 _ _).trans (feq hc19_82).1)) ?_
  refine OwnG.st (y_aloadN X73 H d22_22 rfl) ?_
  refine OwnG.st (y_iload X73 H d22_23 rfl) ?_
  refine OwnG.st (y_aload X73 H d22_25 rfl) ?_
  refine OwnG.st (y_getR X73 H hZ hown (ww hw 178 rfl) rfl FEN1_81 d22_27) ?_
  refine OwnG.v3 31 (own_stJ f78 X73 hx hZ rfl (by decide) (by decide) (gf := mkF m 30 _ _) rfl rfl (hb hby d22_30)) ?_
  intro T83 h83 X83 e83 W83 V83
  have V83' : OwnA Z h83 a3 .long 3 (jv' (updv go 0 ((-1 : Int64) + ((1 : Int64) + ((v0.toUInt64 >>> ((1 : Int32) &&& 0x3f).toInt64.toUInt64).toInt64))))) := V83
  have f84 := Fld.other W83 f74 (Or.inl (Nat.ne_of_lt (Nat.lt_of_lt_of_le hk1 hx_a3)))
  have f86 := f76.other W83 (Nat.ne_of_lt (Nat.lt_of_lt_of_le hk2 hx_a3))
  have f88 := f79.other W83 (Ne.symm hne34)
  have f89 := Exa.wr W83 EEN_81
  have f90 := Fld.other W83 FEN0_81 (Or.inl (Ne.symm ne52_56))
  have f91 := Fld.other W83 FEN1_81 (Or.inl (Ne.symm ne52_56))
  have f92 := Fld.other W83 FEN2_81 (Or.inl (Ne.symm ne52_56))
  have f93 := Fld.other W83 FEN3_81 (Or.inl (Ne.symm ne52_56))
  have f94 := Fld.other W83 FEN4_81 (Or.inl (Ne.symm ne52_56))
  have N83 := Fr.snoc X83 N73 gb_a3
  have Z83 : LeA (n0) (h83.size) := by rw [W83.size]; exact Z73
  have K83 : Keep h0 h83 [a3, a4] := K73.wr W83 (Or.inl (by simp))
  refine OwnG.st (y_aloadN X83 H d22_31 rfl) ?_
  refine OwnG.st (y_iload X83 H d22_32 rfl) ?_
  refine OwnG.st (y_aload X83 H d22_34 rfl) ?_
  refine OwnG.st (y_getR X83 H hZ hown (ww hw 179 rfl) e83 f94 d22_36) ?_
  refine OwnG.v3 40 (own_stI f88 X83 hx hZ e83 (by decide) (by decide) (gf := mkF m 39 _ _) rfl rfl (hb hby d22_39)) ?_
  intro T95 h95 X95 e95 W95 V95
  have V95' : OwnA Z h95 a4 .int 3 (iv' (updv gc 0 c0)) := V95
  have f96 := Fld.other W95 f84 (Or.inl (Nat.ne_of_lt (Nat.lt_of_lt_of_le hk1 hx_a4)))
  have f98 := f86.other W95 (Nat.ne_of_lt (Nat.lt_of_lt_of_le hk2 hx_a4))
  have f100 := V83'.other W95 hne34
  have f101 := Exa.wr W95 f89
  have f102 := Fld.other W95 f90 (Or.inl (Ne.symm ne52_57))
  have f103 := Fld.other W95 f91 (Or.inl (Ne.symm ne52_57))
  have f104 := Fld.other W95 f92 (Or.inl (Ne.symm ne52_57))
  have f105 := Fld.other W95 f93 (Or.inl (Ne.symm ne52_57))
  have f106 := Fld.other W95 f94 (Or.inl (Ne.symm ne52_57))
  have N95 := Fr.snoc X95 N83 gb_a4
  have Z95 : LeA (n0) (h95.size) := by rw [W95.size]; exact Z83
  have K95 : Keep h0 h95 [a3, a4] := K83.wr W95 (Or.inl (by simp))
  refine OwnG.st (y_iinc X95 H #[.val (.ref a1), .val (.int p2), .val (.ref a3), .val (.ref a4), .val (.int (1 : Int32)), .val (.ref b52)] d22_40 rfl rfl) ?_
  refine OwnG.st (y_goto X95 H 14 d22_43 (by decide) (by decide)) ?_
  refine OwnG.st (y_aload X95 H d22_14 rfl) ?_
  obtain ⟨cq107, kq107, q107a, q107b, q107c⟩ := isOf hZ e95 f101
  refine OwnG.cm 19 1 5 X95 (X95.virtualBack hx (y := mn_24) (z := mn_24) hown (mvT hZ (ww hw 166 rfl)) (mvT hZ (ww hw 167 rfl)) (notFace_of_selects (args := #[]) (mvT hZ (ww hw 169 rfl))) (mvT hZ (ww hw 169 rfl)) (mvT hZ (ww hw 168 rfl)) (by decide) (backOf (W := 0) (rm24E l Z a0 hw [] b52 a1 ((-1 : Int64) + ((1 : Int64) + ((v0.toUInt64 >>> ((1 : Int32) &&& 0x3f).toInt64.toUInt64).toInt64))) kA (Int32.ofNat (sA + eL)) c0 pool nP gP h95 n0 Z95 gb_b52 ⟨f101, f102, f103, f104, f105, f106⟩ f96 f98 ne52_53 ne52_54 hnP (congrArg Int32.ofNat hend)) hZ (ww hw 170 rfl) (ww hw 151 rfl) (by decide) (by decide)) q107a q107c (g := mkF m 16 _ _) rfl (by rw [hml]; rfl) (Steps.refl _) (argsL := []) (rest := []) (lenOf pd_22D1_1 rfl) rfl (by show 2 * 0 + _ ≤ _; exact Nat.le_of_eq rfl) (hb hby d22_16) (fun _ _ => ⟨rfl, e95, (by decide : 1 + 0 ≤ _), (by decide : 5 + 0 ≤ _)⟩)) rfl rfl ?_
  intro T107 Lc107 vc107 X107 hQ107
  obtain ⟨hv107, N107q, e107⟩ := hQ107
  have N107 := Fr.app N95 N107q
  refine OwnG.cv hv107 ?_
  clear hv107
  have hc19_108 : (0 : Int32) = (0 : Int32) := by decide
  refine OwnG.st (y_ifY X107 H 46 d22_19 ((if0 _ _).trans (teq hc19_108).1) (by decide) (by decide)) ?_
  exact OwnG.retV X107 hx Bd.returns (BodyLoose.notSynchronized Bd) (hb hby d22_46) (by rw [e107]; exact ⟨rfl, N107, K95, f100, V95'⟩) (by decide) (by decide)
theorem pd_22D2_0 : parseMethodDescriptor "(Lcom/example/deft_nets/deftnets/MarkingStore;I)V" = some ⟨[(.object "com/example/deft_nets/deftnets/MarkingStore"), .int], none⟩ := by decide +kernel
theorem pd_22D2_1 : parseMethodDescriptor "()Z" = some ⟨[], some .boolean⟩ := by decide +kernel
def Q22D2 (Z : State) (a1 : Addr) (p2 : Int32) (a3 : Addr) (a4 : Addr) (kx eL : Nat) (gE : Nat → Int32) (go : Nat → Int64) (gc : Nat → Int32) (v0 : Int64) (c0 : Int32) (v1 : Int64) (c1 : Int32) (h0 : Heap) (n0 : Nat) (v : Option Value) (h : Heap) (L : List Loc) : Prop := v = none ∧ Fr n0 L ∧ Keep h0 h [a3, a4] ∧ OwnA Z h a3 .long 3 (jv' (updv (updv go 0 ((-1 : Int64) + ((1 : Int64) + ((v0.toUInt64 >>> ((1 : Int32) &&& 0x3f).toInt64.toUInt64).toInt64)))) 1 (((-1 : Int64) + ((1 : Int64) + ((v0.toUInt64 >>> ((1 : Int32) &&& 0x3f).toInt64.toUInt64).toInt64))) + ((1 : Int64) + ((v1.toUInt64 >>> ((1 : Int32) &&& 0x3f).toInt64.toUInt64).toInt64))))) ∧ OwnA Z h a4 .int 3 (iv' (updv (updv gc 0 c0) 1 c1))
set_option maxRecDepth 65536 in
set_option maxHeartbeats 40000000 in
theorem rm22D2 (l : Launch) (Z : State) (a0 : Array Value) (hw : HW a0 Z) (ws : List Jvm.Cond) (a1 : Addr) (p2 : Int32) (a3 : Addr) (a4 : Addr) (kx eL : Nat) (gE : Nat → Int32) (go : Nat → Int64) (gc : Nat → Int32) (v0 : Int64) (c0 : Int32) (v1 : Int64) (c1 : Int32) (h0 : Heap) (n0 : Nat) (Z0 : n0 ≤ h0.size) (gb_a3 : n0 ≤ a3) (gb_a4 : n0 ≤ a4) (hS : SD Z h0 kx a1 p2 eL gE) (hEs : Ents gE 0 eL [(v0, c0), (v1, c1)]) (A_3 : OwnA Z h0 a3 .long 3 (jv' go)) (A_4 : OwnA Z h0 a4 .int 3 (iv' gc)) (hx_a3 : kx ≤ a3) (hx_a4 : kx ≤ a4) (hne34 : a3 ≠ a4) :
    MetFree l mn_22 (head1 (Jvm.Cond.code mn_22 prog_31_method_7_code 6 none :: ws) ({ frames := 2, cells := 1, slots := 5, locals := 31 } : Room)) (fun a U => a = #[(.ref a1), (.int p2), (.ref a3), (.ref a4)] ∧ Z.Warmed39 U.vm ∧ U.heap = h0) (fun _ _ _ _ _ => True) (fun _ U o U' => ∃ v L, o = .returned v ∧ Q22D2 Z a1 p2 a3 a4 kx eL gE go gc v0 c0 v1 c1 h0 n0 v U'.heap L ∧ FrameEnd U o U' L ({ frames := 2, cells := 1, slots := 5, locals := 31 } : Room).cells ({ frames := 2, cells := 1, slots := 5, locals := 31 } : Room).slots) := by
  refine MetFree.of_bodySF (plainFor_of_name pn_22) hisR ?_
  intro p e s m args below meth c s₁ Bd hml0 hP hK
  obtain ⟨rfl, hZ, hh⟩ := hP
  have hx := Bd.exec
  have hby := Bd.bytes
  have H := And.intro hx hby
  have hml : c.maxLocals = 6 := hml0
  have hown : s.vm.findClass "com/example/deft_nets/deftnets/MarkingStore" = some m.cls := findClass_of_methodNamed Bd.named
  have hnm := (name_of_methodNamed Bd.named Bd.method).1
  have X0 : Stand p l e ({ frames := 2, cells := 1, slots := 5, locals := 31 } : Room) s m #[(.ref a1), (.int p2), (.ref a3), (.ref a4)] below meth c s₁ [] 0 0 := Stand.of_body Bd
  have e0 : s₁.heap = h0 := by rw [← hh, Bd.state]; rfl
  have N0 := Fr.nil n0
  suffices hG : OwnG p e below s (Q22D2 Z a1 p2 a3 a4 kx eL gE go gc v0 c0 v1 c1 h0 n0) ({ frames := 2, cells := 1, slots := 5, locals := 31 } : Room).cells ({ frames := 2, cells := 1, slots := 5, locals := 31 } : Room).slots s₁ (mkF m 0 #[.val (.ref a1), .val (.int p2), .val (.ref a3), .val (.ref a4), .unset, .unset] []) by
    obtain ⟨s2, o2, g1, g2⟩ := hG
    exact ⟨s2, o2, castTop (ef_22 m a1 p2 a3 a4) g1, g2⟩
  obtain ⟨pool, psz, start, hash, table, enc, elen, next, size, bud, nP, nS, sA, gP, gS, hM, A_p, A_s, ne_p, ne_s, hk1, hk2, hk3, hnP, hnS, hm0, hm1, hs0, hs1, hle, hgE⟩ := hS
  obtain ⟨EMS_51, FMS0_51, FMS1_51, FMS2_51, FMS3_51, FMS4_51, FMS5_51, FMS6_51, FMS7_51, FMS8_51, FMS9_51⟩ := hM
  have w1 : (1 : Int32).toInt = 1 := rfl
  have hp1 := x_iadd p2 1 (by omega)
  have hm01 : 0 ≤ p2.toInt ∧ p2.toInt + 1 < nS := ⟨hm0, hm1⟩
  have hA0 : gS p2.toInt.toNat = Int32.ofNat sA := by rw [← Int32.toInt_inj, own_i32 _ (by omega)]; exact hs0
  have hA1 : gS (p2 + (1 : Int32)).toInt.toNat = Int32.ofNat (sA + eL) := by rw [← Int32.toInt_inj, own_i32 _ (by omega), show (p2 + (1 : Int32)).toInt.toNat = p2.toInt.toNat + 1 by omega, hs1]; omega
  have hEs' : Ents gP sA (sA + eL) [(v0, c0), (v1, c1)] := Ents.copy hEs (by omega) (fun j hj => by rw [Nat.zero_add]; exact hgE j (by omega))
  obtain ⟨kA, hE0, kB, hE1, hend⟩ := hEs'
  have hend : kB = sA + eL := hend
  have hlt0 := hE0.lt
  have hlt1 := hE1.lt
  refine OwnG.st (y_iconst X0 H (0) d22_0 rfl) ?_
  refine OwnG.st (y_istore X0 H #[.val (.ref a1), .val (.int p2), .val (.ref a3), .val (.ref a4), .val (.int (0 : Int32)), .unset] d22_1 rfl) ?_
  refine OwnG.v5 6 1 5 X0 (newO X0 hx hZ hown (ww hw 149 rfl) (ww hw 150 rfl) (ww hw 151 rfl) e0 (g := mkF m 3 _ _) rfl (hb hby d22_3) (by decide) (by decide)) rfl rfl ?_
  intro T52 h52 X52 e52 E52 A52 D52 _
  obtain ⟨b52, g52⟩ : ∃ z, z = h0.size := ⟨_, rfl⟩
  rw [← g52] at A52 D52 ⊢
  have ne52_53 : NeA a1 b52 := Nat.ne_of_lt (Nat.lt_of_lt_of_le (Fld.lt FMS0_51) (Nat.le_of_eq g52.symm))
  have ne52_54 : NeA pool b52 := Nat.ne_of_lt (Nat.lt_of_lt_of_le A_p.lt (Nat.le_of_eq g52.symm))
  have ne52_55 : NeA start b52 := Nat.ne_of_lt (Nat.lt_of_lt_of_le A_s.lt (Nat.le_of_eq g52.symm))
  have ne52_56 : NeA a3 b52 := Nat.ne_of_lt (Nat.lt_of_lt_of_le A_3.lt (Nat.le_of_eq g52.symm))
  have ne52_57 : NeA a4 b52 := Nat.ne_of_lt (Nat.lt_of_lt_of_le A_4.lt (Nat.le_of_eq g52.symm))
  have f58 := Fld.ext E52 FMS0_51
  have f59 := Fld.ext E52 FMS2_51
  have f60 := A_p.ext E52
  have f61 := A_s.ext E52
  have f62 := A_3.ext E52
  have f63 := A_4.ext E52
  have F52_this_0 : Fld Z h52 b52 "com/example/deft_nets/deftnets/MarkingStore$Entries" "this$0" "Lcom/example/deft_nets/deftnets/MarkingStore;" .null := D52 (Or.inr (ww hw 156 rfl)) (ty := (.object "com/example/deft_nets/deftnets/MarkingStore")) (by decide)
  have F52_mPlace : Fld Z h52 b52 "com/example/deft_nets/deftnets/MarkingStore$Entries" "mPlace" "J" (.long (0 : Int64)) := D52 (Or.inl (ww hw 160 rfl)) (ty := .long) (by decide)
  have F52_mAt : Fld Z h52 b52 "com/example/deft_nets/deftnets/MarkingStore$Entries" "mAt" "I" (.int (0 : Int32)) := D52 (Or.inl (ww hw 163 rfl)) (ty := .int) (by decide)
  have F52_mEnd : Fld Z h52 b52 "com/example/deft_nets/deftnets/MarkingStore$Entries" "mEnd" "I" (.int (0 : Int32)) := D52 (Or.inr (ww hw 165 rfl)) (ty := .int) (by decide)
  have F52_mCount : Fld Z h52 b52 "com/example/deft_nets/deftnets/MarkingStore$Entries" "mCount" "I" (.int (0 : Int32)) := D52 (Or.inl (ww hw 177 rfl)) (ty := .int) (by decide)
  have gb_b52 : LeA (n0) (b52) := Nat.le_trans Z0 (Nat.le_of_eq g52.symm)
  have Z52 : LeA (n0) (h52.size) := Nat.le_trans Z0 E52.1
  have sz_b52 : LeA (h0.size) (b52) := Nat.le_trans (Keep.refl h0 [a3, a4]).1 (Nat.le_of_eq g52.symm)
  have K52 : Keep h0 h52 [a3, a4] := (Keep.refl h0 [a3, a4]).ext E52
  refine OwnG.st (y_dup X52 H d22_6 rfl) ?_
  refine OwnG.st (y_aloadN X52 H d22_7 rfl) ?_
  refine OwnG.st (y_iloadN X52 H d22_8 rfl) ?_
  refine OwnG.cm 12 1 5 X52 (X52.specialBack hx (y := mn_23) rfl hown (mvT hZ (ww hw 152 rfl)) (mvT hZ (ww hw 153 rfl)) (mvT hZ (ww hw 154 rfl)) (by decide) (backOf (W := 1) (rm23 l Z a0 hw [] b52 a1 p2 start nS gS h52 n0 Z52 gb_b52 A52 F52_this_0 F52_mPlace F52_mAt F52_mEnd F52_mCount f59 f61 ne52_53 ne52_55 hm01 hnS) hZ (ww hw 154 rfl) (ww hw 151 rfl) (by decide) (by decide)) (g := mkF m 9 _ _) rfl (by rw [hml]; rfl) (Steps.refl _) (a := b52) (argsL := [(.ref a1), (.int p2)]) (rest := [(.ref b52)]) (lenOf pd_22D2_0 rfl) rfl (by show 2 * 0 + _ ≤ _; exact Nat.le_of_eq rfl) (hb hby d22_9) (fun _ _ => ⟨rfl, e52, (by decide : 1 + 0 ≤ _), (by decide : 5 + 0 ≤ _)⟩)) rfl rfl ?_
  intro T64 Lc64 vc64 X64 hQ64
  obtain ⟨hv64, N64q, Kq64, ENq64⟩ := hQ64
  have Z64 : LeA (n0) (T64.heap.size) := Nat.le_trans Z52 Kq64.1
  have f65 := Fld.keep f58 Kq64 (ninS ne52_53 nin0)
  have f67 := f60.keep Kq64 (ninS ne52_54 nin0)
  have f69 := f62.keep Kq64 (ninS ne52_56 nin0)
  have f70 := f63.keep Kq64 (ninS ne52_57 nin0)
  have K64 : Keep h0 T64.heap [a3, a4] := K52.trans Kq64 (own_trS (P := fun x => x ∈ [a3, a4] ∨ h0.size ≤ x) (Or.inr sz_b52) own_tr0)
  have ENr64 : EN Z T64.heap b52 a1 (-1 : Int64) (Int32.ofNat sA) (Int32.ofNat (sA + eL)) (0 : Int32) := by have q := ENq64; rw [hA0, hA1] at q; exact q
  obtain ⟨EEN_72, FEN0_72, FEN1_72, FEN2_72, FEN3_72, FEN4_72⟩ := ENr64
  have N64 := Fr.app N0 N64q
  refine OwnG.cn hv64 ?_
  clear hv64
  refine OwnG.st (y_astore X64 H #[.val (.ref a1), .val (.int p2), .val (.ref a3), .val (.ref a4), .val (.int (0 : Int32)), .val (.ref b52)] d22_12 rfl) ?_
  refine OwnG.st (y_aload X64 H d22_14 rfl) ?_
  obtain ⟨cq73, kq73, q73a, q73b, q73c⟩ := isOf hZ rfl EEN_72
  refine OwnG.cm 19 1 5 X64 (X64.virtualBack hx (y := mn_24) (z := mn_24) hown (mvT hZ (ww hw 166 rfl)) (mvT hZ (ww hw 167 rfl)) (notFace_of_selects (args := #[]) (mvT hZ (ww hw 169 rfl))) (mvT hZ (ww hw 169 rfl)) (mvT hZ (ww hw 168 rfl)) (by decide) (backOf (W := 0) (rm24X l Z a0 hw [] b52 a1 (-1 : Int64) sA (Int32.ofNat (sA + eL)) (0 : Int32) pool nP gP kA v0 c0 T64.heap n0 Z64 gb_b52 ⟨EEN_72, FEN0_72, FEN1_72, FEN2_72, FEN3_72, FEN4_72⟩ f65 f67 ne52_53 ne52_54 hnP (own_one _ _ (by omega) (by omega)) hE0 (by omega)) hZ (ww hw 170 rfl) (ww hw 151 rfl) (by decide) (by decide)) q73a q73c (g := mkF m 16 _ _) rfl (by rw [hml]; rfl) (Steps.refl _) (argsL := []) (rest := []) (lenOf pd_22D2_1 rfl) rfl (by show 2 * 0 + _ ≤ _; exact Nat.le_of_eq rfl) (hb hby d22_16) (fun _ _ => ⟨rfl, rfl, (by decide : 1 + 0 ≤ _), (by decide : 5 + 0 ≤ _)⟩)) rfl rfl ?_
  intro T73 Lc73 vc73 X73 hQ73
  obtain ⟨hv73, N73q, Kq73, ENq73⟩ := hQ73
  have Z73 : LeA (n0) (T73.heap.size) := Nat.le_trans Z64 Kq73.1
  have f74 := Fld.keep f65 Kq73 (ninS ne52_53 nin0)
  have f76 := f67.keep Kq73 (ninS ne52_54 nin0)
  have f78 := f69.keep Kq73 (ninS ne52_56 nin0)
  have f79 := f70.keep Kq73 (ninS ne52_57 nin0)
  have K73 : Keep h0 T73.heap [a3, a4] := K64.trans Kq73 (own_trS (P := fun x => x ∈ [a3, a4] ∨ h0.size ≤ x) (Or.inr sz_b52) own_tr0)
  obtain ⟨EEN_81, FEN0_81, FEN1_81, FEN2_81, FEN3_81, FEN4_81⟩ := ENq73
  have N73 := Fr.app N64 N73q
  refine OwnG.cv hv73 ?_
  clear hv73
  have hc19_82 : ¬ ((1 : Int32) = (0 : Int32)) := by decide
  refine OwnG.st (y_ifN X73 H d22_19 ((if0 _ _).trans (feq hc19_82).1)) ?_
  refine OwnG.st (y_aloadN X73 H d22_22 rfl) ?_
  refine OwnG.st (y_iload X73 H d22_23 rfl) ?_
  refine OwnG.st (y_aload X73 H d22_25 rfl) ?_
  refine OwnG.st (y_getR X73 H hZ hown (ww hw 178 rfl) rfl FEN1_81 d22_27) ?_
  refine OwnG.v3 31 (own_stJ f78 X73 hx hZ rfl (by decide) (by decide) (gf := mkF m 30 _ _) rfl rfl (hb hby d22_30)) ?_
  intro T83 h83 X83 e83 W83 V83
  have V83' : OwnA Z h83 a3 .long 3 (jv' (updv go 0 ((-1 : Int64) + ((1 : Int64) + ((v0.toUInt64 >>> ((1 : Int32) &&& 0x3f).toInt64.toUInt64).toInt64))))) := V83
  have f84 := Fld.other W83 f74 (Or.inl (Nat.ne_of_lt (Nat.lt_of_lt_of_le hk1 hx_a3)))
  have f86 := f76.other W83 (Nat.ne_of_lt (Nat.lt_of_lt_of_le hk2 hx_a3))
  have f88 := f79.other W83 (Ne.symm hne34)
  have f89 := Exa.wr W83 EEN_81
  have f90 := Fld.other W83 FEN0_81 (Or.inl (Ne.symm ne52_56))
  have f91 := Fld.other W83 FEN1_81 (Or.inl (Ne.symm ne52_56))
  have f92 := Fld.other W83 FEN2_81 (Or.inl (Ne.symm ne52_56))
  have f93 := Fld.other W83 FEN3_81 (Or.inl (Ne.symm ne52_56))
  have f94 := Fld.other W83 FEN4_81 (Or.inl (Ne.symm ne52_56))
  have N83 := Fr.snoc X83 N73 gb_a3
  have Z83 : LeA (n0) (h83.size) := by rw [W83.size]; exact Z73
  have K83 : Keep h0 h83 [a3, a4] := K73.wr W83 (Or.inl (by simp))
  refine OwnG.st (y_aloadN X83 H d22_31 rfl) ?_
  refine OwnG.st (y_iload X83 H d22_32 rfl) ?_
  refine OwnG.st (y_aload X83 H d22_34 rfl) ?_
  refine OwnG.st (y_getR X83 H hZ hown (ww hw 179 rfl) e83 f94 d22_36) ?_
  refine OwnG.v3 40 (own_stI f88 X83 hx hZ e83 (by decide) (by decide) (gf := mkF m 39 _ _) rfl rfl (hb hby d22_39)) ?_
  intro T95 h95 X95 e95 W95 V95
  have V95' : OwnA Z h95 a4 .int 3 (iv' (updv gc 0 c0)) := V95
  have f96 := Fld.other W95 f84 (Or.inl (Nat.ne_of_lt (Nat.lt_of_lt_of_le hk1 hx_a4)))
  have f98 := f86.other W95 (Nat.ne_of_lt (Nat.lt_of_lt_of_le hk2 hx_a4))
  have f100 := V83'.other W95 hne34
  have f101 := Exa.wr W95 f89
  have f102 := Fld.other W95 f90 (Or.inl (Ne.symm ne52_57))
  have f103 := Fld.other W95 f91 (Or.inl (Ne.symm ne52_57))
  have f104 := Fld.other W95 f92 (Or.inl (Ne.symm ne52_57))
  have f105 := Fld.other W95 f93 (Or.inl (Ne.symm ne52_57))
  have f106 := Fld.other W95 f94 (Or.inl (Ne.symm ne52_57))
  have N95 := Fr.snoc X95 N83 gb_a4
  have Z95 : LeA (n0) (h95.size) := by rw [W95.size]; exact Z83
  have K95 : Keep h0 h95 [a3, a4] := K83.wr W95 (Or.inl (by simp))
  refine OwnG.st (y_iinc X95 H #[.val (.ref a1), .val (.int p2), .val (.ref a3), .val (.ref a4), .val (.int (1 : Int32)), .val (.ref b52)] d22_40 rfl rfl) ?_
  refine OwnG.st (y_goto X95 H 14 d22_43 (by decide) (by decide)) ?_
  refine OwnG.st (y_aload X95 H d22_14 rfl) ?_
  obtain ⟨cq107, kq107, q107a, q107b, q107c⟩ := isOf hZ e95 f101
  refine OwnG.cm 19 1 5 X95 (X95.virtualBack hx (y := mn_24) (z := mn_24) hown (mvT hZ (ww hw 166 rfl)) (mvT hZ (ww hw 167 rfl)) (notFace_of_selects (args := #[]) (mvT hZ (ww hw 169 rfl))) (mvT hZ (ww hw 169 rfl)) (mvT hZ (ww hw 168 rfl)) (by decide) (backOf (W := 0) (rm24X l Z a0 hw [] b52 a1 ((-1 : Int64) + ((1 : Int64) + ((v0.toUInt64 >>> ((1 : Int32) &&& 0x3f).toInt64.toUInt64).toInt64))) kA (Int32.ofNat (sA + eL)) c0 pool nP gP kB v1 c1 h95 n0 Z95 gb_b52 ⟨f101, f102, f103, f104, f105, f106⟩ f96 f98 ne52_53 ne52_54 hnP (own_one _ _ (by omega) (by omega)) hE1 (by omega)) hZ (ww hw 170 rfl) (ww hw 151 rfl) (by decide) (by decide)) q107a q107c (g := mkF m 16 _ _) rfl (by rw [hml]; rfl) (Steps.refl _) (argsL := []) (rest := []) (lenOf pd_22D2_1 rfl) rfl (by show 2 * 0 + _ ≤ _; exact Nat.le_of_eq rfl) (hb hby d22_16) (fun _ _ => ⟨rfl, e95, (by decide : 1 + 0 ≤ _), (by decide : 5 + 0 ≤ _)⟩)) rfl rfl ?_
  intro T107 Lc107 vc107 X107 hQ107
  obtain ⟨hv107, N107q, Kq107, ENq107⟩ := hQ107
  have Z107 : LeA (n0) (T107.heap.size) := Nat.le_trans Z95 Kq107.1
  have f108 := Fld.keep f96 Kq107 (ninS ne52_53 nin0)
  have f110 := f98.keep Kq107 (ninS ne52_54 nin0)
  have f112 := f100.keep Kq107 (ninS ne52_56 nin0)
  have f113 := V95'.keep Kq107 (ninS ne52_57 nin0)
  have K107 : Keep h0 T107.heap [a3, a4] := K95.trans Kq107 (own_trS (P := fun x => x ∈ [a3, a4] ∨ h0.size ≤ x) (Or.inr sz_b52) own_tr0)
  obtain ⟨EEN_115, FEN0_115, FEN1_115, FEN2_115, FEN3_115, FEN4_115⟩ := ENq107
  have N107 := Fr.app N95 N107q
  refine OwnG.cv hv107 ?_
  clear hv107
  have hc19_116 : ¬ ((1 : Int32) = (0 : Int32)) := by decide
  refine OwnG.st (y_ifN X107 H d22_19 ((if0 _ _).trans (feq hc19_116).1)) ?_
  refine OwnG.st (y_aloadN X107 H d22_22 rfl) ?_
  refine OwnG.st (y_iload X107 H d22_23 rfl) ?_
  refine OwnG.st (y_aload X107 H d22_25 rfl) ?_
  refine OwnG.st (y_getR X107 H hZ hown (ww hw 178 rfl) rfl FEN1_115 d22_27) ?_
  refine OwnG.v3 31 (own_stJ f112 X107 hx hZ rfl (by decide) (by decide) (gf := mkF m 30 _ _) rfl rfl (hb hby d22_30)) ?_
  intro T117 h117 X117 e117 W117 V117
  have V117' : OwnA Z h117 a3 .long 3 (jv' (updv (updv go 0 ((-1 : Int64) + ((1 : Int64) + ((v0.toUInt64 >>> ((1 : Int32) &&& 0x3f).toInt64.toUInt64).toInt64)))) 1 (((-1 : Int64) + ((1 : Int64) + ((v0.toUInt64 >>> ((1 : Int32) &&& 0x3f).toInt64.toUInt64).toInt64))) + ((1 : Int64) + ((v1.toUInt64 >>> ((1 : Int32) &&& 0x3f).toInt64.toUInt64).toInt64))))) := V117
  have f118 := Fld.other W117 f108 (Or.inl (Nat.ne_of_lt (Nat.lt_of_lt_of_le hk1 hx_a3)))
  have f120 := f110.other W117 (Nat.ne_of_lt (Nat.lt_of_lt_of_le hk2 hx_a3))
  have f122 := f113.other W117 (Ne.symm hne34)
  have f123 := Exa.wr W117 EEN_115
  have f124 := Fld.other W117 FEN0_115 (Or.inl (Ne.symm ne52_56))
  have f125 := Fld.other W117 FEN1_115 (Or.inl (Ne.symm ne52_56))
  have f126 := Fld.other W117 FEN2_115 (Or.inl (Ne.symm ne52_56))
  have f127 := Fld.other W117 FEN3_115 (Or.inl (Ne.symm ne52_56))
  have f128 := Fld.other W117 FEN4_115 (Or.inl (Ne.symm ne52_56))
  have N117 := Fr.snoc X117 N107 gb_a3
  have Z117 : LeA (n0) (h117.size) := by rw [W117.size]; exact Z107
  have K117 : Keep h0 h117 [a3, a4] := K107.wr W117 (Or.inl (by simp))
  refine OwnG.st (y_aloadN X117 H d22_31 rfl) ?_
  refine OwnG.st (y_iload X117 H d22_32 rfl) ?_
  refine OwnG.st (y_aload X117 H d22_34 rfl) ?_
  refine OwnG.st (y_getR X117 H hZ hown (ww hw 179 rfl) e117 f128 d22_36) ?_
  refine OwnG.v3 40 (own_stI f122 X117 hx hZ e117 (by decide) (by decide) (gf := mkF m 39 _ _) rfl rfl (hb hby d22_39)) ?_
  intro T129 h129 X129 e129 W129 V129
  have V129' : OwnA Z h129 a4 .int 3 (iv' (updv (updv gc 0 c0) 1 c1)) := V129
  have f130 := Fld.other W129 f118 (Or.inl (Nat.ne_of_lt (Nat.lt_of_lt_of_le hk1 hx_a4)))
  have f132 := f120.other W129 (Nat.ne_of_lt (Nat.lt_of_lt_of_le hk2 hx_a4))
  have f134 := V117'.other W129 hne34
  have f135 := Exa.wr W129 f123
  have f136 := Fld.other W129 f124 (Or.inl (Ne.symm ne52_57))
  have f137 := Fld.other W129 f125 (Or.inl (Ne.symm ne52_57))
  have f138 := Fld.other W129 f126 (Or.inl (Ne.symm ne52_57))
  have f139 := Fld.other W129 f127 (Or.inl (Ne.symm ne52_57))
  have f140 := Fld.other W129 f128 (Or.inl (Ne.symm ne52_57))
  have N129 := Fr.snoc X129 N117 gb_a4
  have Z129 : LeA (n0) (h129.size) := by rw [W129.size]; exact Z117
  have K129 : Keep h0 h129 [a3, a4] := K117.wr W129 (Or.inl (by simp))
  refine OwnG.st (y_iinc X129 H #[.val (.ref a1), .val (.int p2), .val (.ref a3), .val (.ref a4), .val (.int (2 : Int32)), .val (.ref b52)] d22_40 rfl rfl) ?_
  refine OwnG.st (y_goto X129 H 14 d22_43 (by decide) (by decide)) ?_
  refine OwnG.st (y_aload X129 H d22_14 rfl) ?_
  obtain ⟨cq141, kq141, q141a, q141b, q141c⟩ := isOf hZ e129 f135
  refine OwnG.cm 19 1 5 X129 (X129.virtualBack hx (y := mn_24) (z := mn_24) hown (mvT hZ (ww hw 166 rfl)) (mvT hZ (ww hw 167 rfl)) (notFace_of_selects (args := #[]) (mvT hZ (ww hw 169 rfl))) (mvT hZ (ww hw 169 rfl)) (mvT hZ (ww hw 168 rfl)) (by decide) (backOf (W := 0) (rm24E l Z a0 hw [] b52 a1 (((-1 : Int64) + ((1 : Int64) + ((v0.toUInt64 >>> ((1 : Int32) &&& 0x3f).toInt64.toUInt64).toInt64))) + ((1 : Int64) + ((v1.toUInt64 >>> ((1 : Int32) &&& 0x3f).toInt64.toUInt64).toInt64))) kB (Int32.ofNat (sA + eL)) c1 pool nP gP h129 n0 Z129 gb_b52 ⟨f135, f136, f137, f138, f139, f140⟩ f130 f132 ne52_53 ne52_54 hnP (congrArg Int32.ofNat hend)) hZ (ww hw 170 rfl) (ww hw 151 rfl) (by decide) (by decide)) q141a q141c (g := mkF m 16 _ _) rfl (by rw [hml]; rfl) (Steps.refl _) (argsL := []) (rest := []) (lenOf pd_22D2_1 rfl) rfl (by show 2 * 0 + _ ≤ _; exact Nat.le_of_eq rfl) (hb hby d22_16) (fun _ _ => ⟨rfl, e129, (by decide : 1 + 0 ≤ _), (by decide : 5 + 0 ≤ _)⟩)) rfl rfl ?_
  intro T141 Lc141 vc141 X141 hQ141
  obtain ⟨hv141, N141q, e141⟩ := hQ141
  have N141 := Fr.app N129 N141q
  refine OwnG.cv hv141 ?_
  clear hv141
  have hc19_142 : (0 : Int32) = (0 : Int32) := by decide
  refine OwnG.st (y_ifY X141 H 46 d22_19 ((if0 _ _).trans (teq hc19_142).1) (by decide) (by decide)) ?_
  exact OwnG.retV X141 hx Bd.returns (BodyLoose.notSynchronized Bd) (hb hby d22_46) (by rw [e141]; exact ⟨rfl, N141, K129, f134, V129'⟩) (by decide) (by decide)
theorem own_msE {Z : State} {h h' : Heap} {a1 : Addr} {pool : Addr} {psz : Int32} {start : Addr} {hash : Addr} {table : Addr} {enc : Addr} {elen : Int32} {next : Int64} {size : Int32} {bud : Addr} (E : Ext h h') (H : MS Z h a1 pool psz start hash table enc elen next size bud) : MS Z h' a1 pool psz start hash table enc elen next size bud := by
  obtain ⟨x0, x1, x2, x3, x4, x5, x6, x7, x8, x9, x10⟩ := H
  exact ⟨Exa.ext E x0, Fld.ext E x1, Fld.ext E x2, Fld.ext E x3, Fld.ext E x4, Fld.ext E x5, Fld.ext E x6, Fld.ext E x7, Fld.ext E x8, Fld.ext E x9, Fld.ext E x10⟩
theorem own_msW {Z : State} {h h' : Heap} {a1 : Addr} {pool : Addr} {psz : Int32} {start : Addr} {hash : Addr} {table : Addr} {enc : Addr} {elen : Int32} {next : Int64} {size : Int32} {bud : Addr} {a : Addr} {sl : Nat} {v : Value} (W : Wr h h' a sl v) (q : a1 ≠ a) (H : MS Z h a1 pool psz start hash table enc elen next size bud) : MS Z h' a1 pool psz start hash table enc elen next size bud := by
  obtain ⟨x0, x1, x2, x3, x4, x5, x6, x7, x8, x9, x10⟩ := H
  exact ⟨Exa.wr W x0, Fld.other W x1 (Or.inl q), Fld.other W x2 (Or.inl q), Fld.other W x3 (Or.inl q), Fld.other W x4 (Or.inl q), Fld.other W x5 (Or.inl q), Fld.other W x6 (Or.inl q), Fld.other W x7 (Or.inl q), Fld.other W x8 (Or.inl q), Fld.other W x9 (Or.inl q), Fld.other W x10 (Or.inl q)⟩
theorem SD.ext {Z : State} {h h' : Heap} {kx : Nat} {a1 : Addr} {m : Int32} {eL : Nat} {gE : Nat → Int32} (H : SD Z h kx a1 m eL gE) (E : Ext h h') : SD Z h' kx a1 m eL gE := by
  obtain ⟨y0, y1, y2, y3, y4, y5, y6, y7, y8, y9, y10, y11, y12, y13, y14, hM, Ap, As, r⟩ := H
  exact ⟨y0, y1, y2, y3, y4, y5, y6, y7, y8, y9, y10, y11, y12, y13, y14, own_msE E hM, Ap.ext E, As.ext E, r⟩
theorem SD.wr {Z : State} {h h' : Heap} {kx : Nat} {a1 : Addr} {m : Int32} {eL : Nat} {gE : Nat → Int32} (H : SD Z h kx a1 m eL gE) {a : Addr} {sl : Nat} {v : Value} (W : Wr h h' a sl v) (q : kx ≤ a) : SD Z h' kx a1 m eL gE := by
  obtain ⟨y0, y1, y2, y3, y4, y5, y6, y7, y8, y9, y10, y11, y12, y13, y14, hM, Ap, As, n1, n2, k1, k2, k3, r⟩ := H
  exact ⟨y0, y1, y2, y3, y4, y5, y6, y7, y8, y9, y10, y11, y12, y13, y14, own_msW W (Nat.ne_of_lt (Nat.lt_of_lt_of_le k1 q)) hM, Ap.other W (Nat.ne_of_lt (Nat.lt_of_lt_of_le k2 q)), As.other W (Nat.ne_of_lt (Nat.lt_of_lt_of_le k3 q)), n1, n2, k1, k2, k3, r⟩
theorem SD.exa {Z : State} {h : Heap} {kx : Nat} {a1 : Addr} {m : Int32} {eL : Nat} {gE : Nat → Int32} (H : SD Z h kx a1 m eL gE) : Exa Z h a1 "com/example/deft_nets/deftnets/MarkingStore" := by
  obtain ⟨y0, y1, y2, y3, y4, y5, y6, y7, y8, y9, y10, y11, y12, y13, y14, hM, -⟩ := H
  exact hM.1
theorem SA0.exa {Z : State} {h : Heap} {kk : Nat} {a1 : Addr} {eL : Nat} {gE : Nat → Int32} (H : SA0 Z h kk a1 eL gE) : Exa Z h a1 "com/example/deft_nets/deftnets/MarkingStore" := by
  obtain ⟨y0, y1, y2, y3, y4, y5, y6, y7, y8, y9, y10, y11, y12, y13, y14, y15, hM, -⟩ := H
  exact hM.1
theorem SA1.exa {Z : State} {h : Heap} {kk : Nat} {a1 : Addr} {e0 eL : Nat} {gX gE : Nat → Int32} (H : SA1 Z h kk a1 e0 gX eL gE) : Exa Z h a1 "com/example/deft_nets/deftnets/MarkingStore" := by
  obtain ⟨y0, y1, y2, y3, y4, y5, y6, y7, y8, y9, y10, y11, y12, y13, y14, y15, y16, y17, y18, y19, hM, -⟩ := H
  exact hM.1
theorem own_akB {Z : State} {h h' : Heap} {a : Addr} {ty : FieldType} {n : Nat} {f : Nat → Value} {kk : Nat} (A : OwnA Z h a ty n f) (K : KeepB h h' kk) (q : a < kk) : OwnA Z h' a ty n f := by
  obtain ⟨c, A, r⟩ := A
  exact ⟨c, ⟨K.2 a c q A.1, A.2⟩, r⟩
theorem own_P0 (q : Int64) (c : Int32) (h : 0 ≤ q.toInt ∧ q.toInt < 4611686018427387904) : ((-1 : Int64) + ((1 : Int64) + (((own_V (q - 0) c).toUInt64 >>> ((1 : Int32) &&& 0x3f).toInt64.toUInt64).toInt64))) = q := by
  have z : (0 : Int64).toInt = 0 := rfl
  have o : (1 : Int64).toInt = 1 := rfl
  have w : (-1 : Int64).toInt = -1 := rfl
  have a := x_lsub q 0 (by omega)
  rw [own_Vs _ _ (by omega)]
  have b := x_ladd 1 (q - 0) (by omega)
  have d := x_ladd (-1) (1 + (q - 0)) (by omega)
  rw [← Int64.toInt_inj]; omega
theorem own_P1 (q r : Int64) (c : Int32) (h : 0 ≤ q.toInt ∧ q.toInt < r.toInt ∧ r.toInt < 4611686018427387904) : (q + ((1 : Int64) + (((own_V (r - (q + 1)) c).toUInt64 >>> ((1 : Int32) &&& 0x3f).toInt64.toUInt64).toInt64))) = r := by
  have o : (1 : Int64).toInt = 1 := rfl
  have a := x_ladd q 1 (by omega)
  have a' := x_lsub r (q + 1) (by omega)
  rw [own_Vs _ _ (by omega)]
  have b := x_ladd 1 (r - (q + 1)) (by omega)
  have d := x_ladd q (1 + (r - (q + 1))) (by omega)
  rw [← Int64.toInt_inj]; omega
theorem own_q (x : Int64) : 0 ≤ (x &&& (4611686018427387903 : Int64)).toInt ∧ (x &&& (4611686018427387903 : Int64)).toInt < 4611686018427387904 := by
  have h := c_maskL x (4611686018427387903 : Int64) 62 (by decide) (by decide)
  omega
theorem own_k (y : Int32) : 1 ≤ (F1 (1 : Int32) y).toInt := by
  unfold F1
  have w : (1 : Int32).toInt = 1 := rfl
  split
  · rename_i q; rw [Int32.lt_iff_toInt_lt] at q; omega
  · omega
theorem own_and3 (a : Int32) : (a &&& (3 : Int32)) = 0 ∨ (a &&& (3 : Int32)) = 1 ∨ (a &&& (3 : Int32)) = 2 ∨ (a &&& (3 : Int32)) = 3 := by
  have h := c_mask a (3 : Int32) 2 (by decide) (by decide)
  have r : (a &&& (3 : Int32)).toInt = 0 ∨ (a &&& (3 : Int32)).toInt = 1 ∨ (a &&& (3 : Int32)).toInt = 2 ∨ (a &&& (3 : Int32)).toInt = 3 := by omega
  rcases r with q | q | q | q
  · exact Or.inl (Int32.toInt_inj.mp q)
  · exact Or.inr (Or.inl (Int32.toInt_inj.mp q))
  · exact Or.inr (Or.inr (Or.inl (Int32.toInt_inj.mp q)))
  · exact Or.inr (Or.inr (Or.inr (Int32.toInt_inj.mp q)))
theorem own_n (a : Int32) (x y : Int64) (z z' : Int32) (h : z = if (a &&& (3 : Int32)) = (3 : Int32) then (2 : Int32) else (a &&& (3 : Int32))) (h' : z' = if z = (2 : Int32) then (if x = y then (1 : Int32) else z) else z) : z' = 0 ∨ z' = 1 ∨ (z' = 2 ∧ ¬ x = y) := by
  rcases own_and3 a with k | k | k | k
  · rw [k, if_neg (by decide)] at h
    rw [h, if_neg (by decide)] at h'
    exact Or.inl h'
  · rw [k, if_neg (by decide)] at h
    rw [h, if_neg (by decide)] at h'
    exact Or.inr (Or.inl h')
  · rw [k, if_neg (by decide)] at h
    rw [h, if_pos rfl] at h'
    by_cases q : x = y
    · rw [if_pos q] at h'; exact Or.inr (Or.inl h')
    · rw [if_neg q] at h'; exact Or.inr (Or.inr ⟨h', q⟩)
  · rw [k, if_pos rfl] at h
    rw [h, if_pos rfl] at h'
    by_cases q : x = y
    · rw [if_pos q] at h'; exact Or.inr (Or.inl h')
    · rw [if_neg q] at h'; exact Or.inr (Or.inr ⟨h', q⟩)
theorem own_o2 (x : Int32) : 0 ≤ ((x &&& (255 : Int32)).toInt64).toInt ∧ ((x &&& (255 : Int32)).toInt64).toInt ≤ 255 := by
  have h := c_mask x (255 : Int32) 8 (by decide) (by decide)
  have a := c_i2l (x &&& (255 : Int32))
  omega
theorem own_o3 (x : Int32) : 1 ≤ ((1 : Int32) + (x &&& (3 : Int32))).toInt ∧ ((1 : Int32) + (x &&& (3 : Int32))).toInt ≤ 4 := by
  have h := c_mask x (3 : Int32) 2 (by decide) (by decide)
  have w : (1 : Int32).toInt = 1 := rfl
  have a := x_iadd 1 (x &&& (3 : Int32)) (by omega)
  omega
theorem pn_0 : plainName "com/example/deft_nets/deftnets/MarkingStoreDecodePinLaw" = true := by first | (simp [plainName, overriddenIn]; done) | decide +kernel
theorem pd_0H0_0 : parseMethodDescriptor "(JLjava/lang/String;)V" = some ⟨[.long, (.object "java/lang/String")], none⟩ := by decide +kernel
theorem pd_0H0_1 : parseMethodDescriptor "(Lcom/example/deft_nets/deftnets/MemoryBudget;)V" = some ⟨[(.object "com/example/deft_nets/deftnets/MemoryBudget")], none⟩ := by decide +kernel
theorem pd_0H0_2 : parseMethodDescriptor "([J[II)I" = some ⟨[(.array .long), (.array .int), .int], some .int⟩ := by decide +kernel
theorem pd_0H0_3 : parseMethodDescriptor "(I[J[I)V" = some ⟨[.int, (.array .long), (.array .int)], none⟩ := by decide +kernel
theorem ef_0 (m : MethodId) (q1 : Int64) (q2 : Int64) (p3 : Int32) (p4 : Int32) (p5 : Int32) : entryFrame m #[(.long q1), (.long q2), (.int p3), (.int p4), (.int p5)] maxLocals = mkF m 0 #[.val (.long q1), .second, .val (.long q2), .second, .val (.int p3), .val (.int p4), .val (.int p5), .unset, .unset, .unset, .unset, .unset, .unset, .unset, .unset, .unset, .unset, .unset, .unset, .unset, .unset, .unset, .unset] [] := by first | (simp [entryFrame, mkF, argsToLocals, Value.category, maxLocals]; done) | rfl
set_option maxRecDepth 65536 in
set_option maxHeartbeats 40000000 in
theorem rm0H0 (l : Launch) (Z : State) (a0 : Array Value) (hw : HW a0 Z) {p : Program} {e : Env} {s : State} {m : MethodId} {below : List Frame} {meth : Method} {c : Code} (q1 : Int64) (q2 : Int64) (p3 : Int32) (p4 : Int32) (p5 : Int32) (l7 l9 : Int64) (l11 l12 : Int32) (a14 a15 a16 a17 astr bud sto : Addr) (g2 : Nat → Int64) (g3 : Nat → Int32) (o2 : Nat → Int64) (o3 : Nat → Int32) (s₁ : State) (lc : List Loc) (h0 : Heap) (n0 k1 : Nat) (hx : p.tables.exec = Jvm.exec) (hby : c.code = code) (hml : c.maxLocals = 23) (hret : meth.sig.returnType = some .boolean) (hlk : meth.locks = false) (hZ : Z.Warmed39 s.vm) (hown : s.vm.findClass "com/example/deft_nets/deftnets/MarkingStoreDecodePinLaw" = some m.cls) (X0 : Stand p l e room_1 s m #[(.long q1), (.long q2), (.int p3), (.int p4), (.int p5)] below meth c s₁ lc 8 35) (e0 : s₁.heap = h0) (N0 : Fr n0 lc) (Z0 : n0 ≤ h0.size) (hk1 : k1 ≤ h0.size) (hl_a14 : a14 < sto) (hl_a15 : a15 < sto) (hl_a16 : a16 < sto) (hl_a17 : a17 < sto) (gb_sto : n0 ≤ sto) (gb_bud : n0 ≤ bud) (hsb : sto ≤ bud) (hne : bud ≠ sto) (A_14 : OwnA Z h0 a14 .long 2 (jv' g2)) (A_15 : OwnA Z h0 a15 .int 2 (iv' g3)) (A_16 : OwnA Z h0 a16 .long 1 (jv' o2)) (A_17 : OwnA Z h0 a17 .int 1 (iv' o3)) (E_sto : Exa Z h0 sto "com/example/deft_nets/deftnets/MarkingStore") (S_mPool : Fld Z h0 sto "com/example/deft_nets/deftnets/MarkingStore" "mPool" "[B" .null) (S_mPoolSize : Fld Z h0 sto "com/example/deft_nets/deftnets/MarkingStore" "mPoolSize" "I" (.int (0 : Int32))) (S_mStart : Fld Z h0 sto "com/example/deft_nets/deftnets/MarkingStore" "mStart" "[I" .null) (S_mHash : Fld Z h0 sto "com/example/deft_nets/deftnets/MarkingStore" "mHash" "[I" .null) (S_mTable : Fld Z h0 sto "com/example/deft_nets/deftnets/MarkingStore" "mTable" "[I" .null) (S_mEncoded : Fld Z h0 sto "com/example/deft_nets/deftnets/MarkingStore" "mEncoded" "[B" .null) (S_mEncodedLength : Fld Z h0 sto "com/example/deft_nets/deftnets/MarkingStore" "mEncodedLength" "I" (.int (0 : Int32))) (S_mNextPlace : Fld Z h0 sto "com/example/deft_nets/deftnets/MarkingStore" "mNextPlace" "J" (.long (0 : Int64))) (S_mSize : Fld Z h0 sto "com/example/deft_nets/deftnets/MarkingStore" "mSize" "I" (.int (0 : Int32))) (S_mBudget : Fld Z h0 sto "com/example/deft_nets/deftnets/MarkingStore" "mBudget" "Lcom/example/deft_nets/deftnets/MemoryBudget;" .null) (E_bud : Exa Z h0 bud "com/example/deft_nets/deftnets/MemoryBudget") (B_mLimit : Fld Z h0 bud "com/example/deft_nets/deftnets/MemoryBudget" "mLimit" "J" (.long (0 : Int64))) (B_mUsed : Fld Z h0 bud "com/example/deft_nets/deftnets/MemoryBudget" "mUsed" "J" (.long (0 : Int64))) (B_mSource : Fld Z h0 bud "com/example/deft_nets/deftnets/MemoryBudget" "mSource" "Ljava/lang/String;" .null) (hov : 0 ≤ (o2 0).toInt ∧ (o2 0).toInt < 4611686018427387904) (hov5 : (o2 0).toInt ≤ 255) (hoc : 1 ≤ (o3 0).toInt) (hoc4 : (o3 0).toInt ≤ 4) :
    OwnG p e below s (fun v h L => v = some (.int 1) ∧ Fr n0 L ∧ k1 ≤ h.size) room_1.cells room_1.slots s₁ (mkF m 192 #[.val (.long q1), .second, .val (.long q2), .second, .val (.int p3), .val (.int p4), .val (.int p5), .val (.long l7), .second, .val (.long l9), .second, .val (.int l11), .val (.int l12), .val (.int (0 : Int32)), .val (.ref a14), .val (.ref a15), .val (.ref a16), .val (.ref a17), .unset, .unset, .unset, .unset, .unset] [(.ref astr), (.long (1099511627776 : Int64)), (.ref bud), (.ref bud), (.ref sto), (.ref sto)]) := by
  have H := And.intro hx hby
  refine OwnG.cm 195 8 35 X0 (X0.specialBack hx (y := mn_2) rfl hown (mvT hZ (ww hw 23 rfl)) (mvT hZ (ww hw 24 rfl)) (mvT hZ (ww hw 25 rfl)) (by decide) (backOf (W := 3) (rm2 l Z a0 hw [] bud (1099511627776 : Int64) astr  h0 n0 Z0 gb_bud E_bud B_mLimit B_mUsed B_mSource rfl) hZ (ww hw 25 rfl) (ww hw 13 rfl) (by decide) (by decide)) (g := mkF m 192 _ _) rfl (by rw [hml]; rfl) (Steps.refl _) (a := bud) (argsL := [(.long (1099511627776 : Int64)), (.ref astr)]) (rest := [(.ref bud), (.ref sto), (.ref sto)]) (lenOf pd_0H0_0 rfl) rfl (by show 2 * 0 + _ ≤ _; exact Nat.le_of_eq rfl) (hb hby at_192) (fun _ _ => ⟨rfl, e0, (by decide : 8 + 0 ≤ _), (by decide : 35 + 0 ≤ _)⟩)) rfl rfl ?_
  intro T51 Lc51 vc51 X51 hQ51
  obtain ⟨hv51, N51q, Kq51, Bq51⟩ := hQ51
  have Z51 : LeA (n0) (T51.heap.size) := Nat.le_trans Z0 Kq51.1
  have f52 := A_14.keep Kq51 (ninS (Nat.ne_of_lt (Nat.lt_of_lt_of_le hl_a14 hsb)) nin0)
  have f53 := A_15.keep Kq51 (ninS (Nat.ne_of_lt (Nat.lt_of_lt_of_le hl_a15 hsb)) nin0)
  have f54 := A_16.keep Kq51 (ninS (Nat.ne_of_lt (Nat.lt_of_lt_of_le hl_a16 hsb)) nin0)
  have f55 := A_17.keep Kq51 (ninS (Nat.ne_of_lt (Nat.lt_of_lt_of_le hl_a17 hsb)) nin0)
  have f56 := Exa.keep E_sto Kq51
  have f57 := Fld.keep S_mPool Kq51 (ninS (Ne.symm hne) nin0)
  have f58 := Fld.keep S_mPoolSize Kq51 (ninS (Ne.symm hne) nin0)
  have f59 := Fld.keep S_mStart Kq51 (ninS (Ne.symm hne) nin0)
  have f60 := Fld.keep S_mHash Kq51 (ninS (Ne.symm hne) nin0)
  have f61 := Fld.keep S_mTable Kq51 (ninS (Ne.symm hne) nin0)
  have f62 := Fld.keep S_mEncoded Kq51 (ninS (Ne.symm hne) nin0)
  have f63 := Fld.keep S_mEncodedLength Kq51 (ninS (Ne.symm hne) nin0)
  have f64 := Fld.keep S_mNextPlace Kq51 (ninS (Ne.symm hne) nin0)
  have f65 := Fld.keep S_mSize Kq51 (ninS (Ne.symm hne) nin0)
  have f66 := Fld.keep S_mBudget Kq51 (ninS (Ne.symm hne) nin0)
  have fC_k1_68 := Nat.le_trans hk1 Kq51.1
  obtain ⟨EBG_69, FBG0_69, FBG1_69⟩ := Bq51
  have N51 := Fr.app N0 N51q
  refine OwnG.cn hv51 ?_
  clear hv51
  refine OwnG.cm 198 13 36 X51 (X51.specialBack hx (y := mn_4) rfl hown (mvT hZ (ww hw 33 rfl)) (mvT hZ (ww hw 34 rfl)) (mvT hZ (ww hw 35 rfl)) (by decide) (backOf (W := 1) (rm4 l Z a0 hw [] sto bud sto T51.heap n0 Z51 gb_sto f56 f57 f58 f59 f60 f61 f62 f63 f64 f65 f66 ⟨EBG_69, FBG0_69, FBG1_69⟩ (Nat.le_refl _) hsb hne) hZ (ww hw 35 rfl) (ww hw 10 rfl) (by decide) (by decide)) (g := mkF m 195 _ _) rfl (by rw [hml]; rfl) (Steps.refl _) (a := sto) (argsL := [(.ref bud)]) (rest := [(.ref sto)]) (lenOf pd_0H0_1 rfl) rfl (by show 2 * 0 + _ ≤ _; exact Nat.le_of_eq rfl) (hb hby at_195) (fun _ _ => ⟨rfl, rfl, (by decide : 8 + 5 ≤ _), (by decide : 35 + 1 ≤ _)⟩)) rfl rfl ?_
  intro T70 Lc70 vc70 X70 hQ70
  obtain ⟨hv70, N70q, KB70, hSA70⟩ := hQ70
  have Z70 : LeA (n0) (T70.heap.size) := Nat.le_trans Z51 KB70.1
  have fAa14_70 := own_akB f52 KB70 hl_a14
  have fAa15_70 := own_akB f53 KB70 hl_a15
  have fAa16_70 := own_akB f54 KB70 hl_a16
  have fAa17_70 := own_akB f55 KB70 hl_a17
  have fk1_70 := Nat.le_trans fC_k1_68 KB70.1
  have fE_70 := hSA70.exa
  have N70 := Fr.app N51 N70q
  refine OwnG.cn hv70 ?_
  clear hv70
  refine OwnG.st (y_astore X70 H #[.val (.long q1), .second, .val (.long q2), .second, .val (.int p3), .val (.int p4), .val (.int p5), .val (.long l7), .second, .val (.long l9), .second, .val (.int l11), .val (.int l12), .val (.int (0 : Int32)), .val (.ref a14), .val (.ref a15), .val (.ref a16), .val (.ref a17), .val (.ref sto), .unset, .unset, .unset, .unset] at_198 rfl) ?_
  refine OwnG.st (y_iload X70 H at_200 rfl) ?_
  refine OwnG.st (y_iconst X70 H (4) at_202 rfl) ?_
  refine OwnG.st (y_iand X70 H at_203) ?_
  by_cases hc204_71 : (p5 &&& (4 : Int32)) = (0 : Int32)
  · refine OwnG.st (y_ifY X70 H 234 at_204 ((if0 _ _).trans (teq hc204_71).1) (by decide) (by decide)) ?_
    refine OwnG.st (y_aload X70 H at_234 rfl) ?_
    refine OwnG.st (y_aload X70 H at_236 rfl) ?_
    refine OwnG.st (y_aload X70 H at_238 rfl) ?_
    refine OwnG.st (y_iload X70 H at_240 rfl) ?_
    obtain ⟨cq72, kq72, q72a, q72b, q72c⟩ := isOf hZ rfl fE_70
    refine OwnG.cm 245 18 380 X70 (X70.virtualBack hx (y := mn_5) (z := mn_5) hown (mvT hZ (ww hw 49 rfl)) (mvT hZ (ww hw 50 rfl)) (notFace_of_selects (args := #[]) (mvT hZ (ww hw 52 rfl))) (mvT hZ (ww hw 52 rfl)) (mvT hZ (ww hw 51 rfl)) (by decide) (backOf (W := 0) (rm5F0 l Z a0 hw [] sto a14 a15 (0 : Int32) sto 2 2 g2 g3 0 (fun _ => 0) T70.heap n0 Z70 gb_sto hSA70 fAa14_70 fAa15_70 hl_a14 hl_a15 rfl (by decide) (by decide)) hZ (ww hw 53 rfl) (ww hw 10 rfl) (by decide) (by decide)) q72a q72c (g := mkF m 242 _ _) rfl (by rw [hml]; rfl) (Steps.refl _) (argsL := [(.ref a14), (.ref a15), (.int (0 : Int32))]) (rest := []) (lenOf pd_0H0_2 rfl) rfl (by show 2 * 0 + _ ≤ _; exact Nat.le_of_eq rfl) (hb hby at_242) (fun _ _ => ⟨rfl, rfl, (by decide : 13 + 5 ≤ _), (by decide : 36 + 344 ≤ _)⟩)) rfl rfl ?_
    intro T72 Lc72 vc72 X72 hQ72
    obtain ⟨el72, ge72, hv72, N72q, KB72, hEs72, hel72, hSA72⟩ := hQ72
    have Z72 : LeA (n0) (T72.heap.size) := Nat.le_trans Z70 KB72.1
    have fAa16_72 := own_akB fAa16_70 KB72 hl_a16
    have fAa17_72 := own_akB fAa17_70 KB72 hl_a17
    have fk1_72 := Nat.le_trans fk1_70 KB72.1
    have fE_72 := hSA72.exa
    have N72 := Fr.app N70 N72q
    refine OwnG.cv hv72 ?_
    clear hv72
    refine OwnG.st (y_istore X72 H #[.val (.long q1), .second, .val (.long q2), .second, .val (.int p3), .val (.int p4), .val (.int p5), .val (.long l7), .second, .val (.long l9), .second, .val (.int l11), .val (.int l12), .val (.int (0 : Int32)), .val (.ref a14), .val (.ref a15), .val (.ref a16), .val (.ref a17), .val (.ref sto), .val (.int (0 : Int32)), .unset, .unset, .unset] at_245 rfl) ?_
    refine OwnG.st (y_aload X72 H at_247 rfl) ?_
    refine OwnG.st (y_aload X72 H at_249 rfl) ?_
    refine OwnG.st (y_aload X72 H at_251 rfl) ?_
    refine OwnG.st (y_iconst X72 H (1) at_253 rfl) ?_
    obtain ⟨cq73, kq73, q73a, q73b, q73c⟩ := isOf hZ rfl fE_72
    refine OwnG.cm 257 22 708 X72 (X72.virtualBack hx (y := mn_5) (z := mn_5) hown (mvT hZ (ww hw 49 rfl)) (mvT hZ (ww hw 50 rfl)) (notFace_of_selects (args := #[]) (mvT hZ (ww hw 52 rfl))) (mvT hZ (ww hw 52 rfl)) (mvT hZ (ww hw 51 rfl)) (by decide) (backOf (W := 0) (rm5S1 l Z a0 hw [] sto a16 a17 (1 : Int32) sto 1 1 o2 o3 el72 ge72 el72 ge72 T72.heap n0 Z72 gb_sto hSA72 fAa16_72 fAa17_72 hl_a16 hl_a17 rfl (by decide) (by decide) hov hoc (Or.inr ⟨hov5, hoc4⟩)) hZ (ww hw 53 rfl) (ww hw 10 rfl) (by decide) (by decide)) q73a q73c (g := mkF m 254 _ _) rfl (by rw [hml]; rfl) (Steps.refl _) (argsL := [(.ref a16), (.ref a17), (.int (1 : Int32))]) (rest := []) (lenOf pd_0H0_2 rfl) rfl (by show 2 * 0 + _ ≤ _; exact Nat.le_of_eq rfl) (hb hby at_254) (fun _ _ => ⟨rfl, rfl, (by decide : 18 + 4 ≤ _), (by decide : 380 + 328 ≤ _)⟩)) rfl rfl ?_
    intro T73 Lc73 vc73 X73 hQ73
    obtain ⟨mm73, el73, ge73, hv73, N73q, KB73, hEs73, hSx73, hSy73⟩ := hQ73
    have Z73 : LeA (n0) (T73.heap.size) := Nat.le_trans Z72 KB73.1
    have fk1_73 := Nat.le_trans fk1_72 KB73.1
    have fE_73 := hSx73.exa
    obtain ⟨kx, hkx⟩ : ∃ k, k = T73.heap.size := ⟨_, rfl⟩
    rw [← hkx] at hSx73 hSy73
    have N73 := Fr.app N72 N73q
    refine OwnG.cv hv73 ?_
    clear hv73
    refine OwnG.st (y_pop X73 H at_257 rfl) ?_
    refine OwnG.st (y_iconst X73 H (3) at_258 rfl) ?_
    refine OwnG.v4 261 23 711 X73 (newP X73 hx hZ (ww hw 6 rfl) rfl (g := mkF m 259 _ _) rfl (hb hby at_259) rfl (by decide) (cap := 3) (by decide) (by decide) (by decide) (by decide)) rfl rfl ?_
    intro T74 h74 k74 X74 e74 E74 A74
    obtain ⟨b74, g74⟩ : ∃ z, z = T73.heap.size := ⟨_, rfl⟩
    rw [← g74] at A74 ⊢
    have V74 : OwnA Z h74 b74 .long 3 (jv' fun _ => 0) := own_newA A74 (by decide)
    have fC_k1_84 := Nat.le_trans fk1_73 E74.1
    have f85 := Exa.ext E74 fE_73
    have fC_kx_86 := Nat.le_trans (Nat.le_of_eq hkx) E74.1
    have fC_sd_87 := SD.ext hSy73 E74
    have gb_b74 : LeA (n0) (b74) := Nat.le_trans Z73 (Nat.le_of_eq g74.symm)
    have Z74 : LeA (n0) (h74.size) := Nat.le_trans Z73 E74.1
    have kx_b74 : kx ≤ b74 := Nat.le_trans (Nat.le_of_eq hkx) (Nat.le_of_eq g74.symm)
    refine OwnG.st (y_astore X74 H #[.val (.long q1), .second, .val (.long q2), .second, .val (.int p3), .val (.int p4), .val (.int p5), .val (.long l7), .second, .val (.long l9), .second, .val (.int l11), .val (.int l12), .val (.int (0 : Int32)), .val (.ref a14), .val (.ref a15), .val (.ref a16), .val (.ref a17), .val (.ref sto), .val (.int (0 : Int32)), .val (.ref b74), .unset, .unset] at_261 rfl) ?_
    refine OwnG.st (y_iconst X74 H (3) at_263 rfl) ?_
    refine OwnG.v4 266 24 714 X74 (newP X74 hx hZ (ww hw 7 rfl) e74 (g := mkF m 264 _ _) rfl (hb hby at_264) rfl (by decide) (cap := 3) (by decide) (by decide) (by decide) (by decide)) rfl rfl ?_
    intro T88 h88 k88 X88 e88 E88 A88
    obtain ⟨b88, g88⟩ : ∃ z, z = h74.size := ⟨_, rfl⟩
    rw [← g88] at A88 ⊢
    have ne88_94 : NeA b74 b88 := Nat.ne_of_lt (Nat.lt_of_lt_of_le V74.lt (Nat.le_of_eq g88.symm))
    have V88 : OwnA Z h88 b88 .int 3 (iv' fun _ => 0) := own_newA A88 (by decide)
    have fC_k1_99 := Nat.le_trans fC_k1_84 E88.1
    have f100 := Exa.ext E88 f85
    have fC_sd_102 := SD.ext fC_sd_87 E88
    have f103 := V74.ext E88
    have gb_b88 : LeA (n0) (b88) := Nat.le_trans Z74 (Nat.le_of_eq g88.symm)
    have Z88 : LeA (n0) (h88.size) := Nat.le_trans Z74 E88.1
    have kx_b88 : kx ≤ b88 := Nat.le_trans fC_kx_86 (Nat.le_of_eq g88.symm)
    refine OwnG.st (y_astore X88 H #[.val (.long q1), .second, .val (.long q2), .second, .val (.int p3), .val (.int p4), .val (.int p5), .val (.long l7), .second, .val (.long l9), .second, .val (.int l11), .val (.int l12), .val (.int (0 : Int32)), .val (.ref a14), .val (.ref a15), .val (.ref a16), .val (.ref a17), .val (.ref sto), .val (.int (0 : Int32)), .val (.ref b74), .val (.ref b88), .unset] at_266 rfl) ?_
    refine OwnG.st (y_aload X88 H at_268 rfl) ?_
    refine OwnG.st (y_iconst X88 H (0) at_270 rfl) ?_
    refine OwnG.st (y_ldc2 X88 H hown (mvT hZ (ww hw 143 rfl)) at_271) ?_
    refine OwnG.v3 275 (own_stJ f103 X88 hx hZ e88 (by decide) (by decide) (gf := mkF m 274 _ _) rfl rfl (hb hby at_274)) ?_
    intro T104 h104 X104 e104 W104 V104
    have V104' : OwnA Z h104 b74 .long 3 (jv' (updv (fun _ => 0) 0 (-5 : Int64))) := V104
    have fC_k1_109 := Nat.le_trans fC_k1_99 (Nat.le_of_eq W104.size.symm)
    have f110 := Exa.wr W104 f100
    have fC_sd_112 := SD.wr fC_sd_102 W104 kx_b74
    have f113 := V88.other W104 (Ne.symm ne88_94)
    have N104 := Fr.snoc X104 N73 gb_b74
    have Z104 : LeA (n0) (h104.size) := by rw [W104.size]; exact Z88
    refine OwnG.st (y_aload X104 H at_275 rfl) ?_
    refine OwnG.st (y_iconst X104 H (1) at_277 rfl) ?_
    refine OwnG.st (y_ldc2 X104 H hown (mvT hZ (ww hw 143 rfl)) at_278) ?_
    refine OwnG.v3 282 (own_stJ V104' X104 hx hZ e104 (by decide) (by decide) (gf := mkF m 281 _ _) rfl rfl (hb hby at_281)) ?_
    intro T114 h114 X114 e114 W114 V114
    have V114' : OwnA Z h114 b74 .long 3 (jv' (updv (updv (fun _ => 0) 0 (-5 : Int64)) 1 (-5 : Int64))) := V114
    have fC_k1_119 := Nat.le_trans fC_k1_109 (Nat.le_of_eq W114.size.symm)
    have f120 := Exa.wr W114 f110
    have fC_sd_122 := SD.wr fC_sd_112 W114 kx_b74
    have f123 := f113.other W114 (Ne.symm ne88_94)
    have N114 := Fr.snoc X114 N104 gb_b74
    have Z114 : LeA (n0) (h114.size) := by rw [W114.size]; exact Z104
    refine OwnG.st (y_aload X114 H at_282 rfl) ?_
    refine OwnG.st (y_iconst X114 H (2) at_284 rfl) ?_
    refine OwnG.st (y_ldc2 X114 H hown (mvT hZ (ww hw 143 rfl)) at_285) ?_
    refine OwnG.v3 289 (own_stJ V114' X114 hx hZ e114 (by decide) (by decide) (gf := mkF m 288 _ _) rfl rfl (hb hby at_288)) ?_
    intro T124 h124 X124 e124 W124 V124
    have V124' : OwnA Z h124 b74 .long 3 (jv' (updv (updv (updv (fun _ => 0) 0 (-5 : Int64)) 1 (-5 : Int64)) 2 (-5 : Int64))) := V124
    have fC_k1_129 := Nat.le_trans fC_k1_119 (Nat.le_of_eq W124.size.symm)
    have f130 := Exa.wr W124 f120
    have fC_sd_132 := SD.wr fC_sd_122 W124 kx_b74
    have f133 := f123.other W124 (Ne.symm ne88_94)
    have N124 := Fr.snoc X124 N114 gb_b74
    have Z124 : LeA (n0) (h124.size) := by rw [W124.size]; exact Z114
    refine OwnG.st (y_aload X124 H at_289 rfl) ?_
    refine OwnG.st (y_iconst X124 H (0) at_291 rfl) ?_
    refine OwnG.st (y_bipush X124 H (-5) at_292 rfl) ?_
    refine OwnG.v3 295 (own_stI f133 X124 hx hZ e124 (by decide) (by decide) (gf := mkF m 294 _ _) rfl rfl (hb hby at_294)) ?_
    intro T134 h134 X134 e134 W134 V134
    have V134' : OwnA Z h134 b88 .int 3 (iv' (updv (fun _ => 0) 0 (-5 : Int32))) := V134
    have fC_k1_139 := Nat.le_trans fC_k1_129 (Nat.le_of_eq W134.size.symm)
    have f140 := Exa.wr W134 f130
    have fC_sd_142 := SD.wr fC_sd_132 W134 kx_b88
    have f143 := V124'.other W134 ne88_94
    have N134 := Fr.snoc X134 N124 gb_b88
    have Z134 : LeA (n0) (h134.size) := by rw [W134.size]; exact Z124
    refine OwnG.st (y_aload X134 H at_295 rfl) ?_
    refine OwnG.st (y_iconst X134 H (1) at_297 rfl) ?_
    refine OwnG.st (y_bipush X134 H (-5) at_298 rfl) ?_
    refine OwnG.v3 301 (own_stI V134' X134 hx hZ e134 (by decide) (by decide) (gf := mkF m 300 _ _) rfl rfl (hb hby at_300)) ?_
    intro T144 h144 X144 e144 W144 V144
    have V144' : OwnA Z h144 b88 .int 3 (iv' (updv (updv (fun _ => 0) 0 (-5 : Int32)) 1 (-5 : Int32))) := V144
    have fC_k1_149 := Nat.le_trans fC_k1_139 (Nat.le_of_eq W144.size.symm)
    have f150 := Exa.wr W144 f140
    have fC_sd_152 := SD.wr fC_sd_142 W144 kx_b88
    have f153 := f143.other W144 ne88_94
    have N144 := Fr.snoc X144 N134 gb_b88
    have Z144 : LeA (n0) (h144.size) := by rw [W144.size]; exact Z134
    refine OwnG.st (y_aload X144 H at_301 rfl) ?_
    refine OwnG.st (y_iconst X144 H (2) at_303 rfl) ?_
    refine OwnG.st (y_bipush X144 H (-5) at_304 rfl) ?_
    refine OwnG.v3 307 (own_stI V144' X144 hx hZ e144 (by decide) (by decide) (gf := mkF m 306 _ _) rfl rfl (hb hby at_306)) ?_
    intro T154 h154 X154 e154 W154 V154
    have V154' : OwnA Z h154 b88 .int 3 (iv' (updv (updv (updv (fun _ => 0) 0 (-5 : Int32)) 1 (-5 : Int32)) 2 (-5 : Int32))) := V154
    have fC_k1_159 := Nat.le_trans fC_k1_149 (Nat.le_of_eq W154.size.symm)
    have f160 := Exa.wr W154 f150
    have fC_sd_162 := SD.wr fC_sd_152 W154 kx_b88
    have f163 := f153.other W154 ne88_94
    have N154 := Fr.snoc X154 N144 gb_b88
    have Z154 : LeA (n0) (h154.size) := by rw [W154.size]; exact Z144
    refine OwnG.st (y_aload X154 H at_307 rfl) ?_
    refine OwnG.st (y_iload X154 H at_309 rfl) ?_
    refine OwnG.st (y_aload X154 H at_311 rfl) ?_
    refine OwnG.st (y_aload X154 H at_313 rfl) ?_
    obtain ⟨cq164, kq164, q164a, q164b, q164c⟩ := isOf hZ e154 f160
    refine OwnG.cm 318 25 719 X154 (X154.virtualBack hx (y := mn_22) (z := mn_22) hown (mvT hZ (ww hw 144 rfl)) (mvT hZ (ww hw 145 rfl)) (notFace_of_selects (args := #[]) (mvT hZ (ww hw 147 rfl))) (mvT hZ (ww hw 147 rfl)) (mvT hZ (ww hw 146 rfl)) (by decide) (backOf (W := 0) (rm22D0 l Z a0 hw [] sto (0 : Int32) b74 b88 kx el72 ge72 (updv (updv (updv (fun _ => 0) 0 (-5 : Int64)) 1 (-5 : Int64)) 2 (-5 : Int64)) (updv (updv (updv (fun _ => 0) 0 (-5 : Int32)) 1 (-5 : Int32)) 2 (-5 : Int32)) h154 n0 Z154 gb_b74 gb_b88 fC_sd_162 hEs72 f163 V154' kx_b74 kx_b88 ne88_94) hZ (ww hw 148 rfl) (ww hw 10 rfl) (by decide) (by decide)) q164a q164c (g := mkF m 315 _ _) rfl (by rw [hml]; rfl) (Steps.refl _) (argsL := [(.int (0 : Int32)), (.ref b74), (.ref b88)]) (rest := []) (lenOf pd_0H0_3 rfl) rfl (by show 2 * 0 + _ ≤ _; exact Nat.le_of_eq rfl) (hb hby at_315) (fun _ _ => ⟨rfl, e154, (by decide : 24 + 1 ≤ _), (by decide : 714 + 5 ≤ _)⟩)) rfl rfl ?_
    intro T164 Lc164 vc164 X164 hQ164
    obtain ⟨hv164, N164q, Kq164, Vx164, Vy164⟩ := hQ164
    have fC_k1_169 := Nat.le_trans fC_k1_159 Kq164.1
    have Vx164' : OwnA Z T164.heap b74 .long 3 (jv' (updv (updv (updv (fun _ => 0) 0 (-5 : Int64)) 1 (-5 : Int64)) 2 (-5 : Int64))) := by have q := Vx164; exact q
    have N164 := Fr.app N154 N164q
    refine OwnG.cn hv164 ?_
    clear hv164
    have hc326_172 : (-5 : Int64) = (-5 : Int64) := rfl
    have hc335_173 : (-5 : Int32) = (-5 : Int32) := rfl
    have hc348_174 : (0 : Int32) < (1 : Int32) := by decide
    have hc391_175 : ¬ ((1 : Int32) = (0 : Int32)) := by decide
    have hc402_176 : (-5 : Int64) = (-5 : Int64) := rfl
    have hc411_177 : (-5 : Int32) = (-5 : Int32) := rfl
    have hc424_178 : ¬ ((0 : Int32) = (2 : Int32)) := by decide
    have hc467_179 : ¬ ((1 : Int32) = (0 : Int32)) := by decide
    have hc478_180 : (-5 : Int64) = (-5 : Int64) := rfl
    have hc487_181 : (-5 : Int32) = (-5 : Int32) := rfl
    refine OwnG.st (y_aload X164 H at_318 rfl) ?_
    refine OwnG.st (y_iconst X164 H (2) at_320 rfl) ?_
    refine OwnG.st (y_ldJ Vx164' X164 H hZ rfl (by decide) (by decide) at_321 (-5 : Int64) rfl) ?_
    refine OwnG.st (y_ldc2 X164 H hown (mvT hZ (ww hw 143 rfl)) at_322) ?_
    refine OwnG.st (y_lcmp X164 H at_325) ?_
    refine OwnG.st (y_ifN X164 H at_326 ((if0 _ _).trans (teq ((lw_eq (-5 : Int64) (-5 : Int64)).mpr hc326_172)).2)) ?_
    refine OwnG.st (y_aload X164 H at_329 rfl) ?_
    refine OwnG.st (y_iconst X164 H (2) at_331 rfl) ?_
    refine OwnG.st (y_ldI Vy164 X164 H hZ rfl (by decide) (by decide) at_332 (-5 : Int32) rfl) ?_
    refine OwnG.st (y_bipush X164 H (-5) at_333 rfl) ?_
    refine OwnG.st (y_icN X164 H at_335 (teq hc335_173).2) ?_
    refine OwnG.st (y_iconst X164 H (1) at_338 rfl) ?_
    refine OwnG.st (y_goto X164 H 343 at_339 (by decide) (by decide)) ?_
    refine OwnG.st (y_istore X164 H #[.val (.long q1), .second, .val (.long q2), .second, .val (.int p3), .val (.int p4), .val (.int p5), .val (.long l7), .second, .val (.long l9), .second, .val (.int l11), .val (.int l12), .val (.int (0 : Int32)), .val (.ref a14), .val (.ref a15), .val (.ref a16), .val (.ref a17), .val (.ref sto), .val (.int (0 : Int32)), .val (.ref b74), .val (.ref b88), .val (.int (1 : Int32))] at_343 rfl) ?_
    refine OwnG.st (y_iload X164 H at_345 rfl) ?_
    refine OwnG.st (y_iconst X164 H (1) at_347 rfl) ?_
    refine OwnG.st (y_icY X164 H 389 at_348 (tlt hc348_174).1 (by decide) (by decide)) ?_
    refine OwnG.st (y_iload X164 H at_389 rfl) ?_
    refine OwnG.st (y_ifN X164 H at_391 ((if0 _ _).trans (feq hc391_175).1)) ?_
    refine OwnG.st (y_aload X164 H at_394 rfl) ?_
    refine OwnG.st (y_iconst X164 H (0) at_396 rfl) ?_
    refine OwnG.st (y_ldJ Vx164' X164 H hZ rfl (by decide) (by decide) at_397 (-5 : Int64) rfl) ?_
    refine OwnG.st (y_ldc2 X164 H hown (mvT hZ (ww hw 143 rfl)) at_398) ?_
    refine OwnG.st (y_lcmp X164 H at_401) ?_
    refine OwnG.st (y_ifN X164 H at_402 ((if0 _ _).trans (teq ((lw_eq (-5 : Int64) (-5 : Int64)).mpr hc402_176)).2)) ?_
    refine OwnG.st (y_aload X164 H at_405 rfl) ?_
    refine OwnG.st (y_iconst X164 H (0) at_407 rfl) ?_
    refine OwnG.st (y_ldI Vy164 X164 H hZ rfl (by decide) (by decide) at_408 (-5 : Int32) rfl) ?_
    refine OwnG.st (y_bipush X164 H (-5) at_409 rfl) ?_
    refine OwnG.st (y_icN X164 H at_411 (teq hc411_177).2) ?_
    refine OwnG.st (y_iconst X164 H (1) at_414 rfl) ?_
    refine OwnG.st (y_goto X164 H 419 at_415 (by decide) (by decide)) ?_
    refine OwnG.st (y_istore X164 H #[.val (.long q1), .second, .val (.long q2), .second, .val (.int p3), .val (.int p4), .val (.int p5), .val (.long l7), .second, .val (.long l9), .second, .val (.int l11), .val (.int l12), .val (.int (0 : Int32)), .val (.ref a14), .val (.ref a15), .val (.ref a16), .val (.ref a17), .val (.ref sto), .val (.int (0 : Int32)), .val (.ref b74), .val (.ref b88), .val (.int (1 : Int32))] at_419 rfl) ?_
    refine OwnG.st (y_iload X164 H at_421 rfl) ?_
    refine OwnG.st (y_iconst X164 H (2) at_423 rfl) ?_
    refine OwnG.st (y_icY X164 H 465 at_424 (feq hc424_178).2 (by decide) (by decide)) ?_
    refine OwnG.st (y_iload X164 H at_465 rfl) ?_
    refine OwnG.st (y_ifN X164 H at_467 ((if0 _ _).trans (feq hc467_179).1)) ?_
    refine OwnG.st (y_aload X164 H at_470 rfl) ?_
    refine OwnG.st (y_iconst X164 H (1) at_472 rfl) ?_
    refine OwnG.st (y_ldJ Vx164' X164 H hZ rfl (by decide) (by decide) at_473 (-5 : Int64) rfl) ?_
    refine OwnG.st (y_ldc2 X164 H hown (mvT hZ (ww hw 143 rfl)) at_474) ?_
    refine OwnG.st (y_lcmp X164 H at_477) ?_
    refine OwnG.st (y_ifN X164 H at_478 ((if0 _ _).trans (teq ((lw_eq (-5 : Int64) (-5 : Int64)).mpr hc478_180)).2)) ?_
    refine OwnG.st (y_aload X164 H at_481 rfl) ?_
    refine OwnG.st (y_iconst X164 H (1) at_483 rfl) ?_
    refine OwnG.st (y_ldI Vy164 X164 H hZ rfl (by decide) (by decide) at_484 (-5 : Int32) rfl) ?_
    refine OwnG.st (y_bipush X164 H (-5) at_485 rfl) ?_
    refine OwnG.st (y_icN X164 H at_487 (teq hc487_181).2) ?_
    refine OwnG.st (y_iconst X164 H (1) at_490 rfl) ?_
    refine OwnG.st (y_goto X164 H 495 at_491 (by decide) (by decide)) ?_
    refine OwnG.st (y_istore X164 H #[.val (.long q1), .second, .val (.long q2), .second, .val (.int p3), .val (.int p4), .val (.int p5), .val (.long l7), .second, .val (.long l9), .second, .val (.int l11), .val (.int l12), .val (.int (0 : Int32)), .val (.ref a14), .val (.ref a15), .val (.ref a16), .val (.ref a17), .val (.ref sto), .val (.int (0 : Int32)), .val (.ref b74), .val (.ref b88), .val (.int (1 : Int32))] at_495 rfl) ?_
    refine OwnG.st (y_iload X164 H at_497 rfl) ?_
    exact OwnG.retN X164 hx (t := .boolean) (by simp) hret hlk (hb hby at_499) ⟨rfl, N164, fC_k1_169⟩ (by decide) (by decide)
  · refine OwnG.st (y_ifN X70 H at_204 ((if0 _ _).trans (feq hc204_71).1)) ?_
    refine OwnG.st (y_aload X70 H at_207 rfl) ?_
    refine OwnG.st (y_aload X70 H at_209 rfl) ?_
    refine OwnG.st (y_aload X70 H at_211 rfl) ?_
    refine OwnG.st (y_iconst X70 H (1) at_213 rfl) ?_
    obtain ⟨cq182, kq182, q182a, q182b, q182c⟩ := isOf hZ rfl fE_70
    refine OwnG.cm 217 18 380 X70 (X70.virtualBack hx (y := mn_5) (z := mn_5) hown (mvT hZ (ww hw 49 rfl)) (mvT hZ (ww hw 50 rfl)) (notFace_of_selects (args := #[]) (mvT hZ (ww hw 52 rfl))) (mvT hZ (ww hw 52 rfl)) (mvT hZ (ww hw 51 rfl)) (by decide) (backOf (W := 0) (rm5F1 l Z a0 hw [] sto a16 a17 (1 : Int32) sto 1 1 o2 o3 0 (fun _ => 0) T70.heap n0 Z70 gb_sto hSA70 fAa16_70 fAa17_70 hl_a16 hl_a17 rfl (by decide) (by decide) hov hoc) hZ (ww hw 53 rfl) (ww hw 10 rfl) (by decide) (by decide)) q182a q182c (g := mkF m 214 _ _) rfl (by rw [hml]; rfl) (Steps.refl _) (argsL := [(.ref a16), (.ref a17), (.int (1 : Int32))]) (rest := []) (lenOf pd_0H0_2 rfl) rfl (by show 2 * 0 + _ ≤ _; exact Nat.le_of_eq rfl) (hb hby at_214) (fun _ _ => ⟨rfl, rfl, (by decide : 13 + 5 ≤ _), (by decide : 36 + 344 ≤ _)⟩)) rfl rfl ?_
    intro T182 Lc182 vc182 X182 hQ182
    obtain ⟨el182, ge182, hv182, N182q, KB182, hEs182, hel182, hsm182, hSA182⟩ := hQ182
    have Z182 : LeA (n0) (T182.heap.size) := Nat.le_trans Z70 KB182.1
    have fAa14_182 := own_akB fAa14_70 KB182 hl_a14
    have fAa15_182 := own_akB fAa15_70 KB182 hl_a15
    have fk1_182 := Nat.le_trans fk1_70 KB182.1
    have fE_182 := hSA182.exa
    have N182 := Fr.app N70 N182q
    refine OwnG.cv hv182 ?_
    clear hv182
    refine OwnG.st (y_pop X182 H at_217 rfl) ?_
    refine OwnG.st (y_aload X182 H at_218 rfl) ?_
    refine OwnG.st (y_aload X182 H at_220 rfl) ?_
    refine OwnG.st (y_aload X182 H at_222 rfl) ?_
    refine OwnG.st (y_iload X182 H at_224 rfl) ?_
    obtain ⟨cq183, kq183, q183a, q183b, q183c⟩ := isOf hZ rfl fE_182
    refine OwnG.cm 229 22 708 X182 (X182.virtualBack hx (y := mn_5) (z := mn_5) hown (mvT hZ (ww hw 49 rfl)) (mvT hZ (ww hw 50 rfl)) (notFace_of_selects (args := #[]) (mvT hZ (ww hw 52 rfl))) (mvT hZ (ww hw 52 rfl)) (mvT hZ (ww hw 51 rfl)) (by decide) (backOf (W := 0) (rm5S0 l Z a0 hw [] sto a14 a15 (0 : Int32) sto 2 2 g2 g3 el182 ge182 el182 ge182 T182.heap n0 Z182 gb_sto hSA182 fAa14_182 fAa15_182 hl_a14 hl_a15 rfl (by decide) (by decide) (hsm182 hov5 hoc4)) hZ (ww hw 53 rfl) (ww hw 10 rfl) (by decide) (by decide)) q183a q183c (g := mkF m 226 _ _) rfl (by rw [hml]; rfl) (Steps.refl _) (argsL := [(.ref a14), (.ref a15), (.int (0 : Int32))]) (rest := []) (lenOf pd_0H0_2 rfl) rfl (by show 2 * 0 + _ ≤ _; exact Nat.le_of_eq rfl) (hb hby at_226) (fun _ _ => ⟨rfl, rfl, (by decide : 18 + 4 ≤ _), (by decide : 380 + 328 ≤ _)⟩)) rfl rfl ?_
    intro T183 Lc183 vc183 X183 hQ183
    obtain ⟨mm183, el183, ge183, hv183, N183q, KB183, hEs183, hSx183, hSy183⟩ := hQ183
    have Z183 : LeA (n0) (T183.heap.size) := Nat.le_trans Z182 KB183.1
    have fk1_183 := Nat.le_trans fk1_182 KB183.1
    have fE_183 := hSx183.exa
    obtain ⟨kx, hkx⟩ : ∃ k, k = T183.heap.size := ⟨_, rfl⟩
    rw [← hkx] at hSx183 hSy183
    have N183 := Fr.app N182 N183q
    refine OwnG.cv hv183 ?_
    clear hv183
    refine OwnG.st (y_istore X183 H #[.val (.long q1), .second, .val (.long q2), .second, .val (.int p3), .val (.int p4), .val (.int p5), .val (.long l7), .second, .val (.long l9), .second, .val (.int l11), .val (.int l12), .val (.int (0 : Int32)), .val (.ref a14), .val (.ref a15), .val (.ref a16), .val (.ref a17), .val (.ref sto), .val (.int mm183), .unset, .unset, .unset] at_229 rfl) ?_
    refine OwnG.st (y_goto X183 H 258 at_231 (by decide) (by decide)) ?_
    refine OwnG.st (y_iconst X183 H (3) at_258 rfl) ?_
    refine OwnG.v4 261 23 711 X183 (newP X183 hx hZ (ww hw 6 rfl) rfl (g := mkF m 259 _ _) rfl (hb hby at_259) rfl (by decide) (cap := 3) (by decide) (by decide) (by decide) (by decide)) rfl rfl ?_
    intro T184 h184 k184 X184 e184 E184 A184
    obtain ⟨b184, g184⟩ : ∃ z, z = T183.heap.size := ⟨_, rfl⟩
    rw [← g184] at A184 ⊢
    have V184 : OwnA Z h184 b184 .long 3 (jv' fun _ => 0) := own_newA A184 (by decide)
    have fC_k1_194 := Nat.le_trans fk1_183 E184.1
    have f195 := Exa.ext E184 fE_183
    have fC_kx_196 := Nat.le_trans (Nat.le_of_eq hkx) E184.1
    have fC_sd_197 := SD.ext hSx183 E184
    have gb_b184 : LeA (n0) (b184) := Nat.le_trans Z183 (Nat.le_of_eq g184.symm)
    have Z184 : LeA (n0) (h184.size) := Nat.le_trans Z183 E184.1
    have kx_b184 : kx ≤ b184 := Nat.le_trans (Nat.le_of_eq hkx) (Nat.le_of_eq g184.symm)
    refine OwnG.st (y_astore X184 H #[.val (.long q1), .second, .val (.long q2), .second, .val (.int p3), .val (.int p4), .val (.int p5), .val (.long l7), .second, .val (.long l9), .second, .val (.int l11), .val (.int l12), .val (.int (0 : Int32)), .val (.ref a14), .val (.ref a15), .val (.ref a16), .val (.ref a17), .val (.ref sto), .val (.int mm183), .val (.ref b184), .unset, .unset] at_261 rfl) ?_
    refine OwnG.st (y_iconst X184 H (3) at_263 rfl) ?_
    refine OwnG.v4 266 24 714 X184 (newP X184 hx hZ (ww hw 7 rfl) e184 (g := mkF m 264 _ _) rfl (hb hby at_264) rfl (by decide) (cap := 3) (by decide) (by decide) (by decide) (by decide)) rfl rfl ?_
    intro T198 h198 k198 X198 e198 E198 A198
    obtain ⟨b198, g198⟩ : ∃ z, z = h184.size := ⟨_, rfl⟩
    rw [← g198] at A198 ⊢
    have ne198_204 : NeA b184 b198 := Nat.ne_of_lt (Nat.lt_of_lt_of_le V184.lt (Nat.le_of_eq g198.symm))
    have V198 : OwnA Z h198 b198 .int 3 (iv' fun _ => 0) := own_newA A198 (by decide)
    have fC_k1_209 := Nat.le_trans fC_k1_194 E198.1
    have f210 := Exa.ext E198 f195
    have fC_sd_212 := SD.ext fC_sd_197 E198
    have f213 := V184.ext E198
    have gb_b198 : LeA (n0) (b198) := Nat.le_trans Z184 (Nat.le_of_eq g198.symm)
    have Z198 : LeA (n0) (h198.size) := Nat.le_trans Z184 E198.1
    have kx_b198 : kx ≤ b198 := Nat.le_trans fC_kx_196 (Nat.le_of_eq g198.symm)
    refine OwnG.st (y_astore X198 H #[.val (.long q1), .second, .val (.long q2), .second, .val (.int p3), .val (.int p4), .val (.int p5), .val (.long l7), .second, .val (.long l9), .second, .val (.int l11), .val (.int l12), .val (.int (0 : Int32)), .val (.ref a14), .val (.ref a15), .val (.ref a16), .val (.ref a17), .val (.ref sto), .val (.int mm183), .val (.ref b184), .val (.ref b198), .unset] at_266 rfl) ?_
    refine OwnG.st (y_aload X198 H at_268 rfl) ?_
    refine OwnG.st (y_iconst X198 H (0) at_270 rfl) ?_
    refine OwnG.st (y_ldc2 X198 H hown (mvT hZ (ww hw 143 rfl)) at_271) ?_
    refine OwnG.v3 275 (own_stJ f213 X198 hx hZ e198 (by decide) (by decide) (gf := mkF m 274 _ _) rfl rfl (hb hby at_274)) ?_
    intro T214 h214 X214 e214 W214 V214
    have V214' : OwnA Z h214 b184 .long 3 (jv' (updv (fun _ => 0) 0 (-5 : Int64))) := V214
    have fC_k1_219 := Nat.le_trans fC_k1_209 (Nat.le_of_eq W214.size.symm)
    have f220 := Exa.wr W214 f210
    have fC_sd_222 := SD.wr fC_sd_212 W214 kx_b184
    have f223 := V198.other W214 (Ne.symm ne198_204)
    have N214 := Fr.snoc X214 N183 gb_b184
    have Z214 : LeA (n0) (h214.size) := by rw [W214.size]; exact Z198
    refine OwnG.st (y_aload X214 H at_275 rfl) ?_
    refine OwnG.st (y_iconst X214 H (1) at_277 rfl) ?_
    refine OwnG.st (y_ldc2 X214 H hown (mvT hZ (ww hw 143 rfl)) at_278) ?_
    refine OwnG.v3 282 (own_stJ V214' X214 hx hZ e214 (by decide) (by decide) (gf := mkF m 281 _ _) rfl rfl (hb hby at_281)) ?_
    intro T224 h224 X224 e224 W224 V224
    have V224' : OwnA Z h224 b184 .long 3 (jv' (updv (updv (fun _ => 0) 0 (-5 : Int64)) 1 (-5 : Int64))) := V224
    have fC_k1_229 := Nat.le_trans fC_k1_219 (Nat.le_of_eq W224.size.symm)
    have f230 := Exa.wr W224 f220
    have fC_sd_232 := SD.wr fC_sd_222 W224 kx_b184
    have f233 := f223.other W224 (Ne.symm ne198_204)
    have N224 := Fr.snoc X224 N214 gb_b184
    have Z224 : LeA (n0) (h224.size) := by rw [W224.size]; exact Z214
    refine OwnG.st (y_aload X224 H at_282 rfl) ?_
    refine OwnG.st (y_iconst X224 H (2) at_284 rfl) ?_
    refine OwnG.st (y_ldc2 X224 H hown (mvT hZ (ww hw 143 rfl)) at_285) ?_
    refine OwnG.v3 289 (own_stJ V224' X224 hx hZ e224 (by decide) (by decide) (gf := mkF m 288 _ _) rfl rfl (hb hby at_288)) ?_
    intro T234 h234 X234 e234 W234 V234
    have V234' : OwnA Z h234 b184 .long 3 (jv' (updv (updv (updv (fun _ => 0) 0 (-5 : Int64)) 1 (-5 : Int64)) 2 (-5 : Int64))) := V234
    have fC_k1_239 := Nat.le_trans fC_k1_229 (Nat.le_of_eq W234.size.symm)
    have f240 := Exa.wr W234 f230
    have fC_sd_242 := SD.wr fC_sd_232 W234 kx_b184
    have f243 := f233.other W234 (Ne.symm ne198_204)
    have N234 := Fr.snoc X234 N224 gb_b184
    have Z234 : LeA (n0) (h234.size) := by rw [W234.size]; exact Z224
    refine OwnG.st (y_aload X234 H at_289 rfl) ?_
    refine OwnG.st (y_iconst X234 H (0) at_291 rfl) ?_
    refine OwnG.st (y_bipush X234 H (-5) at_292 rfl) ?_
    refine OwnG.v3 295 (own_stI f243 X234 hx hZ e234 (by decide) (by decide) (gf := mkF m 294 _ _) rfl rfl (hb hby at_294)) ?_
    intro T244 h244 X244 e244 W244 V244
    have V244' : OwnA Z h244 b198 .int 3 (iv' (updv (fun _ => 0) 0 (-5 : Int32))) := V244
    have fC_k1_249 := Nat.le_trans fC_k1_239 (Nat.le_of_eq W244.size.symm)
    have f250 := Exa.wr W244 f240
    have fC_sd_252 := SD.wr fC_sd_242 W244 kx_b198
    have f253 := V234'.other W244 ne198_204
    have N244 := Fr.snoc X244 N234 gb_b198
    have Z244 : LeA (n0) (h244.size) := by rw [W244.size]; exact Z234
    refine OwnG.st (y_aload X244 H at_295 rfl) ?_
    refine OwnG.st (y_iconst X244 H (1) at_297 rfl) ?_
    refine OwnG.st (y_bipush X244 H (-5) at_298 rfl) ?_
    refine OwnG.v3 301 (own_stI V244' X244 hx hZ e244 (by decide) (by decide) (gf := mkF m 300 _ _) rfl rfl (hb hby at_300)) ?_
    intro T254 h254 X254 e254 W254 V254
    have V254' : OwnA Z h254 b198 .int 3 (iv' (updv (updv (fun _ => 0) 0 (-5 : Int32)) 1 (-5 : Int32))) := V254
    have fC_k1_259 := Nat.le_trans fC_k1_249 (Nat.le_of_eq W254.size.symm)
    have f260 := Exa.wr W254 f250
    have fC_sd_262 := SD.wr fC_sd_252 W254 kx_b198
    have f263 := f253.other W254 ne198_204
    have N254 := Fr.snoc X254 N244 gb_b198
    have Z254 : LeA (n0) (h254.size) := by rw [W254.size]; exact Z244
    refine OwnG.st (y_aload X254 H at_301 rfl) ?_
    refine OwnG.st (y_iconst X254 H (2) at_303 rfl) ?_
    refine OwnG.st (y_bipush X254 H (-5) at_304 rfl) ?_
    refine OwnG.v3 307 (own_stI V254' X254 hx hZ e254 (by decide) (by decide) (gf := mkF m 306 _ _) rfl rfl (hb hby at_306)) ?_
    intro T264 h264 X264 e264 W264 V264
    have V264' : OwnA Z h264 b198 .int 3 (iv' (updv (updv (updv (fun _ => 0) 0 (-5 : Int32)) 1 (-5 : Int32)) 2 (-5 : Int32))) := V264
    have fC_k1_269 := Nat.le_trans fC_k1_259 (Nat.le_of_eq W264.size.symm)
    have f270 := Exa.wr W264 f260
    have fC_sd_272 := SD.wr fC_sd_262 W264 kx_b198
    have f273 := f263.other W264 ne198_204
    have N264 := Fr.snoc X264 N254 gb_b198
    have Z264 : LeA (n0) (h264.size) := by rw [W264.size]; exact Z254
    refine OwnG.st (y_aload X264 H at_307 rfl) ?_
    refine OwnG.st (y_iload X264 H at_309 rfl) ?_
    refine OwnG.st (y_aload X264 H at_311 rfl) ?_
    refine OwnG.st (y_aload X264 H at_313 rfl) ?_
    obtain ⟨cq274, kq274, q274a, q274b, q274c⟩ := isOf hZ e264 f270
    refine OwnG.cm 318 25 719 X264 (X264.virtualBack hx (y := mn_22) (z := mn_22) hown (mvT hZ (ww hw 144 rfl)) (mvT hZ (ww hw 145 rfl)) (notFace_of_selects (args := #[]) (mvT hZ (ww hw 147 rfl))) (mvT hZ (ww hw 147 rfl)) (mvT hZ (ww hw 146 rfl)) (by decide) (backOf (W := 0) (rm22D0 l Z a0 hw [] sto mm183 b184 b198 kx el183 ge183 (updv (updv (updv (fun _ => 0) 0 (-5 : Int64)) 1 (-5 : Int64)) 2 (-5 : Int64)) (updv (updv (updv (fun _ => 0) 0 (-5 : Int32)) 1 (-5 : Int32)) 2 (-5 : Int32)) h264 n0 Z264 gb_b184 gb_b198 fC_sd_272 hEs183 f273 V264' kx_b184 kx_b198 ne198_204) hZ (ww hw 148 rfl) (ww hw 10 rfl) (by decide) (by decide)) q274a q274c (g := mkF m 315 _ _) rfl (by rw [hml]; rfl) (Steps.refl _) (argsL := [(.int mm183), (.ref b184), (.ref b198)]) (rest := []) (lenOf pd_0H0_3 rfl) rfl (by show 2 * 0 + _ ≤ _; exact Nat.le_of_eq rfl) (hb hby at_315) (fun _ _ => ⟨rfl, e264, (by decide : 24 + 1 ≤ _), (by decide : 714 + 5 ≤ _)⟩)) rfl rfl ?_
    intro T274 Lc274 vc274 X274 hQ274
    obtain ⟨hv274, N274q, Kq274, Vx274, Vy274⟩ := hQ274
    have fC_k1_279 := Nat.le_trans fC_k1_269 Kq274.1
    have Vx274' : OwnA Z T274.heap b184 .long 3 (jv' (updv (updv (updv (fun _ => 0) 0 (-5 : Int64)) 1 (-5 : Int64)) 2 (-5 : Int64))) := by have q := Vx274; exact q
    have N274 := Fr.app N264 N274q
    refine OwnG.cn hv274 ?_
    clear hv274
    have hc326_282 : (-5 : Int64) = (-5 : Int64) := rfl
    have hc335_283 : (-5 : Int32) = (-5 : Int32) := rfl
    have hc348_284 : (0 : Int32) < (1 : Int32) := by decide
    have hc391_285 : ¬ ((1 : Int32) = (0 : Int32)) := by decide
    have hc402_286 : (-5 : Int64) = (-5 : Int64) := rfl
    have hc411_287 : (-5 : Int32) = (-5 : Int32) := rfl
    have hc424_288 : ¬ ((0 : Int32) = (2 : Int32)) := by decide
    have hc467_289 : ¬ ((1 : Int32) = (0 : Int32)) := by decide
    have hc478_290 : (-5 : Int64) = (-5 : Int64) := rfl
    have hc487_291 : (-5 : Int32) = (-5 : Int32) := rfl
    refine OwnG.st (y_aload X274 H at_318 rfl) ?_
    refine OwnG.st (y_iconst X274 H (2) at_320 rfl) ?_
    refine OwnG.st (y_ldJ Vx274' X274 H hZ rfl (by decide) (by decide) at_321 (-5 : Int64) rfl) ?_
    refine OwnG.st (y_ldc2 X274 H hown (mvT hZ (ww hw 143 rfl)) at_322) ?_
    refine OwnG.st (y_lcmp X274 H at_325) ?_
    refine OwnG.st (y_ifN X274 H at_326 ((if0 _ _).trans (teq ((lw_eq (-5 : Int64) (-5 : Int64)).mpr hc326_282)).2)) ?_
    refine OwnG.st (y_aload X274 H at_329 rfl) ?_
    refine OwnG.st (y_iconst X274 H (2) at_331 rfl) ?_
    refine OwnG.st (y_ldI Vy274 X274 H hZ rfl (by decide) (by decide) at_332 (-5 : Int32) rfl) ?_
    refine OwnG.st (y_bipush X274 H (-5) at_333 rfl) ?_
    refine OwnG.st (y_icN X274 H at_335 (teq hc335_283).2) ?_
    refine OwnG.st (y_iconst X274 H (1) at_338 rfl) ?_
    refine OwnG.st (y_goto X274 H 343 at_339 (by decide) (by decide)) ?_
    refine OwnG.st (y_istore X274 H #[.val (.long q1), .second, .val (.long q2), .second, .val (.int p3), .val (.int p4), .val (.int p5), .val (.long l7), .second, .val (.long l9), .second, .val (.int l11), .val (.int l12), .val (.int (0 : Int32)), .val (.ref a14), .val (.ref a15), .val (.ref a16), .val (.ref a17), .val (.ref sto), .val (.int mm183), .val (.ref b184), .val (.ref b198), .val (.int (1 : Int32))] at_343 rfl) ?_
    refine OwnG.st (y_iload X274 H at_345 rfl) ?_
    refine OwnG.st (y_iconst X274 H (1) at_347 rfl) ?_
    refine OwnG.st (y_icY X274 H 389 at_348 (tlt hc348_284).1 (by decide) (by decide)) ?_
    refine OwnG.st (y_iload X274 H at_389 rfl) ?_
    refine OwnG.st (y_ifN X274 H at_391 ((if0 _ _).trans (feq hc391_285).1)) ?_
    refine OwnG.st (y_aload X274 H at_394 rfl) ?_
    refine OwnG.st (y_iconst X274 H (0) at_396 rfl) ?_
    refine OwnG.st (y_ldJ Vx274' X274 H hZ rfl (by decide) (by decide) at_397 (-5 : Int64) rfl) ?_
    refine OwnG.st (y_ldc2 X274 H hown (mvT hZ (ww hw 143 rfl)) at_398) ?_
    refine OwnG.st (y_lcmp X274 H at_401) ?_
    refine OwnG.st (y_ifN X274 H at_402 ((if0 _ _).trans (teq ((lw_eq (-5 : Int64) (-5 : Int64)).mpr hc402_286)).2)) ?_
    refine OwnG.st (y_aload X274 H at_405 rfl) ?_
    refine OwnG.st (y_iconst X274 H (0) at_407 rfl) ?_
    refine OwnG.st (y_ldI Vy274 X274 H hZ rfl (by decide) (by decide) at_408 (-5 : Int32) rfl) ?_
    refine OwnG.st (y_bipush X274 H (-5) at_409 rfl) ?_
    refine OwnG.st (y_icN X274 H at_411 (teq hc411_287).2) ?_
    refine OwnG.st (y_iconst X274 H (1) at_414 rfl) ?_
    refine OwnG.st (y_goto X274 H 419 at_415 (by decide) (by decide)) ?_
    refine OwnG.st (y_istore X274 H #[.val (.long q1), .second, .val (.long q2), .second, .val (.int p3), .val (.int p4), .val (.int p5), .val (.long l7), .second, .val (.long l9), .second, .val (.int l11), .val (.int l12), .val (.int (0 : Int32)), .val (.ref a14), .val (.ref a15), .val (.ref a16), .val (.ref a17), .val (.ref sto), .val (.int mm183), .val (.ref b184), .val (.ref b198), .val (.int (1 : Int32))] at_419 rfl) ?_
    refine OwnG.st (y_iload X274 H at_421 rfl) ?_
    refine OwnG.st (y_iconst X274 H (2) at_423 rfl) ?_
    refine OwnG.st (y_icY X274 H 465 at_424 (feq hc424_288).2 (by decide) (by decide)) ?_
    refine OwnG.st (y_iload X274 H at_465 rfl) ?_
    refine OwnG.st (y_ifN X274 H at_467 ((if0 _ _).trans (feq hc467_289).1)) ?_
    refine OwnG.st (y_aload X274 H at_470 rfl) ?_
    refine OwnG.st (y_iconst X274 H (1) at_472 rfl) ?_
    refine OwnG.st (y_ldJ Vx274' X274 H hZ rfl (by decide) (by decide) at_473 (-5 : Int64) rfl) ?_
    refine OwnG.st (y_ldc2 X274 H hown (mvT hZ (ww hw 143 rfl)) at_474) ?_
    refine OwnG.st (y_lcmp X274 H at_477) ?_
    refine OwnG.st (y_ifN X274 H at_478 ((if0 _ _).trans (teq ((lw_eq (-5 : Int64) (-5 : Int64)).mpr hc478_290)).2)) ?_
    refine OwnG.st (y_aload X274 H at_481 rfl) ?_
    refine OwnG.st (y_iconst X274 H (1) at_483 rfl) ?_
    refine OwnG.st (y_ldI Vy274 X274 H hZ rfl (by decide) (by decide) at_484 (-5 : Int32) rfl) ?_
    refine OwnG.st (y_bipush X274 H (-5) at_485 rfl) ?_
    refine OwnG.st (y_icN X274 H at_487 (teq hc487_291).2) ?_
    refine OwnG.st (y_iconst X274 H (1) at_490 rfl) ?_
    refine OwnG.st (y_goto X274 H 495 at_491 (by decide) (by decide)) ?_
    refine OwnG.st (y_istore X274 H #[.val (.long q1), .second, .val (.long q2), .second, .val (.int p3), .val (.int p4), .val (.int p5), .val (.long l7), .second, .val (.long l9), .second, .val (.int l11), .val (.int l12), .val (.int (0 : Int32)), .val (.ref a14), .val (.ref a15), .val (.ref a16), .val (.ref a17), .val (.ref sto), .val (.int mm183), .val (.ref b184), .val (.ref b198), .val (.int (1 : Int32))] at_495 rfl) ?_
    refine OwnG.st (y_iload X274 H at_497 rfl) ?_
    exact OwnG.retN X274 hx (t := .boolean) (by simp) hret hlk (hb hby at_499) ⟨rfl, N274, fC_k1_279⟩ (by decide) (by decide)
theorem pd_0H1_0 : parseMethodDescriptor "(JLjava/lang/String;)V" = some ⟨[.long, (.object "java/lang/String")], none⟩ := by decide +kernel
theorem pd_0H1_1 : parseMethodDescriptor "(Lcom/example/deft_nets/deftnets/MemoryBudget;)V" = some ⟨[(.object "com/example/deft_nets/deftnets/MemoryBudget")], none⟩ := by decide +kernel
theorem pd_0H1_2 : parseMethodDescriptor "([J[II)I" = some ⟨[(.array .long), (.array .int), .int], some .int⟩ := by decide +kernel
theorem pd_0H1_3 : parseMethodDescriptor "(I[J[I)V" = some ⟨[.int, (.array .long), (.array .int)], none⟩ := by decide +kernel
set_option maxRecDepth 65536 in
set_option maxHeartbeats 40000000 in
theorem rm0H1 (l : Launch) (Z : State) (a0 : Array Value) (hw : HW a0 Z) {p : Program} {e : Env} {s : State} {m : MethodId} {below : List Frame} {meth : Method} {c : Code} (q1 : Int64) (q2 : Int64) (p3 : Int32) (p4 : Int32) (p5 : Int32) (l7 l9 : Int64) (l11 l12 : Int32) (a14 a15 a16 a17 astr bud sto : Addr) (g2 : Nat → Int64) (g3 : Nat → Int32) (o2 : Nat → Int64) (o3 : Nat → Int32) (s₁ : State) (lc : List Loc) (h0 : Heap) (n0 k1 : Nat) (hx : p.tables.exec = Jvm.exec) (hby : c.code = code) (hml : c.maxLocals = 23) (hret : meth.sig.returnType = some .boolean) (hlk : meth.locks = false) (hZ : Z.Warmed39 s.vm) (hown : s.vm.findClass "com/example/deft_nets/deftnets/MarkingStoreDecodePinLaw" = some m.cls) (X0 : Stand p l e room_1 s m #[(.long q1), (.long q2), (.int p3), (.int p4), (.int p5)] below meth c s₁ lc 8 35) (e0 : s₁.heap = h0) (N0 : Fr n0 lc) (Z0 : n0 ≤ h0.size) (hk1 : k1 ≤ h0.size) (hl_a14 : a14 < sto) (hl_a15 : a15 < sto) (hl_a16 : a16 < sto) (hl_a17 : a17 < sto) (gb_sto : n0 ≤ sto) (gb_bud : n0 ≤ bud) (hsb : sto ≤ bud) (hne : bud ≠ sto) (A_14 : OwnA Z h0 a14 .long 2 (jv' g2)) (A_15 : OwnA Z h0 a15 .int 2 (iv' g3)) (A_16 : OwnA Z h0 a16 .long 1 (jv' o2)) (A_17 : OwnA Z h0 a17 .int 1 (iv' o3)) (E_sto : Exa Z h0 sto "com/example/deft_nets/deftnets/MarkingStore") (S_mPool : Fld Z h0 sto "com/example/deft_nets/deftnets/MarkingStore" "mPool" "[B" .null) (S_mPoolSize : Fld Z h0 sto "com/example/deft_nets/deftnets/MarkingStore" "mPoolSize" "I" (.int (0 : Int32))) (S_mStart : Fld Z h0 sto "com/example/deft_nets/deftnets/MarkingStore" "mStart" "[I" .null) (S_mHash : Fld Z h0 sto "com/example/deft_nets/deftnets/MarkingStore" "mHash" "[I" .null) (S_mTable : Fld Z h0 sto "com/example/deft_nets/deftnets/MarkingStore" "mTable" "[I" .null) (S_mEncoded : Fld Z h0 sto "com/example/deft_nets/deftnets/MarkingStore" "mEncoded" "[B" .null) (S_mEncodedLength : Fld Z h0 sto "com/example/deft_nets/deftnets/MarkingStore" "mEncodedLength" "I" (.int (0 : Int32))) (S_mNextPlace : Fld Z h0 sto "com/example/deft_nets/deftnets/MarkingStore" "mNextPlace" "J" (.long (0 : Int64))) (S_mSize : Fld Z h0 sto "com/example/deft_nets/deftnets/MarkingStore" "mSize" "I" (.int (0 : Int32))) (S_mBudget : Fld Z h0 sto "com/example/deft_nets/deftnets/MarkingStore" "mBudget" "Lcom/example/deft_nets/deftnets/MemoryBudget;" .null) (E_bud : Exa Z h0 bud "com/example/deft_nets/deftnets/MemoryBudget") (B_mLimit : Fld Z h0 bud "com/example/deft_nets/deftnets/MemoryBudget" "mLimit" "J" (.long (0 : Int64))) (B_mUsed : Fld Z h0 bud "com/example/deft_nets/deftnets/MemoryBudget" "mUsed" "J" (.long (0 : Int64))) (B_mSource : Fld Z h0 bud "com/example/deft_nets/deftnets/MemoryBudget" "mSource" "Ljava/lang/String;" .null) (hov : 0 ≤ (o2 0).toInt ∧ (o2 0).toInt < 4611686018427387904) (hov5 : (o2 0).toInt ≤ 255) (hoc : 1 ≤ (o3 0).toInt) (hoc4 : (o3 0).toInt ≤ 4) (hv_0 : 0 ≤ (g2 0).toInt ∧ (g2 0).toInt < 4611686018427387904) (hc_0 : 1 ≤ (g3 0).toInt) :
    OwnG p e below s (fun v h L => v = some (.int 1) ∧ Fr n0 L ∧ k1 ≤ h.size) room_1.cells room_1.slots s₁ (mkF m 192 #[.val (.long q1), .second, .val (.long q2), .second, .val (.int p3), .val (.int p4), .val (.int p5), .val (.long l7), .second, .val (.long l9), .second, .val (.int l11), .val (.int l12), .val (.int (1 : Int32)), .val (.ref a14), .val (.ref a15), .val (.ref a16), .val (.ref a17), .unset, .unset, .unset, .unset, .unset] [(.ref astr), (.long (1099511627776 : Int64)), (.ref bud), (.ref bud), (.ref sto), (.ref sto)]) := by
  have H := And.intro hx hby
  refine OwnG.cm 195 8 35 X0 (X0.specialBack hx (y := mn_2) rfl hown (mvT hZ (ww hw 23 rfl)) (mvT hZ (ww hw 24 rfl)) (mvT hZ (ww hw 25 rfl)) (by decide) (backOf (W := 3) (rm2 l Z a0 hw [] bud (1099511627776 : Int64) astr  h0 n0 Z0 gb_bud E_bud B_mLimit B_mUsed B_mSource rfl) hZ (ww hw 25 rfl) (ww hw 13 rfl) (by decide) (by decide)) (g := mkF m 192 _ _) rfl (by rw [hml]; rfl) (Steps.refl _) (a := bud) (argsL := [(.long (1099511627776 : Int64)), (.ref astr)]) (rest := [(.ref bud), (.ref sto), (.ref sto)]) (lenOf pd_0H1_0 rfl) rfl (by show 2 * 0 + _ ≤ _; exact Nat.le_of_eq rfl) (hb hby at_192) (fun _ _ => ⟨rfl, e0, (by decide : 8 + 0 ≤ _), (by decide : 35 + 0 ≤ _)⟩)) rfl rfl ?_
  intro T51 Lc51 vc51 X51 hQ51
  obtain ⟨hv51, N51q, Kq51, Bq51⟩ := hQ51
  have Z51 : LeA (n0) (T51.heap.size) := Nat.le_trans Z0 Kq51.1
  have f52 := A_14.keep Kq51 (ninS (Nat.ne_of_lt (Nat.lt_of_lt_of_le hl_a14 hsb)) nin0)
  have f53 := A_15.keep Kq51 (ninS (Nat.ne_of_lt (Nat.lt_of_lt_of_le hl_a15 hsb)) nin0)
  have f54 := A_16.keep Kq51 (ninS (Nat.ne_of_lt (Nat.lt_of_lt_of_le hl_a16 hsb)) nin0)
  have f55 := A_17.keep Kq51 (ninS (Nat.ne_of_lt (Nat.lt_of_lt_of_le hl_a17 hsb)) nin0)
  have f56 := Exa.keep E_sto Kq51
  have f57 := Fld.keep S_mPool Kq51 (ninS (Ne.symm hne) nin0)
  have f58 := Fld.keep S_mPoolSize Kq51 (ninS (Ne.symm hne) nin0)
  have f59 := Fld.keep S_mStart Kq51 (ninS (Ne.symm hne) nin0)
  have f60 := Fld.keep S_mHash Kq51 (ninS (Ne.symm hne) nin0)
  have f61 := Fld.keep S_mTable Kq51 (ninS (Ne.symm hne) nin0)
  have f62 := Fld.keep S_mEncoded Kq51 (ninS (Ne.symm hne) nin0)
  have f63 := Fld.keep S_mEncodedLength Kq51 (ninS (Ne.symm hne) nin0)
  have f64 := Fld.keep S_mNextPlace Kq51 (ninS (Ne.symm hne) nin0)
  have f65 := Fld.keep S_mSize Kq51 (ninS (Ne.symm hne) nin0)
  have f66 := Fld.keep S_mBudget Kq51 (ninS (Ne.symm hne) nin0)
  have fC_k1_68 := Nat.le_trans hk1 Kq51.1
  obtain ⟨EBG_69, FBG0_69, FBG1_69⟩ := Bq51
  have N51 := Fr.app N0 N51q
  refine OwnG.cn hv51 ?_
  clear hv51
  refine OwnG.cm 198 13 36 X51 (X51.specialBack hx (y := mn_4) rfl hown (mvT hZ (ww hw 33 rfl)) (mvT hZ (ww hw 34 rfl)) (mvT hZ (ww hw 35 rfl)) (by decide) (backOf (W := 1) (rm4 l Z a0 hw [] sto bud sto T51.heap n0 Z51 gb_sto f56 f57 f58 f59 f60 f61 f62 f63 f64 f65 f66 ⟨EBG_69, FBG0_69, FBG1_69⟩ (Nat.le_refl _) hsb hne) hZ (ww hw 35 rfl) (ww hw 10 rfl) (by decide) (by decide)) (g := mkF m 195 _ _) rfl (by rw [hml]; rfl) (Steps.refl _) (a := sto) (argsL := [(.ref bud)]) (rest := [(.ref sto)]) (lenOf pd_0H1_1 rfl) rfl (by show 2 * 0 + _ ≤ _; exact Nat.le_of_eq rfl) (hb hby at_195) (fun _ _ => ⟨rfl, rfl, (by decide : 8 + 5 ≤ _), (by decide : 35 + 1 ≤ _)⟩)) rfl rfl ?_
  intro T70 Lc70 vc70 X70 hQ70
  obtain ⟨hv70, N70q, KB70, hSA70⟩ := hQ70
  have Z70 : LeA (n0) (T70.heap.size) := Nat.le_trans Z51 KB70.1
  have fAa14_70 := own_akB f52 KB70 hl_a14
  have fAa15_70 := own_akB f53 KB70 hl_a15
  have fAa16_70 := own_akB f54 KB70 hl_a16
  have fAa17_70 := own_akB f55 KB70 hl_a17
  have fk1_70 := Nat.le_trans fC_k1_68 KB70.1
  have fE_70 := hSA70.exa
  have N70 := Fr.app N51 N70q
  refine OwnG.cn hv70 ?_
  clear hv70
  refine OwnG.st (y_astore X70 H #[.val (.long q1), .second, .val (.long q2), .second, .val (.int p3), .val (.int p4), .val (.int p5), .val (.long l7), .second, .val (.long l9), .second, .val (.int l11), .val (.int l12), .val (.int (1 : Int32)), .val (.ref a14), .val (.ref a15), .val (.ref a16), .val (.ref a17), .val (.ref sto), .unset, .unset, .unset, .unset] at_198 rfl) ?_
  refine OwnG.st (y_iload X70 H at_200 rfl) ?_
  refine OwnG.st (y_iconst X70 H (4) at_202 rfl) ?_
  refine OwnG.st (y_iand X70 H at_203) ?_
  by_cases hc204_71 : (p5 &&& (4 : Int32)) = (0 : Int32)
  · refine OwnG.st (y_ifY X70 H 234 at_204 ((if0 _ _).trans (teq hc204_71).1) (by decide) (by decide)) ?_
    refine OwnG.st (y_aload X70 H at_234 rfl) ?_
    refine OwnG.st (y_aload X70 H at_236 rfl) ?_
    refine OwnG.st (y_aload X70 H at_238 rfl) ?_
    refine OwnG.st (y_iload X70 H at_240 rfl) ?_
    obtain ⟨cq72, kq72, q72a, q72b, q72c⟩ := isOf hZ rfl fE_70
    refine OwnG.cm 245 18 380 X70 (X70.virtualBack hx (y := mn_5) (z := mn_5) hown (mvT hZ (ww hw 49 rfl)) (mvT hZ (ww hw 50 rfl)) (notFace_of_selects (args := #[]) (mvT hZ (ww hw 52 rfl))) (mvT hZ (ww hw 52 rfl)) (mvT hZ (ww hw 51 rfl)) (by decide) (backOf (W := 0) (rm5F1 l Z a0 hw [] sto a14 a15 (1 : Int32) sto 2 2 g2 g3 0 (fun _ => 0) T70.heap n0 Z70 gb_sto hSA70 fAa14_70 fAa15_70 hl_a14 hl_a15 rfl (by decide) (by decide) hv_0 hc_0) hZ (ww hw 53 rfl) (ww hw 10 rfl) (by decide) (by decide)) q72a q72c (g := mkF m 242 _ _) rfl (by rw [hml]; rfl) (Steps.refl _) (argsL := [(.ref a14), (.ref a15), (.int (1 : Int32))]) (rest := []) (lenOf pd_0H1_2 rfl) rfl (by show 2 * 0 + _ ≤ _; exact Nat.le_of_eq rfl) (hb hby at_242) (fun _ _ => ⟨rfl, rfl, (by decide : 13 + 5 ≤ _), (by decide : 36 + 344 ≤ _)⟩)) rfl rfl ?_
    intro T72 Lc72 vc72 X72 hQ72
    obtain ⟨el72, ge72, hv72, N72q, KB72, hEs72, hel72, hsm72, hSA72⟩ := hQ72
    have Z72 : LeA (n0) (T72.heap.size) := Nat.le_trans Z70 KB72.1
    have fAa14_72 := own_akB fAa14_70 KB72 hl_a14
    have fAa15_72 := own_akB fAa15_70 KB72 hl_a15
    have fAa16_72 := own_akB fAa16_70 KB72 hl_a16
    have fAa17_72 := own_akB fAa17_70 KB72 hl_a17
    have fk1_72 := Nat.le_trans fk1_70 KB72.1
    have fE_72 := hSA72.exa
    have N72 := Fr.app N70 N72q
    refine OwnG.cv hv72 ?_
    clear hv72
    refine OwnG.st (y_istore X72 H #[.val (.long q1), .second, .val (.long q2), .second, .val (.int p3), .val (.int p4), .val (.int p5), .val (.long l7), .second, .val (.long l9), .second, .val (.int l11), .val (.int l12), .val (.int (1 : Int32)), .val (.ref a14), .val (.ref a15), .val (.ref a16), .val (.ref a17), .val (.ref sto), .val (.int (0 : Int32)), .unset, .unset, .unset] at_245 rfl) ?_
    refine OwnG.st (y_aload X72 H at_247 rfl) ?_
    refine OwnG.st (y_aload X72 H at_249 rfl) ?_
    refine OwnG.st (y_aload X72 H at_251 rfl) ?_
    refine OwnG.st (y_iconst X72 H (1) at_253 rfl) ?_
    obtain ⟨cq73, kq73, q73a, q73b, q73c⟩ := isOf hZ rfl fE_72
    refine OwnG.cm 257 22 708 X72 (X72.virtualBack hx (y := mn_5) (z := mn_5) hown (mvT hZ (ww hw 49 rfl)) (mvT hZ (ww hw 50 rfl)) (notFace_of_selects (args := #[]) (mvT hZ (ww hw 52 rfl))) (mvT hZ (ww hw 52 rfl)) (mvT hZ (ww hw 51 rfl)) (by decide) (backOf (W := 0) (rm5S1 l Z a0 hw [] sto a16 a17 (1 : Int32) sto 1 1 o2 o3 el72 ge72 el72 ge72 T72.heap n0 Z72 gb_sto hSA72 fAa16_72 fAa17_72 hl_a16 hl_a17 rfl (by decide) (by decide) hov hoc (Or.inr ⟨hov5, hoc4⟩)) hZ (ww hw 53 rfl) (ww hw 10 rfl) (by decide) (by decide)) q73a q73c (g := mkF m 254 _ _) rfl (by rw [hml]; rfl) (Steps.refl _) (argsL := [(.ref a16), (.ref a17), (.int (1 : Int32))]) (rest := []) (lenOf pd_0H1_2 rfl) rfl (by show 2 * 0 + _ ≤ _; exact Nat.le_of_eq rfl) (hb hby at_254) (fun _ _ => ⟨rfl, rfl, (by decide : 18 + 4 ≤ _), (by decide : 380 + 328 ≤ _)⟩)) rfl rfl ?_
    intro T73 Lc73 vc73 X73 hQ73
    obtain ⟨mm73, el73, ge73, hv73, N73q, KB73, hEs73, hSx73, hSy73⟩ := hQ73
    have Z73 : LeA (n0) (T73.heap.size) := Nat.le_trans Z72 KB73.1
    have fAa14_73 := own_akB fAa14_72 KB73 hl_a14
    have fAa15_73 := own_akB fAa15_72 KB73 hl_a15
    have fk1_73 := Nat.le_trans fk1_72 KB73.1
    have fE_73 := hSx73.exa
    obtain ⟨kx, hkx⟩ : ∃ k, k = T73.heap.size := ⟨_, rfl⟩
    rw [← hkx] at hSx73 hSy73
    have N73 := Fr.app N72 N73q
    refine OwnG.cv hv73 ?_
    clear hv73
    refine OwnG.st (y_pop X73 H at_257 rfl) ?_
    refine OwnG.st (y_iconst X73 H (3) at_258 rfl) ?_
    refine OwnG.v4 261 23 711 X73 (newP X73 hx hZ (ww hw 6 rfl) rfl (g := mkF m 259 _ _) rfl (hb hby at_259) rfl (by decide) (cap := 3) (by decide) (by decide) (by decide) (by decide)) rfl rfl ?_
    intro T74 h74 k74 X74 e74 E74 A74
    obtain ⟨b74, g74⟩ : ∃ z, z = T73.heap.size := ⟨_, rfl⟩
    rw [← g74] at A74 ⊢
    have ne74_75 : NeA a14 b74 := Nat.ne_of_lt (Nat.lt_of_lt_of_le fAa14_73.lt (Nat.le_of_eq g74.symm))
    have ne74_76 : NeA a15 b74 := Nat.ne_of_lt (Nat.lt_of_lt_of_le fAa15_73.lt (Nat.le_of_eq g74.symm))
    have V74 : OwnA Z h74 b74 .long 3 (jv' fun _ => 0) := own_newA A74 (by decide)
    have f80 := fAa14_73.ext E74
    have f81 := fAa15_73.ext E74
    have fC_k1_84 := Nat.le_trans fk1_73 E74.1
    have f85 := Exa.ext E74 fE_73
    have fC_kx_86 := Nat.le_trans (Nat.le_of_eq hkx) E74.1
    have fC_sd_87 := SD.ext hSy73 E74
    have gb_b74 : LeA (n0) (b74) := Nat.le_trans Z73 (Nat.le_of_eq g74.symm)
    have Z74 : LeA (n0) (h74.size) := Nat.le_trans Z73 E74.1
    have kx_b74 : kx ≤ b74 := Nat.le_trans (Nat.le_of_eq hkx) (Nat.le_of_eq g74.symm)
    refine OwnG.st (y_astore X74 H #[.val (.long q1), .second, .val (.long q2), .second, .val (.int p3), .val (.int p4), .val (.int p5), .val (.long l7), .second, .val (.long l9), .second, .val (.int l11), .val (.int l12), .val (.int (1 : Int32)), .val (.ref a14), .val (.ref a15), .val (.ref a16), .val (.ref a17), .val (.ref sto), .val (.int (0 : Int32)), .val (.ref b74), .unset, .unset] at_261 rfl) ?_
    refine OwnG.st (y_iconst X74 H (3) at_263 rfl) ?_
    refine OwnG.v4 266 24 714 X74 (newP X74 hx hZ (ww hw 7 rfl) e74 (g := mkF m 264 _ _) rfl (hb hby at_264) rfl (by decide) (cap := 3) (by decide) (by decide) (by decide) (by decide)) rfl rfl ?_
    intro T88 h88 k88 X88 e88 E88 A88
    obtain ⟨b88, g88⟩ : ∃ z, z = h74.size := ⟨_, rfl⟩
    rw [← g88] at A88 ⊢
    have ne88_89 : NeA a14 b88 := Nat.ne_of_lt (Nat.lt_of_lt_of_le f80.lt (Nat.le_of_eq g88.symm))
    have ne88_90 : NeA a15 b88 := Nat.ne_of_lt (Nat.lt_of_lt_of_le f81.lt (Nat.le_of_eq g88.symm))
    have ne88_94 : NeA b74 b88 := Nat.ne_of_lt (Nat.lt_of_lt_of_le V74.lt (Nat.le_of_eq g88.symm))
    have V88 : OwnA Z h88 b88 .int 3 (iv' fun _ => 0) := own_newA A88 (by decide)
    have f95 := f80.ext E88
    have f96 := f81.ext E88
    have fC_k1_99 := Nat.le_trans fC_k1_84 E88.1
    have f100 := Exa.ext E88 f85
    have fC_sd_102 := SD.ext fC_sd_87 E88
    have f103 := V74.ext E88
    have gb_b88 : LeA (n0) (b88) := Nat.le_trans Z74 (Nat.le_of_eq g88.symm)
    have Z88 : LeA (n0) (h88.size) := Nat.le_trans Z74 E88.1
    have kx_b88 : kx ≤ b88 := Nat.le_trans fC_kx_86 (Nat.le_of_eq g88.symm)
    refine OwnG.st (y_astore X88 H #[.val (.long q1), .second, .val (.long q2), .second, .val (.int p3), .val (.int p4), .val (.int p5), .val (.long l7), .second, .val (.long l9), .second, .val (.int l11), .val (.int l12), .val (.int (1 : Int32)), .val (.ref a14), .val (.ref a15), .val (.ref a16), .val (.ref a17), .val (.ref sto), .val (.int (0 : Int32)), .val (.ref b74), .val (.ref b88), .unset] at_266 rfl) ?_
    refine OwnG.st (y_aload X88 H at_268 rfl) ?_
    refine OwnG.st (y_iconst X88 H (0) at_270 rfl) ?_
    refine OwnG.st (y_ldc2 X88 H hown (mvT hZ (ww hw 143 rfl)) at_271) ?_
    refine OwnG.v3 275 (own_stJ f103 X88 hx hZ e88 (by decide) (by decide) (gf := mkF m 274 _ _) rfl rfl (hb hby at_274)) ?_
    intro T104 h104 X104 e104 W104 V104
    have V104' : OwnA Z h104 b74 .long 3 (jv' (updv (fun _ => 0) 0 (-5 : Int64))) := V104
    have f105 := f95.other W104 ne74_75
    have f106 := f96.other W104 ne74_76
    have fC_k1_109 := Nat.le_trans fC_k1_99 (Nat.le_of_eq W104.size.symm)
    have f110 := Exa.wr W104 f100
    have fC_sd_112 := SD.wr fC_sd_102 W104 kx_b74
    have f113 := V88.other W104 (Ne.symm ne88_94)
    have N104 := Fr.snoc X104 N73 gb_b74
    have Z104 : LeA (n0) (h104.size) := by rw [W104.size]; exact Z88
    refine OwnG.st (y_aload X104 H at_275 rfl) ?_
    refine OwnG.st (y_iconst X104 H (1) at_277 rfl) ?_
    refine OwnG.st (y_ldc2 X104 H hown (mvT hZ (ww hw 143 rfl)) at_278) ?_
    refine OwnG.v3 282 (own_stJ V104' X104 hx hZ e104 (by decide) (by decide) (gf := mkF m 281 _ _) rfl rfl (hb hby at_281)) ?_
    intro T114 h114 X114 e114 W114 V114
    have V114' : OwnA Z h114 b74 .long 3 (jv' (updv (updv (fun _ => 0) 0 (-5 : Int64)) 1 (-5 : Int64))) := V114
    have f115 := f105.other W114 ne74_75
    have f116 := f106.other W114 ne74_76
    have fC_k1_119 := Nat.le_trans fC_k1_109 (Nat.le_of_eq W114.size.symm)
    have f120 := Exa.wr W114 f110
    have fC_sd_122 := SD.wr fC_sd_112 W114 kx_b74
    have f123 := f113.other W114 (Ne.symm ne88_94)
    have N114 := Fr.snoc X114 N104 gb_b74
    have Z114 : LeA (n0) (h114.size) := by rw [W114.size]; exact Z104
    refine OwnG.st (y_aload X114 H at_282 rfl) ?_
    refine OwnG.st (y_iconst X114 H (2) at_284 rfl) ?_
    refine OwnG.st (y_ldc2 X114 H hown (mvT hZ (ww hw 143 rfl)) at_285) ?_
    refine OwnG.v3 289 (own_stJ V114' X114 hx hZ e114 (by decide) (by decide) (gf := mkF m 288 _ _) rfl rfl (hb hby at_288)) ?_
    intro T124 h124 X124 e124 W124 V124
    have V124' : OwnA Z h124 b74 .long 3 (jv' (updv (updv (updv (fun _ => 0) 0 (-5 : Int64)) 1 (-5 : Int64)) 2 (-5 : Int64))) := V124
    have f125 := f115.other W124 ne74_75
    have f126 := f116.other W124 ne74_76
    have fC_k1_129 := Nat.le_trans fC_k1_119 (Nat.le_of_eq W124.size.symm)
    have f130 := Exa.wr W124 f120
    have fC_sd_132 := SD.wr fC_sd_122 W124 kx_b74
    have f133 := f123.other W124 (Ne.symm ne88_94)
    have N124 := Fr.snoc X124 N114 gb_b74
    have Z124 : LeA (n0) (h124.size) := by rw [W124.size]; exact Z114
    refine OwnG.st (y_aload X124 H at_289 rfl) ?_
    refine OwnG.st (y_iconst X124 H (0) at_291 rfl) ?_
    refine OwnG.st (y_bipush X124 H (-5) at_292 rfl) ?_
    refine OwnG.v3 295 (own_stI f133 X124 hx hZ e124 (by decide) (by decide) (gf := mkF m 294 _ _) rfl rfl (hb hby at_294)) ?_
    intro T134 h134 X134 e134 W134 V134
    have V134' : OwnA Z h134 b88 .int 3 (iv' (updv (fun _ => 0) 0 (-5 : Int32))) := V134
    have f135 := f125.other W134 ne88_89
    have f136 := f126.other W134 ne88_90
    have fC_k1_139 := Nat.le_trans fC_k1_129 (Nat.le_of_eq W134.size.symm)
    have f140 := Exa.wr W134 f130
    have fC_sd_142 := SD.wr fC_sd_132 W134 kx_b88
    have f143 := V124'.other W134 ne88_94
    have N134 := Fr.snoc X134 N124 gb_b88
    have Z134 : LeA (n0) (h134.size) := by rw [W134.size]; exact Z124
    refine OwnG.st (y_aload X134 H at_295 rfl) ?_
    refine OwnG.st (y_iconst X134 H (1) at_297 rfl) ?_
    refine OwnG.st (y_bipush X134 H (-5) at_298 rfl) ?_
    refine OwnG.v3 301 (own_stI V134' X134 hx hZ e134 (by decide) (by decide) (gf := mkF m 300 _ _) rfl rfl (hb hby at_300)) ?_
    intro T144 h144 X144 e144 W144 V144
    have V144' : OwnA Z h144 b88 .int 3 (iv' (updv (updv (fun _ => 0) 0 (-5 : Int32)) 1 (-5 : Int32))) := V144
    have f145 := f135.other W144 ne88_89
    have f146 := f136.other W144 ne88_90
    have fC_k1_149 := Nat.le_trans fC_k1_139 (Nat.le_of_eq W144.size.symm)
    have f150 := Exa.wr W144 f140
    have fC_sd_152 := SD.wr fC_sd_142 W144 kx_b88
    have f153 := f143.other W144 ne88_94
    have N144 := Fr.snoc X144 N134 gb_b88
    have Z144 : LeA (n0) (h144.size) := by rw [W144.size]; exact Z134
    refine OwnG.st (y_aload X144 H at_301 rfl) ?_
    refine OwnG.st (y_iconst X144 H (2) at_303 rfl) ?_
    refine OwnG.st (y_bipush X144 H (-5) at_304 rfl) ?_
    refine OwnG.v3 307 (own_stI V144' X144 hx hZ e144 (by decide) (by decide) (gf := mkF m 306 _ _) rfl rfl (hb hby at_306)) ?_
    intro T154 h154 X154 e154 W154 V154
    have V154' : OwnA Z h154 b88 .int 3 (iv' (updv (updv (updv (fun _ => 0) 0 (-5 : Int32)) 1 (-5 : Int32)) 2 (-5 : Int32))) := V154
    have f155 := f145.other W154 ne88_89
    have f156 := f146.other W154 ne88_90
    have fC_k1_159 := Nat.le_trans fC_k1_149 (Nat.le_of_eq W154.size.symm)
    have f160 := Exa.wr W154 f150
    have fC_sd_162 := SD.wr fC_sd_152 W154 kx_b88
    have f163 := f153.other W154 ne88_94
    have N154 := Fr.snoc X154 N144 gb_b88
    have Z154 : LeA (n0) (h154.size) := by rw [W154.size]; exact Z144
    refine OwnG.st (y_aload X154 H at_307 rfl) ?_
    refine OwnG.st (y_iload X154 H at_309 rfl) ?_
    refine OwnG.st (y_aload X154 H at_311 rfl) ?_
    refine OwnG.st (y_aload X154 H at_313 rfl) ?_
    obtain ⟨cq164, kq164, q164a, q164b, q164c⟩ := isOf hZ e154 f160
    refine OwnG.cm 318 25 719 X154 (X154.virtualBack hx (y := mn_22) (z := mn_22) hown (mvT hZ (ww hw 144 rfl)) (mvT hZ (ww hw 145 rfl)) (notFace_of_selects (args := #[]) (mvT hZ (ww hw 147 rfl))) (mvT hZ (ww hw 147 rfl)) (mvT hZ (ww hw 146 rfl)) (by decide) (backOf (W := 0) (rm22D1 l Z a0 hw [] sto (0 : Int32) b74 b88 kx el72 ge72 (updv (updv (updv (fun _ => 0) 0 (-5 : Int64)) 1 (-5 : Int64)) 2 (-5 : Int64)) (updv (updv (updv (fun _ => 0) 0 (-5 : Int32)) 1 (-5 : Int32)) 2 (-5 : Int32)) (own_V (g2 0 - 0) (g3 0)) (g3 0) h154 n0 Z154 gb_b74 gb_b88 fC_sd_162 hEs72 f163 V154' kx_b74 kx_b88 ne88_94) hZ (ww hw 148 rfl) (ww hw 10 rfl) (by decide) (by decide)) q164a q164c (g := mkF m 315 _ _) rfl (by rw [hml]; rfl) (Steps.refl _) (argsL := [(.int (0 : Int32)), (.ref b74), (.ref b88)]) (rest := []) (lenOf pd_0H1_3 rfl) rfl (by show 2 * 0 + _ ≤ _; exact Nat.le_of_eq rfl) (hb hby at_315) (fun _ _ => ⟨rfl, e154, (by decide : 24 + 1 ≤ _), (by decide : 714 + 5 ≤ _)⟩)) rfl rfl ?_
    intro T164 Lc164 vc164 X164 hQ164
    obtain ⟨hv164, N164q, Kq164, Vx164, Vy164⟩ := hQ164
    have f165 := f155.keep Kq164 (ninS ne74_75 (ninS ne88_89 nin0))
    have f166 := f156.keep Kq164 (ninS ne74_76 (ninS ne88_90 nin0))
    have fC_k1_169 := Nat.le_trans fC_k1_159 Kq164.1
    have Vx164' : OwnA Z T164.heap b74 .long 3 (jv' (updv (updv (updv (updv (fun _ => 0) 0 (-5 : Int64)) 1 (-5 : Int64)) 2 (-5 : Int64)) 0 (g2 0))) := by have q := Vx164; rw [own_P0 (g2 0) (g3 0) hv_0] at q; exact q
    have N164 := Fr.app N154 N164q
    refine OwnG.cn hv164 ?_
    clear hv164
    have hc326_172 : (-5 : Int64) = (-5 : Int64) := rfl
    have hc335_173 : (-5 : Int32) = (-5 : Int32) := rfl
    have hc348_174 : ¬ ((1 : Int32) < (1 : Int32)) := by decide
    have hc353_175 : ¬ ((1 : Int32) = (0 : Int32)) := by decide
    have hc365_176 : (g2 0) = (g2 0) := rfl
    have hc376_177 : (g3 0) = (g3 0) := rfl
    have hc424_178 : ¬ ((1 : Int32) = (2 : Int32)) := by decide
    have hc467_179 : ¬ ((1 : Int32) = (0 : Int32)) := by decide
    have hc478_180 : (-5 : Int64) = (-5 : Int64) := rfl
    have hc487_181 : (-5 : Int32) = (-5 : Int32) := rfl
    refine OwnG.st (y_aload X164 H at_318 rfl) ?_
    refine OwnG.st (y_iconst X164 H (2) at_320 rfl) ?_
    refine OwnG.st (y_ldJ Vx164' X164 H hZ rfl (by decide) (by decide) at_321 (-5 : Int64) rfl) ?_
    refine OwnG.st (y_ldc2 X164 H hown (mvT hZ (ww hw 143 rfl)) at_322) ?_
    refine OwnG.st (y_lcmp X164 H at_325) ?_
    refine OwnG.st (y_ifN X164 H at_326 ((if0 _ _).trans (teq ((lw_eq (-5 : Int64) (-5 : Int64)).mpr hc326_172)).2)) ?_
    refine OwnG.st (y_aload X164 H at_329 rfl) ?_
    refine OwnG.st (y_iconst X164 H (2) at_331 rfl) ?_
    refine OwnG.st (y_ldI Vy164 X164 H hZ rfl (by decide) (by decide) at_332 (-5 : Int32) rfl) ?_
    refine OwnG.st (y_bipush X164 H (-5) at_333 rfl) ?_
    refine OwnG.st (y_icN X164 H at_335 (teq hc335_173).2) ?_
    refine OwnG.st (y_iconst X164 H (1) at_338 rfl) ?_
    refine OwnG.st (y_goto X164 H 343 at_339 (by decide) (by decide)) ?_
    refine OwnG.st (y_istore X164 H #[.val (.long q1), .second, .val (.long q2), .second, .val (.int p3), .val (.int p4), .val (.int p5), .val (.long l7), .second, .val (.long l9), .second, .val (.int l11), .val (.int l12), .val (.int (1 : Int32)), .val (.ref a14), .val (.ref a15), .val (.ref a16), .val (.ref a17), .val (.ref sto), .val (.int (0 : Int32)), .val (.ref b74), .val (.ref b88), .val (.int (1 : Int32))] at_343 rfl) ?_
    refine OwnG.st (y_iload X164 H at_345 rfl) ?_
    refine OwnG.st (y_iconst X164 H (1) at_347 rfl) ?_
    refine OwnG.st (y_icN X164 H at_348 (flt hc348_174).1) ?_
    refine OwnG.st (y_iload X164 H at_351 rfl) ?_
    refine OwnG.st (y_ifN X164 H at_353 ((if0 _ _).trans (feq hc353_175).1)) ?_
    refine OwnG.st (y_aload X164 H at_356 rfl) ?_
    refine OwnG.st (y_iconst X164 H (0) at_358 rfl) ?_
    refine OwnG.st (y_ldJ Vx164' X164 H hZ rfl (by decide) (by decide) at_359 (g2 0) rfl) ?_
    refine OwnG.st (y_aload X164 H at_360 rfl) ?_
    refine OwnG.st (y_iconst X164 H (0) at_362 rfl) ?_
    refine OwnG.st (y_ldJ f165 X164 H hZ rfl (by decide) (by decide) at_363 (g2 0) rfl) ?_
    refine OwnG.st (y_lcmp X164 H at_364) ?_
    refine OwnG.st (y_ifN X164 H at_365 ((if0 _ _).trans (teq ((lw_eq (g2 0) (g2 0)).mpr hc365_176)).2)) ?_
    refine OwnG.st (y_aload X164 H at_368 rfl) ?_
    refine OwnG.st (y_iconst X164 H (0) at_370 rfl) ?_
    refine OwnG.st (y_ldI Vy164 X164 H hZ rfl (by decide) (by decide) at_371 (g3 0) rfl) ?_
    refine OwnG.st (y_aload X164 H at_372 rfl) ?_
    refine OwnG.st (y_iconst X164 H (0) at_374 rfl) ?_
    refine OwnG.st (y_ldI f166 X164 H hZ rfl (by decide) (by decide) at_375 (g3 0) rfl) ?_
    refine OwnG.st (y_icN X164 H at_376 (teq hc376_177).2) ?_
    refine OwnG.st (y_iconst X164 H (1) at_379 rfl) ?_
    refine OwnG.st (y_goto X164 H 384 at_380 (by decide) (by decide)) ?_
    refine OwnG.st (y_istore X164 H #[.val (.long q1), .second, .val (.long q2), .second, .val (.int p3), .val (.int p4), .val (.int p5), .val (.long l7), .second, .val (.long l9), .second, .val (.int l11), .val (.int l12), .val (.int (1 : Int32)), .val (.ref a14), .val (.ref a15), .val (.ref a16), .val (.ref a17), .val (.ref sto), .val (.int (0 : Int32)), .val (.ref b74), .val (.ref b88), .val (.int (1 : Int32))] at_384 rfl) ?_
    refine OwnG.st (y_goto X164 H 421 at_386 (by decide) (by decide)) ?_
    refine OwnG.st (y_iload X164 H at_421 rfl) ?_
    refine OwnG.st (y_iconst X164 H (2) at_423 rfl) ?_
    refine OwnG.st (y_icY X164 H 465 at_424 (feq hc424_178).2 (by decide) (by decide)) ?_
    refine OwnG.st (y_iload X164 H at_465 rfl) ?_
    refine OwnG.st (y_ifN X164 H at_467 ((if0 _ _).trans (feq hc467_179).1)) ?_
    refine OwnG.st (y_aload X164 H at_470 rfl) ?_
    refine OwnG.st (y_iconst X164 H (1) at_472 rfl) ?_
    refine OwnG.st (y_ldJ Vx164' X164 H hZ rfl (by decide) (by decide) at_473 (-5 : Int64) rfl) ?_
    refine OwnG.st (y_ldc2 X164 H hown (mvT hZ (ww hw 143 rfl)) at_474) ?_
    refine OwnG.st (y_lcmp X164 H at_477) ?_
    refine OwnG.st (y_ifN X164 H at_478 ((if0 _ _).trans (teq ((lw_eq (-5 : Int64) (-5 : Int64)).mpr hc478_180)).2)) ?_
    refine OwnG.st (y_aload X164 H at_481 rfl) ?_
    refine OwnG.st (y_iconst X164 H (1) at_483 rfl) ?_
    refine OwnG.st (y_ldI Vy164 X164 H hZ rfl (by decide) (by decide) at_484 (-5 : Int32) rfl) ?_
    refine OwnG.st (y_bipush X164 H (-5) at_485 rfl) ?_
    refine OwnG.st (y_icN X164 H at_487 (teq hc487_181).2) ?_
    refine OwnG.st (y_iconst X164 H (1) at_490 rfl) ?_
    refine OwnG.st (y_goto X164 H 495 at_491 (by decide) (by decide)) ?_
    refine OwnG.st (y_istore X164 H #[.val (.long q1), .second, .val (.long q2), .second, .val (.int p3), .val (.int p4), .val (.int p5), .val (.long l7), .second, .val (.long l9), .second, .val (.int l11), .val (.int l12), .val (.int (1 : Int32)), .val (.ref a14), .val (.ref a15), .val (.ref a16), .val (.ref a17), .val (.ref sto), .val (.int (0 : Int32)), .val (.ref b74), .val (.ref b88), .val (.int (1 : Int32))] at_495 rfl) ?_
    refine OwnG.st (y_iload X164 H at_497 rfl) ?_
    exact OwnG.retN X164 hx (t := .boolean) (by simp) hret hlk (hb hby at_499) ⟨rfl, N164, fC_k1_169⟩ (by decide) (by decide)
  · refine OwnG.st (y_ifN X70 H at_204 ((if0 _ _).trans (feq hc204_71).1)) ?_
    refine OwnG.st (y_aload X70 H at_207 rfl) ?_
    refine OwnG.st (y_aload X70 H at_209 rfl) ?_
    refine OwnG.st (y_aload X70 H at_211 rfl) ?_
    refine OwnG.st (y_iconst X70 H (1) at_213 rfl) ?_
    obtain ⟨cq182, kq182, q182a, q182b, q182c⟩ := isOf hZ rfl fE_70
    refine OwnG.cm 217 18 380 X70 (X70.virtualBack hx (y := mn_5) (z := mn_5) hown (mvT hZ (ww hw 49 rfl)) (mvT hZ (ww hw 50 rfl)) (notFace_of_selects (args := #[]) (mvT hZ (ww hw 52 rfl))) (mvT hZ (ww hw 52 rfl)) (mvT hZ (ww hw 51 rfl)) (by decide) (backOf (W := 0) (rm5F1 l Z a0 hw [] sto a16 a17 (1 : Int32) sto 1 1 o2 o3 0 (fun _ => 0) T70.heap n0 Z70 gb_sto hSA70 fAa16_70 fAa17_70 hl_a16 hl_a17 rfl (by decide) (by decide) hov hoc) hZ (ww hw 53 rfl) (ww hw 10 rfl) (by decide) (by decide)) q182a q182c (g := mkF m 214 _ _) rfl (by rw [hml]; rfl) (Steps.refl _) (argsL := [(.ref a16), (.ref a17), (.int (1 : Int32))]) (rest := []) (lenOf pd_0H1_2 rfl) rfl (by show 2 * 0 + _ ≤ _; exact Nat.le_of_eq rfl) (hb hby at_214) (fun _ _ => ⟨rfl, rfl, (by decide : 13 + 5 ≤ _), (by decide : 36 + 344 ≤ _)⟩)) rfl rfl ?_
    intro T182 Lc182 vc182 X182 hQ182
    obtain ⟨el182, ge182, hv182, N182q, KB182, hEs182, hel182, hsm182, hSA182⟩ := hQ182
    have Z182 : LeA (n0) (T182.heap.size) := Nat.le_trans Z70 KB182.1
    have fAa14_182 := own_akB fAa14_70 KB182 hl_a14
    have fAa15_182 := own_akB fAa15_70 KB182 hl_a15
    have fk1_182 := Nat.le_trans fk1_70 KB182.1
    have fE_182 := hSA182.exa
    have N182 := Fr.app N70 N182q
    refine OwnG.cv hv182 ?_
    clear hv182
    refine OwnG.st (y_pop X182 H at_217 rfl) ?_
    refine OwnG.st (y_aload X182 H at_218 rfl) ?_
    refine OwnG.st (y_aload X182 H at_220 rfl) ?_
    refine OwnG.st (y_aload X182 H at_222 rfl) ?_
    refine OwnG.st (y_iload X182 H at_224 rfl) ?_
    obtain ⟨cq183, kq183, q183a, q183b, q183c⟩ := isOf hZ rfl fE_182
    refine OwnG.cm 229 22 708 X182 (X182.virtualBack hx (y := mn_5) (z := mn_5) hown (mvT hZ (ww hw 49 rfl)) (mvT hZ (ww hw 50 rfl)) (notFace_of_selects (args := #[]) (mvT hZ (ww hw 52 rfl))) (mvT hZ (ww hw 52 rfl)) (mvT hZ (ww hw 51 rfl)) (by decide) (backOf (W := 0) (rm5S1 l Z a0 hw [] sto a14 a15 (1 : Int32) sto 2 2 g2 g3 el182 ge182 el182 ge182 T182.heap n0 Z182 gb_sto hSA182 fAa14_182 fAa15_182 hl_a14 hl_a15 rfl (by decide) (by decide) hv_0 hc_0 (Or.inl (hsm182 hov5 hoc4))) hZ (ww hw 53 rfl) (ww hw 10 rfl) (by decide) (by decide)) q183a q183c (g := mkF m 226 _ _) rfl (by rw [hml]; rfl) (Steps.refl _) (argsL := [(.ref a14), (.ref a15), (.int (1 : Int32))]) (rest := []) (lenOf pd_0H1_2 rfl) rfl (by show 2 * 0 + _ ≤ _; exact Nat.le_of_eq rfl) (hb hby at_226) (fun _ _ => ⟨rfl, rfl, (by decide : 18 + 4 ≤ _), (by decide : 380 + 328 ≤ _)⟩)) rfl rfl ?_
    intro T183 Lc183 vc183 X183 hQ183
    obtain ⟨mm183, el183, ge183, hv183, N183q, KB183, hEs183, hSx183, hSy183⟩ := hQ183
    have Z183 : LeA (n0) (T183.heap.size) := Nat.le_trans Z182 KB183.1
    have fAa14_183 := own_akB fAa14_182 KB183 hl_a14
    have fAa15_183 := own_akB fAa15_182 KB183 hl_a15
    have fk1_183 := Nat.le_trans fk1_182 KB183.1
    have fE_183 := hSx183.exa
    obtain ⟨kx, hkx⟩ : ∃ k, k = T183.heap.size := ⟨_, rfl⟩
    rw [← hkx] at hSx183 hSy183
    have N183 := Fr.app N182 N183q
    refine OwnG.cv hv183 ?_
    clear hv183
    refine OwnG.st (y_istore X183 H #[.val (.long q1), .second, .val (.long q2), .second, .val (.int p3), .val (.int p4), .val (.int p5), .val (.long l7), .second, .val (.long l9), .second, .val (.int l11), .val (.int l12), .val (.int (1 : Int32)), .val (.ref a14), .val (.ref a15), .val (.ref a16), .val (.ref a17), .val (.ref sto), .val (.int mm183), .unset, .unset, .unset] at_229 rfl) ?_
    refine OwnG.st (y_goto X183 H 258 at_231 (by decide) (by decide)) ?_
    refine OwnG.st (y_iconst X183 H (3) at_258 rfl) ?_
    refine OwnG.v4 261 23 711 X183 (newP X183 hx hZ (ww hw 6 rfl) rfl (g := mkF m 259 _ _) rfl (hb hby at_259) rfl (by decide) (cap := 3) (by decide) (by decide) (by decide) (by decide)) rfl rfl ?_
    intro T184 h184 k184 X184 e184 E184 A184
    obtain ⟨b184, g184⟩ : ∃ z, z = T183.heap.size := ⟨_, rfl⟩
    rw [← g184] at A184 ⊢
    have ne184_185 : NeA a14 b184 := Nat.ne_of_lt (Nat.lt_of_lt_of_le fAa14_183.lt (Nat.le_of_eq g184.symm))
    have ne184_186 : NeA a15 b184 := Nat.ne_of_lt (Nat.lt_of_lt_of_le fAa15_183.lt (Nat.le_of_eq g184.symm))
    have V184 : OwnA Z h184 b184 .long 3 (jv' fun _ => 0) := own_newA A184 (by decide)
    have f190 := fAa14_183.ext E184
    have f191 := fAa15_183.ext E184
    have fC_k1_194 := Nat.le_trans fk1_183 E184.1
    have f195 := Exa.ext E184 fE_183
    have fC_kx_196 := Nat.le_trans (Nat.le_of_eq hkx) E184.1
    have fC_sd_197 := SD.ext hSx183 E184
    have gb_b184 : LeA (n0) (b184) := Nat.le_trans Z183 (Nat.le_of_eq g184.symm)
    have Z184 : LeA (n0) (h184.size) := Nat.le_trans Z183 E184.1
    have kx_b184 : kx ≤ b184 := Nat.le_trans (Nat.le_of_eq hkx) (Nat.le_of_eq g184.symm)
    refine OwnG.st (y_astore X184 H #[.val (.long q1), .second, .val (.long q2), .second, .val (.int p3), .val (.int p4), .val (.int p5), .val (.long l7), .second, .val (.long l9), .second, .val (.int l11), .val (.int l12), .val (.int (1 : Int32)), .val (.ref a14), .val (.ref a15), .val (.ref a16), .val (.ref a17), .val (.ref sto), .val (.int mm183), .val (.ref b184), .unset, .unset] at_261 rfl) ?_
    refine OwnG.st (y_iconst X184 H (3) at_263 rfl) ?_
    refine OwnG.v4 266 24 714 X184 (newP X184 hx hZ (ww hw 7 rfl) e184 (g := mkF m 264 _ _) rfl (hb hby at_264) rfl (by decide) (cap := 3) (by decide) (by decide) (by decide) (by decide)) rfl rfl ?_
    intro T198 h198 k198 X198 e198 E198 A198
    obtain ⟨b198, g198⟩ : ∃ z, z = h184.size := ⟨_, rfl⟩
    rw [← g198] at A198 ⊢
    have ne198_199 : NeA a14 b198 := Nat.ne_of_lt (Nat.lt_of_lt_of_le f190.lt (Nat.le_of_eq g198.symm))
    have ne198_200 : NeA a15 b198 := Nat.ne_of_lt (Nat.lt_of_lt_of_le f191.lt (Nat.le_of_eq g198.symm))
    have ne198_204 : NeA b184 b198 := Nat.ne_of_lt (Nat.lt_of_lt_of_le V184.lt (Nat.le_of_eq g198.symm))
    have V198 : OwnA Z h198 b198 .int 3 (iv' fun _ => 0) := own_newA A198 (by decide)
    have f205 := f190.ext E198
    have f206 := f191.ext E198
    have fC_k1_209 := Nat.le_trans fC_k1_194 E198.1
    have f210 := Exa.ext E198 f195
    have fC_sd_212 := SD.ext fC_sd_197 E198
    have f213 := V184.ext E198
    have gb_b198 : LeA (n0) (b198) := Nat.le_trans Z184 (Nat.le_of_eq g198.symm)
    have Z198 : LeA (n0) (h198.size) := Nat.le_trans Z184 E198.1
    have kx_b198 : kx ≤ b198 := Nat.le_trans fC_kx_196 (Nat.le_of_eq g198.symm)
    refine OwnG.st (y_astore X198 H #[.val (.long q1), .second, .val (.long q2), .second, .val (.int p3), .val (.int p4), .val (.int p5), .val (.long l7), .second, .val (.long l9), .second, .val (.int l11), .val (.int l12), .val (.int (1 : Int32)), .val (.ref a14), .val (.ref a15), .val (.ref a16), .val (.ref a17), .val (.ref sto), .val (.int mm183), .val (.ref b184), .val (.ref b198), .unset] at_266 rfl) ?_
    refine OwnG.st (y_aload X198 H at_268 rfl) ?_
    refine OwnG.st (y_iconst X198 H (0) at_270 rfl) ?_
    refine OwnG.st (y_ldc2 X198 H hown (mvT hZ (ww hw 143 rfl)) at_271) ?_
    refine OwnG.v3 275 (own_stJ f213 X198 hx hZ e198 (by decide) (by decide) (gf := mkF m 274 _ _) rfl rfl (hb hby at_274)) ?_
    intro T214 h214 X214 e214 W214 V214
    have V214' : OwnA Z h214 b184 .long 3 (jv' (updv (fun _ => 0) 0 (-5 : Int64))) := V214
    have f215 := f205.other W214 ne184_185
    have f216 := f206.other W214 ne184_186
    have fC_k1_219 := Nat.le_trans fC_k1_209 (Nat.le_of_eq W214.size.symm)
    have f220 := Exa.wr W214 f210
    have fC_sd_222 := SD.wr fC_sd_212 W214 kx_b184
    have f223 := V198.other W214 (Ne.symm ne198_204)
    have N214 := Fr.snoc X214 N183 gb_b184
    have Z214 : LeA (n0) (h214.size) := by rw [W214.size]; exact Z198
    refine OwnG.st (y_aload X214 H at_275 rfl) ?_
    refine OwnG.st (y_iconst X214 H (1) at_277 rfl) ?_
    refine OwnG.st (y_ldc2 X214 H hown (mvT hZ (ww hw 143 rfl)) at_278) ?_
    refine OwnG.v3 282 (own_stJ V214' X214 hx hZ e214 (by decide) (by decide) (gf := mkF m 281 _ _) rfl rfl (hb hby at_281)) ?_
    intro T224 h224 X224 e224 W224 V224
    have V224' : OwnA Z h224 b184 .long 3 (jv' (updv (updv (fun _ => 0) 0 (-5 : Int64)) 1 (-5 : Int64))) := V224
    have f225 := f215.other W224 ne184_185
    have f226 := f216.other W224 ne184_186
    have fC_k1_229 := Nat.le_trans fC_k1_219 (Nat.le_of_eq W224.size.symm)
    have f230 := Exa.wr W224 f220
    have fC_sd_232 := SD.wr fC_sd_222 W224 kx_b184
    have f233 := f223.other W224 (Ne.symm ne198_204)
    have N224 := Fr.snoc X224 N214 gb_b184
    have Z224 : LeA (n0) (h224.size) := by rw [W224.size]; exact Z214
    refine OwnG.st (y_aload X224 H at_282 rfl) ?_
    refine OwnG.st (y_iconst X224 H (2) at_284 rfl) ?_
    refine OwnG.st (y_ldc2 X224 H hown (mvT hZ (ww hw 143 rfl)) at_285) ?_
    refine OwnG.v3 289 (own_stJ V224' X224 hx hZ e224 (by decide) (by decide) (gf := mkF m 288 _ _) rfl rfl (hb hby at_288)) ?_
    intro T234 h234 X234 e234 W234 V234
    have V234' : OwnA Z h234 b184 .long 3 (jv' (updv (updv (updv (fun _ => 0) 0 (-5 : Int64)) 1 (-5 : Int64)) 2 (-5 : Int64))) := V234
    have f235 := f225.other W234 ne184_185
    have f236 := f226.other W234 ne184_186
    have fC_k1_239 := Nat.le_trans fC_k1_229 (Nat.le_of_eq W234.size.symm)
    have f240 := Exa.wr W234 f230
    have fC_sd_242 := SD.wr fC_sd_232 W234 kx_b184
    have f243 := f233.other W234 (Ne.symm ne198_204)
    have N234 := Fr.snoc X234 N224 gb_b184
    have Z234 : LeA (n0) (h234.size) := by rw [W234.size]; exact Z224
    refine OwnG.st (y_aload X234 H at_289 rfl) ?_
    refine OwnG.st (y_iconst X234 H (0) at_291 rfl) ?_
    refine OwnG.st (y_bipush X234 H (-5) at_292 rfl) ?_
    refine OwnG.v3 295 (own_stI f243 X234 hx hZ e234 (by decide) (by decide) (gf := mkF m 294 _ _) rfl rfl (hb hby at_294)) ?_
    intro T244 h244 X244 e244 W244 V244
    have V244' : OwnA Z h244 b198 .int 3 (iv' (updv (fun _ => 0) 0 (-5 : Int32))) := V244
    have f245 := f235.other W244 ne198_199
    have f246 := f236.other W244 ne198_200
    have fC_k1_249 := Nat.le_trans fC_k1_239 (Nat.le_of_eq W244.size.symm)
    have f250 := Exa.wr W244 f240
    have fC_sd_252 := SD.wr fC_sd_242 W244 kx_b198
    have f253 := V234'.other W244 ne198_204
    have N244 := Fr.snoc X244 N234 gb_b198
    have Z244 : LeA (n0) (h244.size) := by rw [W244.size]; exact Z234
    refine OwnG.st (y_aload X244 H at_295 rfl) ?_
    refine OwnG.st (y_iconst X244 H (1) at_297 rfl) ?_
    refine OwnG.st (y_bipush X244 H (-5) at_298 rfl) ?_
    refine OwnG.v3 301 (own_stI V244' X244 hx hZ e244 (by decide) (by decide) (gf := mkF m 300 _ _) rfl rfl (hb hby at_300)) ?_
    intro T254 h254 X254 e254 W254 V254
    have V254' : OwnA Z h254 b198 .int 3 (iv' (updv (updv (fun _ => 0) 0 (-5 : Int32)) 1 (-5 : Int32))) := V254
    have f255 := f245.other W254 ne198_199
    have f256 := f246.other W254 ne198_200
    have fC_k1_259 := Nat.le_trans fC_k1_249 (Nat.le_of_eq W254.size.symm)
    have f260 := Exa.wr W254 f250
    have fC_sd_262 := SD.wr fC_sd_252 W254 kx_b198
    have f263 := f253.other W254 ne198_204
    have N254 := Fr.snoc X254 N244 gb_b198
    have Z254 : LeA (n0) (h254.size) := by rw [W254.size]; exact Z244
    refine OwnG.st (y_aload X254 H at_301 rfl) ?_
    refine OwnG.st (y_iconst X254 H (2) at_303 rfl) ?_
    refine OwnG.st (y_bipush X254 H (-5) at_304 rfl) ?_
    refine OwnG.v3 307 (own_stI V254' X254 hx hZ e254 (by decide) (by decide) (gf := mkF m 306 _ _) rfl rfl (hb hby at_306)) ?_
    intro T264 h264 X264 e264 W264 V264
    have V264' : OwnA Z h264 b198 .int 3 (iv' (updv (updv (updv (fun _ => 0) 0 (-5 : Int32)) 1 (-5 : Int32)) 2 (-5 : Int32))) := V264
    have f265 := f255.other W264 ne198_199
    have f266 := f256.other W264 ne198_200
    have fC_k1_269 := Nat.le_trans fC_k1_259 (Nat.le_of_eq W264.size.symm)
    have f270 := Exa.wr W264 f260
    have fC_sd_272 := SD.wr fC_sd_262 W264 kx_b198
    have f273 := f263.other W264 ne198_204
    have N264 := Fr.snoc X264 N254 gb_b198
    have Z264 : LeA (n0) (h264.size) := by rw [W264.size]; exact Z254
    refine OwnG.st (y_aload X264 H at_307 rfl) ?_
    refine OwnG.st (y_iload X264 H at_309 rfl) ?_
    refine OwnG.st (y_aload X264 H at_311 rfl) ?_
    refine OwnG.st (y_aload X264 H at_313 rfl) ?_
    obtain ⟨cq274, kq274, q274a, q274b, q274c⟩ := isOf hZ e264 f270
    refine OwnG.cm 318 25 719 X264 (X264.virtualBack hx (y := mn_22) (z := mn_22) hown (mvT hZ (ww hw 144 rfl)) (mvT hZ (ww hw 145 rfl)) (notFace_of_selects (args := #[]) (mvT hZ (ww hw 147 rfl))) (mvT hZ (ww hw 147 rfl)) (mvT hZ (ww hw 146 rfl)) (by decide) (backOf (W := 0) (rm22D1 l Z a0 hw [] sto mm183 b184 b198 kx el183 ge183 (updv (updv (updv (fun _ => 0) 0 (-5 : Int64)) 1 (-5 : Int64)) 2 (-5 : Int64)) (updv (updv (updv (fun _ => 0) 0 (-5 : Int32)) 1 (-5 : Int32)) 2 (-5 : Int32)) (own_V (g2 0 - 0) (g3 0)) (g3 0) h264 n0 Z264 gb_b184 gb_b198 fC_sd_272 hEs183 f273 V264' kx_b184 kx_b198 ne198_204) hZ (ww hw 148 rfl) (ww hw 10 rfl) (by decide) (by decide)) q274a q274c (g := mkF m 315 _ _) rfl (by rw [hml]; rfl) (Steps.refl _) (argsL := [(.int mm183), (.ref b184), (.ref b198)]) (rest := []) (lenOf pd_0H1_3 rfl) rfl (by show 2 * 0 + _ ≤ _; exact Nat.le_of_eq rfl) (hb hby at_315) (fun _ _ => ⟨rfl, e264, (by decide : 24 + 1 ≤ _), (by decide : 714 + 5 ≤ _)⟩)) rfl rfl ?_
    intro T274 Lc274 vc274 X274 hQ274
    obtain ⟨hv274, N274q, Kq274, Vx274, Vy274⟩ := hQ274
    have f275 := f265.keep Kq274 (ninS ne184_185 (ninS ne198_199 nin0))
    have f276 := f266.keep Kq274 (ninS ne184_186 (ninS ne198_200 nin0))
    have fC_k1_279 := Nat.le_trans fC_k1_269 Kq274.1
    have Vx274' : OwnA Z T274.heap b184 .long 3 (jv' (updv (updv (updv (updv (fun _ => 0) 0 (-5 : Int64)) 1 (-5 : Int64)) 2 (-5 : Int64)) 0 (g2 0))) := by have q := Vx274; rw [own_P0 (g2 0) (g3 0) hv_0] at q; exact q
    have N274 := Fr.app N264 N274q
    refine OwnG.cn hv274 ?_
    clear hv274
    have hc326_282 : (-5 : Int64) = (-5 : Int64) := rfl
    have hc335_283 : (-5 : Int32) = (-5 : Int32) := rfl
    have hc348_284 : ¬ ((1 : Int32) < (1 : Int32)) := by decide
    have hc353_285 : ¬ ((1 : Int32) = (0 : Int32)) := by decide
    have hc365_286 : (g2 0) = (g2 0) := rfl
    have hc376_287 : (g3 0) = (g3 0) := rfl
    have hc424_288 : ¬ ((1 : Int32) = (2 : Int32)) := by decide
    have hc467_289 : ¬ ((1 : Int32) = (0 : Int32)) := by decide
    have hc478_290 : (-5 : Int64) = (-5 : Int64) := rfl
    have hc487_291 : (-5 : Int32) = (-5 : Int32) := rfl
    refine OwnG.st (y_aload X274 H at_318 rfl) ?_
    refine OwnG.st (y_iconst X274 H (2) at_320 rfl) ?_
    refine OwnG.st (y_ldJ Vx274' X274 H hZ rfl (by decide) (by decide) at_321 (-5 : Int64) rfl) ?_
    refine OwnG.st (y_ldc2 X274 H hown (mvT hZ (ww hw 143 rfl)) at_322) ?_
    refine OwnG.st (y_lcmp X274 H at_325) ?_
    refine OwnG.st (y_ifN X274 H at_326 ((if0 _ _).trans (teq ((lw_eq (-5 : Int64) (-5 : Int64)).mpr hc326_282)).2)) ?_
    refine OwnG.st (y_aload X274 H at_329 rfl) ?_
    refine OwnG.st (y_iconst X274 H (2) at_331 rfl) ?_
    refine OwnG.st (y_ldI Vy274 X274 H hZ rfl (by decide) (by decide) at_332 (-5 : Int32) rfl) ?_
    refine OwnG.st (y_bipush X274 H (-5) at_333 rfl) ?_
    refine OwnG.st (y_icN X274 H at_335 (teq hc335_283).2) ?_
    refine OwnG.st (y_iconst X274 H (1) at_338 rfl) ?_
    refine OwnG.st (y_goto X274 H 343 at_339 (by decide) (by decide)) ?_
    refine OwnG.st (y_istore X274 H #[.val (.long q1), .second, .val (.long q2), .second, .val (.int p3), .val (.int p4), .val (.int p5), .val (.long l7), .second, .val (.long l9), .second, .val (.int l11), .val (.int l12), .val (.int (1 : Int32)), .val (.ref a14), .val (.ref a15), .val (.ref a16), .val (.ref a17), .val (.ref sto), .val (.int mm183), .val (.ref b184), .val (.ref b198), .val (.int (1 : Int32))] at_343 rfl) ?_
    refine OwnG.st (y_iload X274 H at_345 rfl) ?_
    refine OwnG.st (y_iconst X274 H (1) at_347 rfl) ?_
    refine OwnG.st (y_icN X274 H at_348 (flt hc348_284).1) ?_
    refine OwnG.st (y_iload X274 H at_351 rfl) ?_
    refine OwnG.st (y_ifN X274 H at_353 ((if0 _ _).trans (feq hc353_285).1)) ?_
    refine OwnG.st (y_aload X274 H at_356 rfl) ?_
    refine OwnG.st (y_iconst X274 H (0) at_358 rfl) ?_
    refine OwnG.st (y_ldJ Vx274' X274 H hZ rfl (by decide) (by decide) at_359 (g2 0) rfl) ?_
    refine OwnG.st (y_aload X274 H at_360 rfl) ?_
    refine OwnG.st (y_iconst X274 H (0) at_362 rfl) ?_
    refine OwnG.st (y_ldJ f275 X274 H hZ rfl (by decide) (by decide) at_363 (g2 0) rfl) ?_
    refine OwnG.st (y_lcmp X274 H at_364) ?_
    refine OwnG.st (y_ifN X274 H at_365 ((if0 _ _).trans (teq ((lw_eq (g2 0) (g2 0)).mpr hc365_286)).2)) ?_
    refine OwnG.st (y_aload X274 H at_368 rfl) ?_
    refine OwnG.st (y_iconst X274 H (0) at_370 rfl) ?_
    refine OwnG.st (y_ldI Vy274 X274 H hZ rfl (by decide) (by decide) at_371 (g3 0) rfl) ?_
    refine OwnG.st (y_aload X274 H at_372 rfl) ?_
    refine OwnG.st (y_iconst X274 H (0) at_374 rfl) ?_
    refine OwnG.st (y_ldI f276 X274 H hZ rfl (by decide) (by decide) at_375 (g3 0) rfl) ?_
    refine OwnG.st (y_icN X274 H at_376 (teq hc376_287).2) ?_
    refine OwnG.st (y_iconst X274 H (1) at_379 rfl) ?_
    refine OwnG.st (y_goto X274 H 384 at_380 (by decide) (by decide)) ?_
    refine OwnG.st (y_istore X274 H #[.val (.long q1), .second, .val (.long q2), .second, .val (.int p3), .val (.int p4), .val (.int p5), .val (.long l7), .second, .val (.long l9), .second, .val (.int l11), .val (.int l12), .val (.int (1 : Int32)), .val (.ref a14), .val (.ref a15), .val (.ref a16), .val (.ref a17), .val (.ref sto), .val (.int mm183), .val (.ref b184), .val (.ref b198), .val (.int (1 : Int32))] at_384 rfl) ?_
    refine OwnG.st (y_goto X274 H 421 at_386 (by decide) (by decide)) ?_
    refine OwnG.st (y_iload X274 H at_421 rfl) ?_
    refine OwnG.st (y_iconst X274 H (2) at_423 rfl) ?_
    refine OwnG.st (y_icY X274 H 465 at_424 (feq hc424_288).2 (by decide) (by decide)) ?_
    refine OwnG.st (y_iload X274 H at_465 rfl) ?_
    refine OwnG.st (y_ifN X274 H at_467 ((if0 _ _).trans (feq hc467_289).1)) ?_
    refine OwnG.st (y_aload X274 H at_470 rfl) ?_
    refine OwnG.st (y_iconst X274 H (1) at_472 rfl) ?_
    refine OwnG.st (y_ldJ Vx274' X274 H hZ rfl (by decide) (by decide) at_473 (-5 : Int64) rfl) ?_
    refine OwnG.st (y_ldc2 X274 H hown (mvT hZ (ww hw 143 rfl)) at_474) ?_
    refine OwnG.st (y_lcmp X274 H at_477) ?_
    refine OwnG.st (y_ifN X274 H at_478 ((if0 _ _).trans (teq ((lw_eq (-5 : Int64) (-5 : Int64)).mpr hc478_290)).2)) ?_
    refine OwnG.st (y_aload X274 H at_481 rfl) ?_
    refine OwnG.st (y_iconst X274 H (1) at_483 rfl) ?_
    refine OwnG.st (y_ldI Vy274 X274 H hZ rfl (by decide) (by decide) at_484 (-5 : Int32) rfl) ?_
    refine OwnG.st (y_bipush X274 H (-5) at_485 rfl) ?_
    refine OwnG.st (y_icN X274 H at_487 (teq hc487_291).2) ?_
    refine OwnG.st (y_iconst X274 H (1) at_490 rfl) ?_
    refine OwnG.st (y_goto X274 H 495 at_491 (by decide) (by decide)) ?_
    refine OwnG.st (y_istore X274 H #[.val (.long q1), .second, .val (.long q2), .second, .val (.int p3), .val (.int p4), .val (.int p5), .val (.long l7), .second, .val (.long l9), .second, .val (.int l11), .val (.int l12), .val (.int (1 : Int32)), .val (.ref a14), .val (.ref a15), .val (.ref a16), .val (.ref a17), .val (.ref sto), .val (.int mm183), .val (.ref b184), .val (.ref b198), .val (.int (1 : Int32))] at_495 rfl) ?_
    refine OwnG.st (y_iload X274 H at_497 rfl) ?_
    exact OwnG.retN X274 hx (t := .boolean) (by simp) hret hlk (hb hby at_499) ⟨rfl, N274, fC_k1_279⟩ (by decide) (by decide)
theorem pd_0H2_0 : parseMethodDescriptor "(JLjava/lang/String;)V" = some ⟨[.long, (.object "java/lang/String")], none⟩ := by decide +kernel
theorem pd_0H2_1 : parseMethodDescriptor "(Lcom/example/deft_nets/deftnets/MemoryBudget;)V" = some ⟨[(.object "com/example/deft_nets/deftnets/MemoryBudget")], none⟩ := by decide +kernel
theorem pd_0H2_2 : parseMethodDescriptor "([J[II)I" = some ⟨[(.array .long), (.array .int), .int], some .int⟩ := by decide +kernel
theorem pd_0H2_3 : parseMethodDescriptor "(I[J[I)V" = some ⟨[.int, (.array .long), (.array .int)], none⟩ := by decide +kernel
set_option maxRecDepth 65536 in
set_option maxHeartbeats 40000000 in
theorem rm0H2 (l : Launch) (Z : State) (a0 : Array Value) (hw : HW a0 Z) {p : Program} {e : Env} {s : State} {m : MethodId} {below : List Frame} {meth : Method} {c : Code} (q1 : Int64) (q2 : Int64) (p3 : Int32) (p4 : Int32) (p5 : Int32) (l7 l9 : Int64) (l11 l12 : Int32) (a14 a15 a16 a17 astr bud sto : Addr) (g2 : Nat → Int64) (g3 : Nat → Int32) (o2 : Nat → Int64) (o3 : Nat → Int32) (s₁ : State) (lc : List Loc) (h0 : Heap) (n0 k1 : Nat) (hx : p.tables.exec = Jvm.exec) (hby : c.code = code) (hml : c.maxLocals = 23) (hret : meth.sig.returnType = some .boolean) (hlk : meth.locks = false) (hZ : Z.Warmed39 s.vm) (hown : s.vm.findClass "com/example/deft_nets/deftnets/MarkingStoreDecodePinLaw" = some m.cls) (X0 : Stand p l e room_1 s m #[(.long q1), (.long q2), (.int p3), (.int p4), (.int p5)] below meth c s₁ lc 8 35) (e0 : s₁.heap = h0) (N0 : Fr n0 lc) (Z0 : n0 ≤ h0.size) (hk1 : k1 ≤ h0.size) (hl_a14 : a14 < sto) (hl_a15 : a15 < sto) (hl_a16 : a16 < sto) (hl_a17 : a17 < sto) (gb_sto : n0 ≤ sto) (gb_bud : n0 ≤ bud) (hsb : sto ≤ bud) (hne : bud ≠ sto) (A_14 : OwnA Z h0 a14 .long 2 (jv' g2)) (A_15 : OwnA Z h0 a15 .int 2 (iv' g3)) (A_16 : OwnA Z h0 a16 .long 1 (jv' o2)) (A_17 : OwnA Z h0 a17 .int 1 (iv' o3)) (E_sto : Exa Z h0 sto "com/example/deft_nets/deftnets/MarkingStore") (S_mPool : Fld Z h0 sto "com/example/deft_nets/deftnets/MarkingStore" "mPool" "[B" .null) (S_mPoolSize : Fld Z h0 sto "com/example/deft_nets/deftnets/MarkingStore" "mPoolSize" "I" (.int (0 : Int32))) (S_mStart : Fld Z h0 sto "com/example/deft_nets/deftnets/MarkingStore" "mStart" "[I" .null) (S_mHash : Fld Z h0 sto "com/example/deft_nets/deftnets/MarkingStore" "mHash" "[I" .null) (S_mTable : Fld Z h0 sto "com/example/deft_nets/deftnets/MarkingStore" "mTable" "[I" .null) (S_mEncoded : Fld Z h0 sto "com/example/deft_nets/deftnets/MarkingStore" "mEncoded" "[B" .null) (S_mEncodedLength : Fld Z h0 sto "com/example/deft_nets/deftnets/MarkingStore" "mEncodedLength" "I" (.int (0 : Int32))) (S_mNextPlace : Fld Z h0 sto "com/example/deft_nets/deftnets/MarkingStore" "mNextPlace" "J" (.long (0 : Int64))) (S_mSize : Fld Z h0 sto "com/example/deft_nets/deftnets/MarkingStore" "mSize" "I" (.int (0 : Int32))) (S_mBudget : Fld Z h0 sto "com/example/deft_nets/deftnets/MarkingStore" "mBudget" "Lcom/example/deft_nets/deftnets/MemoryBudget;" .null) (E_bud : Exa Z h0 bud "com/example/deft_nets/deftnets/MemoryBudget") (B_mLimit : Fld Z h0 bud "com/example/deft_nets/deftnets/MemoryBudget" "mLimit" "J" (.long (0 : Int64))) (B_mUsed : Fld Z h0 bud "com/example/deft_nets/deftnets/MemoryBudget" "mUsed" "J" (.long (0 : Int64))) (B_mSource : Fld Z h0 bud "com/example/deft_nets/deftnets/MemoryBudget" "mSource" "Ljava/lang/String;" .null) (hov : 0 ≤ (o2 0).toInt ∧ (o2 0).toInt < 4611686018427387904) (hov5 : (o2 0).toInt ≤ 255) (hoc : 1 ≤ (o3 0).toInt) (hoc4 : (o3 0).toInt ≤ 4) (hv_0 : 0 ≤ (g2 0).toInt ∧ (g2 0).toInt < 4611686018427387904) (hc_0 : 1 ≤ (g3 0).toInt) (hv_1 : 0 ≤ (g2 1).toInt ∧ (g2 1).toInt < 4611686018427387904) (hc_1 : 1 ≤ (g3 1).toInt) (hlt : (g2 0).toInt < (g2 1).toInt) :
    OwnG p e below s (fun v h L => v = some (.int 1) ∧ Fr n0 L ∧ k1 ≤ h.size) room_1.cells room_1.slots s₁ (mkF m 192 #[.val (.long q1), .second, .val (.long q2), .second, .val (.int p3), .val (.int p4), .val (.int p5), .val (.long l7), .second, .val (.long l9), .second, .val (.int l11), .val (.int l12), .val (.int (2 : Int32)), .val (.ref a14), .val (.ref a15), .val (.ref a16), .val (.ref a17), .unset, .unset, .unset, .unset, .unset] [(.ref astr), (.long (1099511627776 : Int64)), (.ref bud), (.ref bud), (.ref sto), (.ref sto)]) := by
  have H := And.intro hx hby
  refine OwnG.cm 195 8 35 X0 (X0.specialBack hx (y := mn_2) rfl hown (mvT hZ (ww hw 23 rfl)) (mvT hZ (ww hw 24 rfl)) (mvT hZ (ww hw 25 rfl)) (by decide) (backOf (W := 3) (rm2 l Z a0 hw [] bud (1099511627776 : Int64) astr  h0 n0 Z0 gb_bud E_bud B_mLimit B_mUsed B_mSource rfl) hZ (ww hw 25 rfl) (ww hw 13 rfl) (by decide) (by decide)) (g := mkF m 192 _ _) rfl (by rw [hml]; rfl) (Steps.refl _) (a := bud) (argsL := [(.long (1099511627776 : Int64)), (.ref astr)]) (rest := [(.ref bud), (.ref sto), (.ref sto)]) (lenOf pd_0H2_0 rfl) rfl (by show 2 * 0 + _ ≤ _; exact Nat.le_of_eq rfl) (hb hby at_192) (fun _ _ => ⟨rfl, e0, (by decide : 8 + 0 ≤ _), (by decide : 35 + 0 ≤ _)⟩)) rfl rfl ?_
  intro T51 Lc51 vc51 X51 hQ51
  obtain ⟨hv51, N51q, Kq51, Bq51⟩ := hQ51
  have Z51 : LeA (n0) (T51.heap.size) := Nat.le_trans Z0 Kq51.1
  have f52 := A_14.keep Kq51 (ninS (Nat.ne_of_lt (Nat.lt_of_lt_of_le hl_a14 hsb)) nin0)
  have f53 := A_15.keep Kq51 (ninS (Nat.ne_of_lt (Nat.lt_of_lt_of_le hl_a15 hsb)) nin0)
  have f54 := A_16.keep Kq51 (ninS (Nat.ne_of_lt (Nat.lt_of_lt_of_le hl_a16 hsb)) nin0)
  have f55 := A_17.keep Kq51 (ninS (Nat.ne_of_lt (Nat.lt_of_lt_of_le hl_a17 hsb)) nin0)
  have f56 := Exa.keep E_sto Kq51
  have f57 := Fld.keep S_mPool Kq51 (ninS (Ne.symm hne) nin0)
  have f58 := Fld.keep S_mPoolSize Kq51 (ninS (Ne.symm hne) nin0)
  have f59 := Fld.keep S_mStart Kq51 (ninS (Ne.symm hne) nin0)
  have f60 := Fld.keep S_mHash Kq51 (ninS (Ne.symm hne) nin0)
  have f61 := Fld.keep S_mTable Kq51 (ninS (Ne.symm hne) nin0)
  have f62 := Fld.keep S_mEncoded Kq51 (ninS (Ne.symm hne) nin0)
  have f63 := Fld.keep S_mEncodedLength Kq51 (ninS (Ne.symm hne) nin0)
  have f64 := Fld.keep S_mNextPlace Kq51 (ninS (Ne.symm hne) nin0)
  have f65 := Fld.keep S_mSize Kq51 (ninS (Ne.symm hne) nin0)
  have f66 := Fld.keep S_mBudget Kq51 (ninS (Ne.symm hne) nin0)
  have fC_k1_68 := Nat.le_trans hk1 Kq51.1
  obtain ⟨EBG_69, FBG0_69, FBG1_69⟩ := Bq51
  have N51 := Fr.app N0 N51q
  refine OwnG.cn hv51 ?_
  clear hv51
  refine OwnG.cm 198 13 36 X51 (X51.specialBack hx (y := mn_4) rfl hown (mvT hZ (ww hw 33 rfl)) (mvT hZ (ww hw 34 rfl)) (mvT hZ (ww hw 35 rfl)) (by decide) (backOf (W := 1) (rm4 l Z a0 hw [] sto bud sto T51.heap n0 Z51 gb_sto f56 f57 f58 f59 f60 f61 f62 f63 f64 f65 f66 ⟨EBG_69, FBG0_69, FBG1_69⟩ (Nat.le_refl _) hsb hne) hZ (ww hw 35 rfl) (ww hw 10 rfl) (by decide) (by decide)) (g := mkF m 195 _ _) rfl (by rw [hml]; rfl) (Steps.refl _) (a := sto) (argsL := [(.ref bud)]) (rest := [(.ref sto)]) (lenOf pd_0H2_1 rfl) rfl (by show 2 * 0 + _ ≤ _; exact Nat.le_of_eq rfl) (hb hby at_195) (fun _ _ => ⟨rfl, rfl, (by decide : 8 + 5 ≤ _), (by decide : 35 + 1 ≤ _)⟩)) rfl rfl ?_
  intro T70 Lc70 vc70 X70 hQ70
  obtain ⟨hv70, N70q, KB70, hSA70⟩ := hQ70
  have Z70 : LeA (n0) (T70.heap.size) := Nat.le_trans Z51 KB70.1
  have fAa14_70 := own_akB f52 KB70 hl_a14
  have fAa15_70 := own_akB f53 KB70 hl_a15
  have fAa16_70 := own_akB f54 KB70 hl_a16
  have fAa17_70 := own_akB f55 KB70 hl_a17
  have fk1_70 := Nat.le_trans fC_k1_68 KB70.1
  have fE_70 := hSA70.exa
  have N70 := Fr.app N51 N70q
  refine OwnG.cn hv70 ?_
  clear hv70
  refine OwnG.st (y_astore X70 H #[.val (.long q1), .second, .val (.long q2), .second, .val (.int p3), .val (.int p4), .val (.int p5), .val (.long l7), .second, .val (.long l9), .second, .val (.int l11), .val (.int l12), .val (.int (2 : Int32)), .val (.ref a14), .val (.ref a15), .val (.ref a16), .val (.ref a17), .val (.ref sto), .unset, .unset, .unset, .unset] at_198 rfl) ?_
  refine OwnG.st (y_iload X70 H at_200 rfl) ?_
  refine OwnG.st (y_iconst X70 H (4) at_202 rfl) ?_
  refine OwnG.st (y_iand X70 H at_203) ?_
  by_cases hc204_71 : (p5 &&& (4 : Int32)) = (0 : Int32)
  · refine OwnG.st (y_ifY X70 H 234 at_204 ((if0 _ _).trans (teq hc204_71).1) (by decide) (by decide)) ?_
    refine OwnG.st (y_aload X70 H at_234 rfl) ?_
    refine OwnG.st (y_aload X70 H at_236 rfl) ?_
    refine OwnG.st (y_aload X70 H at_238 rfl) ?_
    refine OwnG.st (y_iload X70 H at_240 rfl) ?_
    obtain ⟨cq72, kq72, q72a, q72b, q72c⟩ := isOf hZ rfl fE_70
    refine OwnG.cm 245 18 380 X70 (X70.virtualBack hx (y := mn_5) (z := mn_5) hown (mvT hZ (ww hw 49 rfl)) (mvT hZ (ww hw 50 rfl)) (notFace_of_selects (args := #[]) (mvT hZ (ww hw 52 rfl))) (mvT hZ (ww hw 52 rfl)) (mvT hZ (ww hw 51 rfl)) (by decide) (backOf (W := 0) (rm5F2 l Z a0 hw [] sto a14 a15 (2 : Int32) sto 2 2 g2 g3 0 (fun _ => 0) T70.heap n0 Z70 gb_sto hSA70 fAa14_70 fAa15_70 hl_a14 hl_a15 rfl (by decide) (by decide) hv_0 hc_0 hv_1 hc_1 hlt) hZ (ww hw 53 rfl) (ww hw 10 rfl) (by decide) (by decide)) q72a q72c (g := mkF m 242 _ _) rfl (by rw [hml]; rfl) (Steps.refl _) (argsL := [(.ref a14), (.ref a15), (.int (2 : Int32))]) (rest := []) (lenOf pd_0H2_2 rfl) rfl (by show 2 * 0 + _ ≤ _; exact Nat.le_of_eq rfl) (hb hby at_242) (fun _ _ => ⟨rfl, rfl, (by decide : 13 + 5 ≤ _), (by decide : 36 + 344 ≤ _)⟩)) rfl rfl ?_
    intro T72 Lc72 vc72 X72 hQ72
    obtain ⟨el72, ge72, hv72, N72q, KB72, hEs72, hel72, hSA72⟩ := hQ72
    have Z72 : LeA (n0) (T72.heap.size) := Nat.le_trans Z70 KB72.1
    have fAa14_72 := own_akB fAa14_70 KB72 hl_a14
    have fAa15_72 := own_akB fAa15_70 KB72 hl_a15
    have fAa16_72 := own_akB fAa16_70 KB72 hl_a16
    have fAa17_72 := own_akB fAa17_70 KB72 hl_a17
    have fk1_72 := Nat.le_trans fk1_70 KB72.1
    have fE_72 := hSA72.exa
    have N72 := Fr.app N70 N72q
    refine OwnG.cv hv72 ?_
    clear hv72
    refine OwnG.st (y_istore X72 H #[.val (.long q1), .second, .val (.long q2), .second, .val (.int p3), .val (.int p4), .val (.int p5), .val (.long l7), .second, .val (.long l9), .second, .val (.int l11), .val (.int l12), .val (.int (2 : Int32)), .val (.ref a14), .val (.ref a15), .val (.ref a16), .val (.ref a17), .val (.ref sto), .val (.int (0 : Int32)), .unset, .unset, .unset] at_245 rfl) ?_
    refine OwnG.st (y_aload X72 H at_247 rfl) ?_
    refine OwnG.st (y_aload X72 H at_249 rfl) ?_
    refine OwnG.st (y_aload X72 H at_251 rfl) ?_
    refine OwnG.st (y_iconst X72 H (1) at_253 rfl) ?_
    obtain ⟨cq73, kq73, q73a, q73b, q73c⟩ := isOf hZ rfl fE_72
    refine OwnG.cm 257 22 708 X72 (X72.virtualBack hx (y := mn_5) (z := mn_5) hown (mvT hZ (ww hw 49 rfl)) (mvT hZ (ww hw 50 rfl)) (notFace_of_selects (args := #[]) (mvT hZ (ww hw 52 rfl))) (mvT hZ (ww hw 52 rfl)) (mvT hZ (ww hw 51 rfl)) (by decide) (backOf (W := 0) (rm5S1 l Z a0 hw [] sto a16 a17 (1 : Int32) sto 1 1 o2 o3 el72 ge72 el72 ge72 T72.heap n0 Z72 gb_sto hSA72 fAa16_72 fAa17_72 hl_a16 hl_a17 rfl (by decide) (by decide) hov hoc (Or.inr ⟨hov5, hoc4⟩)) hZ (ww hw 53 rfl) (ww hw 10 rfl) (by decide) (by decide)) q73a q73c (g := mkF m 254 _ _) rfl (by rw [hml]; rfl) (Steps.refl _) (argsL := [(.ref a16), (.ref a17), (.int (1 : Int32))]) (rest := []) (lenOf pd_0H2_2 rfl) rfl (by show 2 * 0 + _ ≤ _; exact Nat.le_of_eq rfl) (hb hby at_254) (fun _ _ => ⟨rfl, rfl, (by decide : 18 + 4 ≤ _), (by decide : 380 + 328 ≤ _)⟩)) rfl rfl ?_
    intro T73 Lc73 vc73 X73 hQ73
    obtain ⟨mm73, el73, ge73, hv73, N73q, KB73, hEs73, hSx73, hSy73⟩ := hQ73
    have Z73 : LeA (n0) (T73.heap.size) := Nat.le_trans Z72 KB73.1
    have fAa14_73 := own_akB fAa14_72 KB73 hl_a14
    have fAa15_73 := own_akB fAa15_72 KB73 hl_a15
    have fk1_73 := Nat.le_trans fk1_72 KB73.1
    have fE_73 := hSx73.exa
    obtain ⟨kx, hkx⟩ : ∃ k, k = T73.heap.size := ⟨_, rfl⟩
    rw [← hkx] at hSx73 hSy73
    have N73 := Fr.app N72 N73q
    refine OwnG.cv hv73 ?_
    clear hv73
    refine OwnG.st (y_pop X73 H at_257 rfl) ?_
    refine OwnG.st (y_iconst X73 H (3) at_258 rfl) ?_
    refine OwnG.v4 261 23 711 X73 (newP X73 hx hZ (ww hw 6 rfl) rfl (g := mkF m 259 _ _) rfl (hb hby at_259) rfl (by decide) (cap := 3) (by decide) (by decide) (by decide) (by decide)) rfl rfl ?_
    intro T74 h74 k74 X74 e74 E74 A74
    obtain ⟨b74, g74⟩ : ∃ z, z = T73.heap.size := ⟨_, rfl⟩
    rw [← g74] at A74 ⊢
    have ne74_75 : NeA a14 b74 := Nat.ne_of_lt (Nat.lt_of_lt_of_le fAa14_73.lt (Nat.le_of_eq g74.symm))
    have ne74_76 : NeA a15 b74 := Nat.ne_of_lt (Nat.lt_of_lt_of_le fAa15_73.lt (Nat.le_of_eq g74.symm))
    have V74 : OwnA Z h74 b74 .long 3 (jv' fun _ => 0) := own_newA A74 (by decide)
    have f80 := fAa14_73.ext E74
    have f81 := fAa15_73.ext E74
    have fC_k1_84 := Nat.le_trans fk1_73 E74.1
    have f85 := Exa.ext E74 fE_73
    have fC_kx_86 := Nat.le_trans (Nat.le_of_eq hkx) E74.1
    have fC_sd_87 := SD.ext hSy73 E74
    have gb_b74 : LeA (n0) (b74) := Nat.le_trans Z73 (Nat.le_of_eq g74.symm)
    have Z74 : LeA (n0) (h74.size) := Nat.le_trans Z73 E74.1
    have kx_b74 : kx ≤ b74 := Nat.le_trans (Nat.le_of_eq hkx) (Nat.le_of_eq g74.symm)
    refine OwnG.st (y_astore X74 H #[.val (.long q1), .second, .val (.long q2), .second, .val (.int p3), .val (.int p4), .val (.int p5), .val (.long l7), .second, .val (.long l9), .second, .val (.int l11), .val (.int l12), .val (.int (2 : Int32)), .val (.ref a14), .val (.ref a15), .val (.ref a16), .val (.ref a17), .val (.ref sto), .val (.int (0 : Int32)), .val (.ref b74), .unset, .unset] at_261 rfl) ?_
    refine OwnG.st (y_iconst X74 H (3) at_263 rfl) ?_
    refine OwnG.v4 266 24 714 X74 (newP X74 hx hZ (ww hw 7 rfl) e74 (g := mkF m 264 _ _) rfl (hb hby at_264) rfl (by decide) (cap := 3) (by decide) (by decide) (by decide) (by decide)) rfl rfl ?_
    intro T88 h88 k88 X88 e88 E88 A88
    obtain ⟨b88, g88⟩ : ∃ z, z = h74.size := ⟨_, rfl⟩
    rw [← g88] at A88 ⊢
    have ne88_89 : NeA a14 b88 := Nat.ne_of_lt (Nat.lt_of_lt_of_le f80.lt (Nat.le_of_eq g88.symm))
    have ne88_90 : NeA a15 b88 := Nat.ne_of_lt (Nat.lt_of_lt_of_le f81.lt (Nat.le_of_eq g88.symm))
    have ne88_94 : NeA b74 b88 := Nat.ne_of_lt (Nat.lt_of_lt_of_le V74.lt (Nat.le_of_eq g88.symm))
    have V88 : OwnA Z h88 b88 .int 3 (iv' fun _ => 0) := own_newA A88 (by decide)
    have f95 := f80.ext E88
    have f96 := f81.ext E88
    have fC_k1_99 := Nat.le_trans fC_k1_84 E88.1
    have f100 := Exa.ext E88 f85
    have fC_sd_102 := SD.ext fC_sd_87 E88
    have f103 := V74.ext E88
    have gb_b88 : LeA (n0) (b88) := Nat.le_trans Z74 (Nat.le_of_eq g88.symm)
    have Z88 : LeA (n0) (h88.size) := Nat.le_trans Z74 E88.1
    have kx_b88 : kx ≤ b88 := Nat.le_trans fC_kx_86 (Nat.le_of_eq g88.symm)
    refine OwnG.st (y_astore X88 H #[.val (.long q1), .second, .val (.long q2), .second, .val (.int p3), .val (.int p4), .val (.int p5), .val (.long l7), .second, .val (.long l9), .second, .val (.int l11), .val (.int l12), .val (.int (2 : Int32)), .val (.ref a14), .val (.ref a15), .val (.ref a16), .val (.ref a17), .val (.ref sto), .val (.int (0 : Int32)), .val (.ref b74), .val (.ref b88), .unset] at_266 rfl) ?_
    refine OwnG.st (y_aload X88 H at_268 rfl) ?_
    refine OwnG.st (y_iconst X88 H (0) at_270 rfl) ?_
    refine OwnG.st (y_ldc2 X88 H hown (mvT hZ (ww hw 143 rfl)) at_271) ?_
    refine OwnG.v3 275 (own_stJ f103 X88 hx hZ e88 (by decide) (by decide) (gf := mkF m 274 _ _) rfl rfl (hb hby at_274)) ?_
    intro T104 h104 X104 e104 W104 V104
    have V104' : OwnA Z h104 b74 .long 3 (jv' (updv (fun _ => 0) 0 (-5 : Int64))) := V104
    have f105 := f95.other W104 ne74_75
    have f106 := f96.other W104 ne74_76
    have fC_k1_109 := Nat.le_trans fC_k1_99 (Nat.le_of_eq W104.size.symm)
    have f110 := Exa.wr W104 f100
    have fC_sd_112 := SD.wr fC_sd_102 W104 kx_b74
    have f113 := V88.other W104 (Ne.symm ne88_94)
    have N104 := Fr.snoc X104 N73 gb_b74
    have Z104 : LeA (n0) (h104.size) := by rw [W104.size]; exact Z88
    refine OwnG.st (y_aload X104 H at_275 rfl) ?_
    refine OwnG.st (y_iconst X104 H (1) at_277 rfl) ?_
    refine OwnG.st (y_ldc2 X104 H hown (mvT hZ (ww hw 143 rfl)) at_278) ?_
    refine OwnG.v3 282 (own_stJ V104' X104 hx hZ e104 (by decide) (by decide) (gf := mkF m 281 _ _) rfl rfl (hb hby at_281)) ?_
    intro T114 h114 X114 e114 W114 V114
    have V114' : OwnA Z h114 b74 .long 3 (jv' (updv (updv (fun _ => 0) 0 (-5 : Int64)) 1 (-5 : Int64))) := V114
    have f115 := f105.other W114 ne74_75
    have f116 := f106.other W114 ne74_76
    have fC_k1_119 := Nat.le_trans fC_k1_109 (Nat.le_of_eq W114.size.symm)
    have f120 := Exa.wr W114 f110
    have fC_sd_122 := SD.wr fC_sd_112 W114 kx_b74
    have f123 := f113.other W114 (Ne.symm ne88_94)
    have N114 := Fr.snoc X114 N104 gb_b74
    have Z114 : LeA (n0) (h114.size) := by rw [W114.size]; exact Z104
    refine OwnG.st (y_aload X114 H at_282 rfl) ?_
    refine OwnG.st (y_iconst X114 H (2) at_284 rfl) ?_
    refine OwnG.st (y_ldc2 X114 H hown (mvT hZ (ww hw 143 rfl)) at_285) ?_
    refine OwnG.v3 289 (own_stJ V114' X114 hx hZ e114 (by decide) (by decide) (gf := mkF m 288 _ _) rfl rfl (hb hby at_288)) ?_
    intro T124 h124 X124 e124 W124 V124
    have V124' : OwnA Z h124 b74 .long 3 (jv' (updv (updv (updv (fun _ => 0) 0 (-5 : Int64)) 1 (-5 : Int64)) 2 (-5 : Int64))) := V124
    have f125 := f115.other W124 ne74_75
    have f126 := f116.other W124 ne74_76
    have fC_k1_129 := Nat.le_trans fC_k1_119 (Nat.le_of_eq W124.size.symm)
    have f130 := Exa.wr W124 f120
    have fC_sd_132 := SD.wr fC_sd_122 W124 kx_b74
    have f133 := f123.other W124 (Ne.symm ne88_94)
    have N124 := Fr.snoc X124 N114 gb_b74
    have Z124 : LeA (n0) (h124.size) := by rw [W124.size]; exact Z114
    refine OwnG.st (y_aload X124 H at_289 rfl) ?_
    refine OwnG.st (y_iconst X124 H (0) at_291 rfl) ?_
    refine OwnG.st (y_bipush X124 H (-5) at_292 rfl) ?_
    refine OwnG.v3 295 (own_stI f133 X124 hx hZ e124 (by decide) (by decide) (gf := mkF m 294 _ _) rfl rfl (hb hby at_294)) ?_
    intro T134 h134 X134 e134 W134 V134
    have V134' : OwnA Z h134 b88 .int 3 (iv' (updv (fun _ => 0) 0 (-5 : Int32))) := V134
    have f135 := f125.other W134 ne88_89
    have f136 := f126.other W134 ne88_90
    have fC_k1_139 := Nat.le_trans fC_k1_129 (Nat.le_of_eq W134.size.symm)
    have f140 := Exa.wr W134 f130
    have fC_sd_142 := SD.wr fC_sd_132 W134 kx_b88
    have f143 := V124'.other W134 ne88_94
    have N134 := Fr.snoc X134 N124 gb_b88
    have Z134 : LeA (n0) (h134.size) := by rw [W134.size]; exact Z124
    refine OwnG.st (y_aload X134 H at_295 rfl) ?_
    refine OwnG.st (y_iconst X134 H (1) at_297 rfl) ?_
    refine OwnG.st (y_bipush X134 H (-5) at_298 rfl) ?_
    refine OwnG.v3 301 (own_stI V134' X134 hx hZ e134 (by decide) (by decide) (gf := mkF m 300 _ _) rfl rfl (hb hby at_300)) ?_
    intro T144 h144 X144 e144 W144 V144
    have V144' : OwnA Z h144 b88 .int 3 (iv' (updv (updv (fun _ => 0) 0 (-5 : Int32)) 1 (-5 : Int32))) := V144
    have f145 := f135.other W144 ne88_89
    have f146 := f136.other W144 ne88_90
    have fC_k1_149 := Nat.le_trans fC_k1_139 (Nat.le_of_eq W144.size.symm)
    have f150 := Exa.wr W144 f140
    have fC_sd_152 := SD.wr fC_sd_142 W144 kx_b88
    have f153 := f143.other W144 ne88_94
    have N144 := Fr.snoc X144 N134 gb_b88
    have Z144 : LeA (n0) (h144.size) := by rw [W144.size]; exact Z134
    refine OwnG.st (y_aload X144 H at_301 rfl) ?_
    refine OwnG.st (y_iconst X144 H (2) at_303 rfl) ?_
    refine OwnG.st (y_bipush X144 H (-5) at_304 rfl) ?_
    refine OwnG.v3 307 (own_stI V144' X144 hx hZ e144 (by decide) (by decide) (gf := mkF m 306 _ _) rfl rfl (hb hby at_306)) ?_
    intro T154 h154 X154 e154 W154 V154
    have V154' : OwnA Z h154 b88 .int 3 (iv' (updv (updv (updv (fun _ => 0) 0 (-5 : Int32)) 1 (-5 : Int32)) 2 (-5 : Int32))) := V154
    have f155 := f145.other W154 ne88_89
    have f156 := f146.other W154 ne88_90
    have fC_k1_159 := Nat.le_trans fC_k1_149 (Nat.le_of_eq W154.size.symm)
    have f160 := Exa.wr W154 f150
    have fC_sd_162 := SD.wr fC_sd_152 W154 kx_b88
    have f163 := f153.other W154 ne88_94
    have N154 := Fr.snoc X154 N144 gb_b88
    have Z154 : LeA (n0) (h154.size) := by rw [W154.size]; exact Z144
    refine OwnG.st (y_aload X154 H at_307 rfl) ?_
    refine OwnG.st (y_iload X154 H at_309 rfl) ?_
    refine OwnG.st (y_aload X154 H at_311 rfl) ?_
    refine OwnG.st (y_aload X154 H at_313 rfl) ?_
    obtain ⟨cq164, kq164, q164a, q164b, q164c⟩ := isOf hZ e154 f160
    refine OwnG.cm 318 25 719 X154 (X154.virtualBack hx (y := mn_22) (z := mn_22) hown (mvT hZ (ww hw 144 rfl)) (mvT hZ (ww hw 145 rfl)) (notFace_of_selects (args := #[]) (mvT hZ (ww hw 147 rfl))) (mvT hZ (ww hw 147 rfl)) (mvT hZ (ww hw 146 rfl)) (by decide) (backOf (W := 0) (rm22D2 l Z a0 hw [] sto (0 : Int32) b74 b88 kx el72 ge72 (updv (updv (updv (fun _ => 0) 0 (-5 : Int64)) 1 (-5 : Int64)) 2 (-5 : Int64)) (updv (updv (updv (fun _ => 0) 0 (-5 : Int32)) 1 (-5 : Int32)) 2 (-5 : Int32)) (own_V (g2 0 - 0) (g3 0)) (g3 0) (own_V (g2 1 - (g2 0 + 1)) (g3 1)) (g3 1) h154 n0 Z154 gb_b74 gb_b88 fC_sd_162 hEs72 f163 V154' kx_b74 kx_b88 ne88_94) hZ (ww hw 148 rfl) (ww hw 10 rfl) (by decide) (by decide)) q164a q164c (g := mkF m 315 _ _) rfl (by rw [hml]; rfl) (Steps.refl _) (argsL := [(.int (0 : Int32)), (.ref b74), (.ref b88)]) (rest := []) (lenOf pd_0H2_3 rfl) rfl (by show 2 * 0 + _ ≤ _; exact Nat.le_of_eq rfl) (hb hby at_315) (fun _ _ => ⟨rfl, e154, (by decide : 24 + 1 ≤ _), (by decide : 714 + 5 ≤ _)⟩)) rfl rfl ?_
    intro T164 Lc164 vc164 X164 hQ164
    obtain ⟨hv164, N164q, Kq164, Vx164, Vy164⟩ := hQ164
    have f165 := f155.keep Kq164 (ninS ne74_75 (ninS ne88_89 nin0))
    have f166 := f156.keep Kq164 (ninS ne74_76 (ninS ne88_90 nin0))
    have fC_k1_169 := Nat.le_trans fC_k1_159 Kq164.1
    have Vx164' : OwnA Z T164.heap b74 .long 3 (jv' (updv (updv (updv (updv (updv (fun _ => 0) 0 (-5 : Int64)) 1 (-5 : Int64)) 2 (-5 : Int64)) 0 (g2 0)) 1 (g2 1))) := by have q := Vx164; rw [own_P0 (g2 0) (g3 0) hv_0, own_P1 (g2 0) (g2 1) (g3 1) ⟨hv_0.1, hlt, hv_1.2⟩] at q; exact q
    have N164 := Fr.app N154 N164q
    refine OwnG.cn hv164 ?_
    clear hv164
    have hc326_172 : (-5 : Int64) = (-5 : Int64) := rfl
    have hc335_173 : (-5 : Int32) = (-5 : Int32) := rfl
    have hc348_174 : ¬ ((2 : Int32) < (1 : Int32)) := by decide
    have hc353_175 : ¬ ((1 : Int32) = (0 : Int32)) := by decide
    have hc365_176 : (g2 0) = (g2 0) := rfl
    have hc376_177 : (g3 0) = (g3 0) := rfl
    have hc424_178 : (2 : Int32) = (2 : Int32) := by decide
    have hc429_179 : ¬ ((1 : Int32) = (0 : Int32)) := by decide
    have hc441_180 : (g2 1) = (g2 1) := rfl
    have hc452_181 : (g3 1) = (g3 1) := rfl
    refine OwnG.st (y_aload X164 H at_318 rfl) ?_
    refine OwnG.st (y_iconst X164 H (2) at_320 rfl) ?_
    refine OwnG.st (y_ldJ Vx164' X164 H hZ rfl (by decide) (by decide) at_321 (-5 : Int64) rfl) ?_
    refine OwnG.st (y_ldc2 X164 H hown (mvT hZ (ww hw 143 rfl)) at_322) ?_
    refine OwnG.st (y_lcmp X164 H at_325) ?_
    refine OwnG.st (y_ifN X164 H at_326 ((if0 _ _).trans (teq ((lw_eq (-5 : Int64) (-5 : Int64)).mpr hc326_172)).2)) ?_
    refine OwnG.st (y_aload X164 H at_329 rfl) ?_
    refine OwnG.st (y_iconst X164 H (2) at_331 rfl) ?_
    refine OwnG.st (y_ldI Vy164 X164 H hZ rfl (by decide) (by decide) at_332 (-5 : Int32) rfl) ?_
    refine OwnG.st (y_bipush X164 H (-5) at_333 rfl) ?_
    refine OwnG.st (y_icN X164 H at_335 (teq hc335_173).2) ?_
    refine OwnG.st (y_iconst X164 H (1) at_338 rfl) ?_
    refine OwnG.st (y_goto X164 H 343 at_339 (by decide) (by decide)) ?_
    refine OwnG.st (y_istore X164 H #[.val (.long q1), .second, .val (.long q2), .second, .val (.int p3), .val (.int p4), .val (.int p5), .val (.long l7), .second, .val (.long l9), .second, .val (.int l11), .val (.int l12), .val (.int (2 : Int32)), .val (.ref a14), .val (.ref a15), .val (.ref a16), .val (.ref a17), .val (.ref sto), .val (.int (0 : Int32)), .val (.ref b74), .val (.ref b88), .val (.int (1 : Int32))] at_343 rfl) ?_
    refine OwnG.st (y_iload X164 H at_345 rfl) ?_
    refine OwnG.st (y_iconst X164 H (1) at_347 rfl) ?_
    refine OwnG.st (y_icN X164 H at_348 (flt hc348_174).1) ?_
    refine OwnG.st (y_iload X164 H at_351 rfl) ?_
    refine OwnG.st (y_ifN X164 H at_353 ((if0 _ _).trans (feq hc353_175).1)) ?_
    refine OwnG.st (y_aload X164 H at_356 rfl) ?_
    refine OwnG.st (y_iconst X164 H (0) at_358 rfl) ?_
    refine OwnG.st (y_ldJ Vx164' X164 H hZ rfl (by decide) (by decide) at_359 (g2 0) rfl) ?_
    refine OwnG.st (y_aload X164 H at_360 rfl) ?_
    refine OwnG.st (y_iconst X164 H (0) at_362 rfl) ?_
    refine OwnG.st (y_ldJ f165 X164 H hZ rfl (by decide) (by decide) at_363 (g2 0) rfl) ?_
    refine OwnG.st (y_lcmp X164 H at_364) ?_
    refine OwnG.st (y_ifN X164 H at_365 ((if0 _ _).trans (teq ((lw_eq (g2 0) (g2 0)).mpr hc365_176)).2)) ?_
    refine OwnG.st (y_aload X164 H at_368 rfl) ?_
    refine OwnG.st (y_iconst X164 H (0) at_370 rfl) ?_
    refine OwnG.st (y_ldI Vy164 X164 H hZ rfl (by decide) (by decide) at_371 (g3 0) rfl) ?_
    refine OwnG.st (y_aload X164 H at_372 rfl) ?_
    refine OwnG.st (y_iconst X164 H (0) at_374 rfl) ?_
    refine OwnG.st (y_ldI f166 X164 H hZ rfl (by decide) (by decide) at_375 (g3 0) rfl) ?_
    refine OwnG.st (y_icN X164 H at_376 (teq hc376_177).2) ?_
    refine OwnG.st (y_iconst X164 H (1) at_379 rfl) ?_
    refine OwnG.st (y_goto X164 H 384 at_380 (by decide) (by decide)) ?_
    refine OwnG.st (y_istore X164 H #[.val (.long q1), .second, .val (.long q2), .second, .val (.int p3), .val (.int p4), .val (.int p5), .val (.long l7), .second, .val (.long l9), .second, .val (.int l11), .val (.int l12), .val (.int (2 : Int32)), .val (.ref a14), .val (.ref a15), .val (.ref a16), .val (.ref a17), .val (.ref sto), .val (.int (0 : Int32)), .val (.ref b74), .val (.ref b88), .val (.int (1 : Int32))] at_384 rfl) ?_
    refine OwnG.st (y_goto X164 H 421 at_386 (by decide) (by decide)) ?_
    refine OwnG.st (y_iload X164 H at_421 rfl) ?_
    refine OwnG.st (y_iconst X164 H (2) at_423 rfl) ?_
    refine OwnG.st (y_icN X164 H at_424 (teq hc424_178).2) ?_
    refine OwnG.st (y_iload X164 H at_427 rfl) ?_
    refine OwnG.st (y_ifN X164 H at_429 ((if0 _ _).trans (feq hc429_179).1)) ?_
    refine OwnG.st (y_aload X164 H at_432 rfl) ?_
    refine OwnG.st (y_iconst X164 H (1) at_434 rfl) ?_
    refine OwnG.st (y_ldJ Vx164' X164 H hZ rfl (by decide) (by decide) at_435 (g2 1) rfl) ?_
    refine OwnG.st (y_aload X164 H at_436 rfl) ?_
    refine OwnG.st (y_iconst X164 H (1) at_438 rfl) ?_
    refine OwnG.st (y_ldJ f165 X164 H hZ rfl (by decide) (by decide) at_439 (g2 1) rfl) ?_
    refine OwnG.st (y_lcmp X164 H at_440) ?_
    refine OwnG.st (y_ifN X164 H at_441 ((if0 _ _).trans (teq ((lw_eq (g2 1) (g2 1)).mpr hc441_180)).2)) ?_
    refine OwnG.st (y_aload X164 H at_444 rfl) ?_
    refine OwnG.st (y_iconst X164 H (1) at_446 rfl) ?_
    refine OwnG.st (y_ldI Vy164 X164 H hZ rfl (by decide) (by decide) at_447 (g3 1) rfl) ?_
    refine OwnG.st (y_aload X164 H at_448 rfl) ?_
    refine OwnG.st (y_iconst X164 H (1) at_450 rfl) ?_
    refine OwnG.st (y_ldI f166 X164 H hZ rfl (by decide) (by decide) at_451 (g3 1) rfl) ?_
    refine OwnG.st (y_icN X164 H at_452 (teq hc452_181).2) ?_
    refine OwnG.st (y_iconst X164 H (1) at_455 rfl) ?_
    refine OwnG.st (y_goto X164 H 460 at_456 (by decide) (by decide)) ?_
    refine OwnG.st (y_istore X164 H #[.val (.long q1), .second, .val (.long q2), .second, .val (.int p3), .val (.int p4), .val (.int p5), .val (.long l7), .second, .val (.long l9), .second, .val (.int l11), .val (.int l12), .val (.int (2 : Int32)), .val (.ref a14), .val (.ref a15), .val (.ref a16), .val (.ref a17), .val (.ref sto), .val (.int (0 : Int32)), .val (.ref b74), .val (.ref b88), .val (.int (1 : Int32))] at_460 rfl) ?_
    refine OwnG.st (y_goto X164 H 497 at_462 (by decide) (by decide)) ?_
    refine OwnG.st (y_iload X164 H at_497 rfl) ?_
    exact OwnG.retN X164 hx (t := .boolean) (by simp) hret hlk (hb hby at_499) ⟨rfl, N164, fC_k1_169⟩ (by decide) (by decide)
  · refine OwnG.st (y_ifN X70 H at_204 ((if0 _ _).trans (feq hc204_71).1)) ?_
    refine OwnG.st (y_aload X70 H at_207 rfl) ?_
    refine OwnG.st (y_aload X70 H at_209 rfl) ?_
    refine OwnG.st (y_aload X70 H at_211 rfl) ?_
    refine OwnG.st (y_iconst X70 H (1) at_213 rfl) ?_
    obtain ⟨cq182, kq182, q182a, q182b, q182c⟩ := isOf hZ rfl fE_70
    refine OwnG.cm 217 18 380 X70 (X70.virtualBack hx (y := mn_5) (z := mn_5) hown (mvT hZ (ww hw 49 rfl)) (mvT hZ (ww hw 50 rfl)) (notFace_of_selects (args := #[]) (mvT hZ (ww hw 52 rfl))) (mvT hZ (ww hw 52 rfl)) (mvT hZ (ww hw 51 rfl)) (by decide) (backOf (W := 0) (rm5F1 l Z a0 hw [] sto a16 a17 (1 : Int32) sto 1 1 o2 o3 0 (fun _ => 0) T70.heap n0 Z70 gb_sto hSA70 fAa16_70 fAa17_70 hl_a16 hl_a17 rfl (by decide) (by decide) hov hoc) hZ (ww hw 53 rfl) (ww hw 10 rfl) (by decide) (by decide)) q182a q182c (g := mkF m 214 _ _) rfl (by rw [hml]; rfl) (Steps.refl _) (argsL := [(.ref a16), (.ref a17), (.int (1 : Int32))]) (rest := []) (lenOf pd_0H2_2 rfl) rfl (by show 2 * 0 + _ ≤ _; exact Nat.le_of_eq rfl) (hb hby at_214) (fun _ _ => ⟨rfl, rfl, (by decide : 13 + 5 ≤ _), (by decide : 36 + 344 ≤ _)⟩)) rfl rfl ?_
    intro T182 Lc182 vc182 X182 hQ182
    obtain ⟨el182, ge182, hv182, N182q, KB182, hEs182, hel182, hsm182, hSA182⟩ := hQ182
    have Z182 : LeA (n0) (T182.heap.size) := Nat.le_trans Z70 KB182.1
    have fAa14_182 := own_akB fAa14_70 KB182 hl_a14
    have fAa15_182 := own_akB fAa15_70 KB182 hl_a15
    have fk1_182 := Nat.le_trans fk1_70 KB182.1
    have fE_182 := hSA182.exa
    have N182 := Fr.app N70 N182q
    refine OwnG.cv hv182 ?_
    clear hv182
    refine OwnG.st (y_pop X182 H at_217 rfl) ?_
    refine OwnG.st (y_aload X182 H at_218 rfl) ?_
    refine OwnG.st (y_aload X182 H at_220 rfl) ?_
    refine OwnG.st (y_aload X182 H at_222 rfl) ?_
    refine OwnG.st (y_iload X182 H at_224 rfl) ?_
    obtain ⟨cq183, kq183, q183a, q183b, q183c⟩ := isOf hZ rfl fE_182
    refine OwnG.cm 229 22 708 X182 (X182.virtualBack hx (y := mn_5) (z := mn_5) hown (mvT hZ (ww hw 49 rfl)) (mvT hZ (ww hw 50 rfl)) (notFace_of_selects (args := #[]) (mvT hZ (ww hw 52 rfl))) (mvT hZ (ww hw 52 rfl)) (mvT hZ (ww hw 51 rfl)) (by decide) (backOf (W := 0) (rm5S2 l Z a0 hw [] sto a14 a15 (2 : Int32) sto 2 2 g2 g3 el182 ge182 el182 ge182 T182.heap n0 Z182 gb_sto hSA182 fAa14_182 fAa15_182 hl_a14 hl_a15 rfl (by decide) (by decide) hv_0 hc_0 hv_1 hc_1 hlt (hsm182 hov5 hoc4)) hZ (ww hw 53 rfl) (ww hw 10 rfl) (by decide) (by decide)) q183a q183c (g := mkF m 226 _ _) rfl (by rw [hml]; rfl) (Steps.refl _) (argsL := [(.ref a14), (.ref a15), (.int (2 : Int32))]) (rest := []) (lenOf pd_0H2_2 rfl) rfl (by show 2 * 0 + _ ≤ _; exact Nat.le_of_eq rfl) (hb hby at_226) (fun _ _ => ⟨rfl, rfl, (by decide : 18 + 4 ≤ _), (by decide : 380 + 328 ≤ _)⟩)) rfl rfl ?_
    intro T183 Lc183 vc183 X183 hQ183
    obtain ⟨mm183, el183, ge183, hv183, N183q, KB183, hEs183, hSx183, hSy183⟩ := hQ183
    have Z183 : LeA (n0) (T183.heap.size) := Nat.le_trans Z182 KB183.1
    have fAa14_183 := own_akB fAa14_182 KB183 hl_a14
    have fAa15_183 := own_akB fAa15_182 KB183 hl_a15
    have fk1_183 := Nat.le_trans fk1_182 KB183.1
    have fE_183 := hSx183.exa
    obtain ⟨kx, hkx⟩ : ∃ k, k = T183.heap.size := ⟨_, rfl⟩
    rw [← hkx] at hSx183 hSy183
    have N183 := Fr.app N182 N183q
    refine OwnG.cv hv183 ?_
    clear hv183
    refine OwnG.st (y_istore X183 H #[.val (.long q1), .second, .val (.long q2), .second, .val (.int p3), .val (.int p4), .val (.int p5), .val (.long l7), .second, .val (.long l9), .second, .val (.int l11), .val (.int l12), .val (.int (2 : Int32)), .val (.ref a14), .val (.ref a15), .val (.ref a16), .val (.ref a17), .val (.ref sto), .val (.int mm183), .unset, .unset, .unset] at_229 rfl) ?_
    refine OwnG.st (y_goto X183 H 258 at_231 (by decide) (by decide)) ?_
    refine OwnG.st (y_iconst X183 H (3) at_258 rfl) ?_
    refine OwnG.v4 261 23 711 X183 (newP X183 hx hZ (ww hw 6 rfl) rfl (g := mkF m 259 _ _) rfl (hb hby at_259) rfl (by decide) (cap := 3) (by decide) (by decide) (by decide) (by decide)) rfl rfl ?_
    intro T184 h184 k184 X184 e184 E184 A184
    obtain ⟨b184, g184⟩ : ∃ z, z = T183.heap.size := ⟨_, rfl⟩
    rw [← g184] at A184 ⊢
    have ne184_185 : NeA a14 b184 := Nat.ne_of_lt (Nat.lt_of_lt_of_le fAa14_183.lt (Nat.le_of_eq g184.symm))
    have ne184_186 : NeA a15 b184 := Nat.ne_of_lt (Nat.lt_of_lt_of_le fAa15_183.lt (Nat.le_of_eq g184.symm))
    have V184 : OwnA Z h184 b184 .long 3 (jv' fun _ => 0) := own_newA A184 (by decide)
    have f190 := fAa14_183.ext E184
    have f191 := fAa15_183.ext E184
    have fC_k1_194 := Nat.le_trans fk1_183 E184.1
    have f195 := Exa.ext E184 fE_183
    have fC_kx_196 := Nat.le_trans (Nat.le_of_eq hkx) E184.1
    have fC_sd_197 := SD.ext hSx183 E184
    have gb_b184 : LeA (n0) (b184) := Nat.le_trans Z183 (Nat.le_of_eq g184.symm)
    have Z184 : LeA (n0) (h184.size) := Nat.le_trans Z183 E184.1
    have kx_b184 : kx ≤ b184 := Nat.le_trans (Nat.le_of_eq hkx) (Nat.le_of_eq g184.symm)
    refine OwnG.st (y_astore X184 H #[.val (.long q1), .second, .val (.long q2), .second, .val (.int p3), .val (.int p4), .val (.int p5), .val (.long l7), .second, .val (.long l9), .second, .val (.int l11), .val (.int l12), .val (.int (2 : Int32)), .val (.ref a14), .val (.ref a15), .val (.ref a16), .val (.ref a17), .val (.ref sto), .val (.int mm183), .val (.ref b184), .unset, .unset] at_261 rfl) ?_
    refine OwnG.st (y_iconst X184 H (3) at_263 rfl) ?_
    refine OwnG.v4 266 24 714 X184 (newP X184 hx hZ (ww hw 7 rfl) e184 (g := mkF m 264 _ _) rfl (hb hby at_264) rfl (by decide) (cap := 3) (by decide) (by decide) (by decide) (by decide)) rfl rfl ?_
    intro T198 h198 k198 X198 e198 E198 A198
    obtain ⟨b198, g198⟩ : ∃ z, z = h184.size := ⟨_, rfl⟩
    rw [← g198] at A198 ⊢
    have ne198_199 : NeA a14 b198 := Nat.ne_of_lt (Nat.lt_of_lt_of_le f190.lt (Nat.le_of_eq g198.symm))
    have ne198_200 : NeA a15 b198 := Nat.ne_of_lt (Nat.lt_of_lt_of_le f191.lt (Nat.le_of_eq g198.symm))
    have ne198_204 : NeA b184 b198 := Nat.ne_of_lt (Nat.lt_of_lt_of_le V184.lt (Nat.le_of_eq g198.symm))
    have V198 : OwnA Z h198 b198 .int 3 (iv' fun _ => 0) := own_newA A198 (by decide)
    have f205 := f190.ext E198
    have f206 := f191.ext E198
    have fC_k1_209 := Nat.le_trans fC_k1_194 E198.1
    have f210 := Exa.ext E198 f195
    have fC_sd_212 := SD.ext fC_sd_197 E198
    have f213 := V184.ext E198
    have gb_b198 : LeA (n0) (b198) := Nat.le_trans Z184 (Nat.le_of_eq g198.symm)
    have Z198 : LeA (n0) (h198.size) := Nat.le_trans Z184 E198.1
    have kx_b198 : kx ≤ b198 := Nat.le_trans fC_kx_196 (Nat.le_of_eq g198.symm)
    refine OwnG.st (y_astore X198 H #[.val (.long q1), .second, .val (.long q2), .second, .val (.int p3), .val (.int p4), .val (.int p5), .val (.long l7), .second, .val (.long l9), .second, .val (.int l11), .val (.int l12), .val (.int (2 : Int32)), .val (.ref a14), .val (.ref a15), .val (.ref a16), .val (.ref a17), .val (.ref sto), .val (.int mm183), .val (.ref b184), .val (.ref b198), .unset] at_266 rfl) ?_
    refine OwnG.st (y_aload X198 H at_268 rfl) ?_
    refine OwnG.st (y_iconst X198 H (0) at_270 rfl) ?_
    refine OwnG.st (y_ldc2 X198 H hown (mvT hZ (ww hw 143 rfl)) at_271) ?_
    refine OwnG.v3 275 (own_stJ f213 X198 hx hZ e198 (by decide) (by decide) (gf := mkF m 274 _ _) rfl rfl (hb hby at_274)) ?_
    intro T214 h214 X214 e214 W214 V214
    have V214' : OwnA Z h214 b184 .long 3 (jv' (updv (fun _ => 0) 0 (-5 : Int64))) := V214
    have f215 := f205.other W214 ne184_185
    have f216 := f206.other W214 ne184_186
    have fC_k1_219 := Nat.le_trans fC_k1_209 (Nat.le_of_eq W214.size.symm)
    have f220 := Exa.wr W214 f210
    have fC_sd_222 := SD.wr fC_sd_212 W214 kx_b184
    have f223 := V198.other W214 (Ne.symm ne198_204)
    have N214 := Fr.snoc X214 N183 gb_b184
    have Z214 : LeA (n0) (h214.size) := by rw [W214.size]; exact Z198
    refine OwnG.st (y_aload X214 H at_275 rfl) ?_
    refine OwnG.st (y_iconst X214 H (1) at_277 rfl) ?_
    refine OwnG.st (y_ldc2 X214 H hown (mvT hZ (ww hw 143 rfl)) at_278) ?_
    refine OwnG.v3 282 (own_stJ V214' X214 hx hZ e214 (by decide) (by decide) (gf := mkF m 281 _ _) rfl rfl (hb hby at_281)) ?_
    intro T224 h224 X224 e224 W224 V224
    have V224' : OwnA Z h224 b184 .long 3 (jv' (updv (updv (fun _ => 0) 0 (-5 : Int64)) 1 (-5 : Int64))) := V224
    have f225 := f215.other W224 ne184_185
    have f226 := f216.other W224 ne184_186
    have fC_k1_229 := Nat.le_trans fC_k1_219 (Nat.le_of_eq W224.size.symm)
    have f230 := Exa.wr W224 f220
    have fC_sd_232 := SD.wr fC_sd_222 W224 kx_b184
    have f233 := f223.other W224 (Ne.symm ne198_204)
    have N224 := Fr.snoc X224 N214 gb_b184
    have Z224 : LeA (n0) (h224.size) := by rw [W224.size]; exact Z214
    refine OwnG.st (y_aload X224 H at_282 rfl) ?_
    refine OwnG.st (y_iconst X224 H (2) at_284 rfl) ?_
    refine OwnG.st (y_ldc2 X224 H hown (mvT hZ (ww hw 143 rfl)) at_285) ?_
    refine OwnG.v3 289 (own_stJ V224' X224 hx hZ e224 (by decide) (by decide) (gf := mkF m 288 _ _) rfl rfl (hb hby at_288)) ?_
    intro T234 h234 X234 e234 W234 V234
    have V234' : OwnA Z h234 b184 .long 3 (jv' (updv (updv (updv (fun _ => 0) 0 (-5 : Int64)) 1 (-5 : Int64)) 2 (-5 : Int64))) := V234
    have f235 := f225.other W234 ne184_185
    have f236 := f226.other W234 ne184_186
    have fC_k1_239 := Nat.le_trans fC_k1_229 (Nat.le_of_eq W234.size.symm)
    have f240 := Exa.wr W234 f230
    have fC_sd_242 := SD.wr fC_sd_232 W234 kx_b184
    have f243 := f233.other W234 (Ne.symm ne198_204)
    have N234 := Fr.snoc X234 N224 gb_b184
    have Z234 : LeA (n0) (h234.size) := by rw [W234.size]; exact Z224
    refine OwnG.st (y_aload X234 H at_289 rfl) ?_
    refine OwnG.st (y_iconst X234 H (0) at_291 rfl) ?_
    refine OwnG.st (y_bipush X234 H (-5) at_292 rfl) ?_
    refine OwnG.v3 295 (own_stI f243 X234 hx hZ e234 (by decide) (by decide) (gf := mkF m 294 _ _) rfl rfl (hb hby at_294)) ?_
    intro T244 h244 X244 e244 W244 V244
    have V244' : OwnA Z h244 b198 .int 3 (iv' (updv (fun _ => 0) 0 (-5 : Int32))) := V244
    have f245 := f235.other W244 ne198_199
    have f246 := f236.other W244 ne198_200
    have fC_k1_249 := Nat.le_trans fC_k1_239 (Nat.le_of_eq W244.size.symm)
    have f250 := Exa.wr W244 f240
    have fC_sd_252 := SD.wr fC_sd_242 W244 kx_b198
    have f253 := V234'.other W244 ne198_204
    have N244 := Fr.snoc X244 N234 gb_b198
    have Z244 : LeA (n0) (h244.size) := by rw [W244.size]; exact Z234
    refine OwnG.st (y_aload X244 H at_295 rfl) ?_
    refine OwnG.st (y_iconst X244 H (1) at_297 rfl) ?_
    refine OwnG.st (y_bipush X244 H (-5) at_298 rfl) ?_
    refine OwnG.v3 301 (own_stI V244' X244 hx hZ e244 (by decide) (by decide) (gf := mkF m 300 _ _) rfl rfl (hb hby at_300)) ?_
    intro T254 h254 X254 e254 W254 V254
    have V254' : OwnA Z h254 b198 .int 3 (iv' (updv (updv (fun _ => 0) 0 (-5 : Int32)) 1 (-5 : Int32))) := V254
    have f255 := f245.other W254 ne198_199
    have f256 := f246.other W254 ne198_200
    have fC_k1_259 := Nat.le_trans fC_k1_249 (Nat.le_of_eq W254.size.symm)
    have f260 := Exa.wr W254 f250
    have fC_sd_262 := SD.wr fC_sd_252 W254 kx_b198
    have f263 := f253.other W254 ne198_204
    have N254 := Fr.snoc X254 N244 gb_b198
    have Z254 : LeA (n0) (h254.size) := by rw [W254.size]; exact Z244
    refine OwnG.st (y_aload X254 H at_301 rfl) ?_
    refine OwnG.st (y_iconst X254 H (2) at_303 rfl) ?_
    refine OwnG.st (y_bipush X254 H (-5) at_304 rfl) ?_
    refine OwnG.v3 307 (own_stI V254' X254 hx hZ e254 (by decide) (by decide) (gf := mkF m 306 _ _) rfl rfl (hb hby at_306)) ?_
    intro T264 h264 X264 e264 W264 V264
    have V264' : OwnA Z h264 b198 .int 3 (iv' (updv (updv (updv (fun _ => 0) 0 (-5 : Int32)) 1 (-5 : Int32)) 2 (-5 : Int32))) := V264
    have f265 := f255.other W264 ne198_199
    have f266 := f256.other W264 ne198_200
    have fC_k1_269 := Nat.le_trans fC_k1_259 (Nat.le_of_eq W264.size.symm)
    have f270 := Exa.wr W264 f260
    have fC_sd_272 := SD.wr fC_sd_262 W264 kx_b198
    have f273 := f263.other W264 ne198_204
    have N264 := Fr.snoc X264 N254 gb_b198
    have Z264 : LeA (n0) (h264.size) := by rw [W264.size]; exact Z254
    refine OwnG.st (y_aload X264 H at_307 rfl) ?_
    refine OwnG.st (y_iload X264 H at_309 rfl) ?_
    refine OwnG.st (y_aload X264 H at_311 rfl) ?_
    refine OwnG.st (y_aload X264 H at_313 rfl) ?_
    obtain ⟨cq274, kq274, q274a, q274b, q274c⟩ := isOf hZ e264 f270
    refine OwnG.cm 318 25 719 X264 (X264.virtualBack hx (y := mn_22) (z := mn_22) hown (mvT hZ (ww hw 144 rfl)) (mvT hZ (ww hw 145 rfl)) (notFace_of_selects (args := #[]) (mvT hZ (ww hw 147 rfl))) (mvT hZ (ww hw 147 rfl)) (mvT hZ (ww hw 146 rfl)) (by decide) (backOf (W := 0) (rm22D2 l Z a0 hw [] sto mm183 b184 b198 kx el183 ge183 (updv (updv (updv (fun _ => 0) 0 (-5 : Int64)) 1 (-5 : Int64)) 2 (-5 : Int64)) (updv (updv (updv (fun _ => 0) 0 (-5 : Int32)) 1 (-5 : Int32)) 2 (-5 : Int32)) (own_V (g2 0 - 0) (g3 0)) (g3 0) (own_V (g2 1 - (g2 0 + 1)) (g3 1)) (g3 1) h264 n0 Z264 gb_b184 gb_b198 fC_sd_272 hEs183 f273 V264' kx_b184 kx_b198 ne198_204) hZ (ww hw 148 rfl) (ww hw 10 rfl) (by decide) (by decide)) q274a q274c (g := mkF m 315 _ _) rfl (by rw [hml]; rfl) (Steps.refl _) (argsL := [(.int mm183), (.ref b184), (.ref b198)]) (rest := []) (lenOf pd_0H2_3 rfl) rfl (by show 2 * 0 + _ ≤ _; exact Nat.le_of_eq rfl) (hb hby at_315) (fun _ _ => ⟨rfl, e264, (by decide : 24 + 1 ≤ _), (by decide : 714 + 5 ≤ _)⟩)) rfl rfl ?_
    intro T274 Lc274 vc274 X274 hQ274
    obtain ⟨hv274, N274q, Kq274, Vx274, Vy274⟩ := hQ274
    have f275 := f265.keep Kq274 (ninS ne184_185 (ninS ne198_199 nin0))
    have f276 := f266.keep Kq274 (ninS ne184_186 (ninS ne198_200 nin0))
    have fC_k1_279 := Nat.le_trans fC_k1_269 Kq274.1
    have Vx274' : OwnA Z T274.heap b184 .long 3 (jv' (updv (updv (updv (updv (updv (fun _ => 0) 0 (-5 : Int64)) 1 (-5 : Int64)) 2 (-5 : Int64)) 0 (g2 0)) 1 (g2 1))) := by have q := Vx274; rw [own_P0 (g2 0) (g3 0) hv_0, own_P1 (g2 0) (g2 1) (g3 1) ⟨hv_0.1, hlt, hv_1.2⟩] at q; exact q
    have N274 := Fr.app N264 N274q
    refine OwnG.cn hv274 ?_
    clear hv274
    have hc326_282 : (-5 : Int64) = (-5 : Int64) := rfl
    have hc335_283 : (-5 : Int32) = (-5 : Int32) := rfl
    have hc348_284 : ¬ ((2 : Int32) < (1 : Int32)) := by decide
    have hc353_285 : ¬ ((1 : Int32) = (0 : Int32)) := by decide
    have hc365_286 : (g2 0) = (g2 0) := rfl
    have hc376_287 : (g3 0) = (g3 0) := rfl
    have hc424_288 : (2 : Int32) = (2 : Int32) := by decide
    have hc429_289 : ¬ ((1 : Int32) = (0 : Int32)) := by decide
    have hc441_290 : (g2 1) = (g2 1) := rfl
    have hc452_291 : (g3 1) = (g3 1) := rfl
    refine OwnG.st (y_aload X274 H at_318 rfl) ?_
    refine OwnG.st (y_iconst X274 H (2) at_320 rfl) ?_
    refine OwnG.st (y_ldJ Vx274' X274 H hZ rfl (by decide) (by decide) at_321 (-5 : Int64) rfl) ?_
    refine OwnG.st (y_ldc2 X274 H hown (mvT hZ (ww hw 143 rfl)) at_322) ?_
    refine OwnG.st (y_lcmp X274 H at_325) ?_
    refine OwnG.st (y_ifN X274 H at_326 ((if0 _ _).trans (teq ((lw_eq (-5 : Int64) (-5 : Int64)).mpr hc326_282)).2)) ?_
    refine OwnG.st (y_aload X274 H at_329 rfl) ?_
    refine OwnG.st (y_iconst X274 H (2) at_331 rfl) ?_
    refine OwnG.st (y_ldI Vy274 X274 H hZ rfl (by decide) (by decide) at_332 (-5 : Int32) rfl) ?_
    refine OwnG.st (y_bipush X274 H (-5) at_333 rfl) ?_
    refine OwnG.st (y_icN X274 H at_335 (teq hc335_283).2) ?_
    refine OwnG.st (y_iconst X274 H (1) at_338 rfl) ?_
    refine OwnG.st (y_goto X274 H 343 at_339 (by decide) (by decide)) ?_
    refine OwnG.st (y_istore X274 H #[.val (.long q1), .second, .val (.long q2), .second, .val (.int p3), .val (.int p4), .val (.int p5), .val (.long l7), .second, .val (.long l9), .second, .val (.int l11), .val (.int l12), .val (.int (2 : Int32)), .val (.ref a14), .val (.ref a15), .val (.ref a16), .val (.ref a17), .val (.ref sto), .val (.int mm183), .val (.ref b184), .val (.ref b198), .val (.int (1 : Int32))] at_343 rfl) ?_
    refine OwnG.st (y_iload X274 H at_345 rfl) ?_
    refine OwnG.st (y_iconst X274 H (1) at_347 rfl) ?_
    refine OwnG.st (y_icN X274 H at_348 (flt hc348_284).1) ?_
    refine OwnG.st (y_iload X274 H at_351 rfl) ?_
    refine OwnG.st (y_ifN X274 H at_353 ((if0 _ _).trans (feq hc353_285).1)) ?_
    refine OwnG.st (y_aload X274 H at_356 rfl) ?_
    refine OwnG.st (y_iconst X274 H (0) at_358 rfl) ?_
    refine OwnG.st (y_ldJ Vx274' X274 H hZ rfl (by decide) (by decide) at_359 (g2 0) rfl) ?_
    refine OwnG.st (y_aload X274 H at_360 rfl) ?_
    refine OwnG.st (y_iconst X274 H (0) at_362 rfl) ?_
    refine OwnG.st (y_ldJ f275 X274 H hZ rfl (by decide) (by decide) at_363 (g2 0) rfl) ?_
    refine OwnG.st (y_lcmp X274 H at_364) ?_
    refine OwnG.st (y_ifN X274 H at_365 ((if0 _ _).trans (teq ((lw_eq (g2 0) (g2 0)).mpr hc365_286)).2)) ?_
    refine OwnG.st (y_aload X274 H at_368 rfl) ?_
    refine OwnG.st (y_iconst X274 H (0) at_370 rfl) ?_
    refine OwnG.st (y_ldI Vy274 X274 H hZ rfl (by decide) (by decide) at_371 (g3 0) rfl) ?_
    refine OwnG.st (y_aload X274 H at_372 rfl) ?_
    refine OwnG.st (y_iconst X274 H (0) at_374 rfl) ?_
    refine OwnG.st (y_ldI f276 X274 H hZ rfl (by decide) (by decide) at_375 (g3 0) rfl) ?_
    refine OwnG.st (y_icN X274 H at_376 (teq hc376_287).2) ?_
    refine OwnG.st (y_iconst X274 H (1) at_379 rfl) ?_
    refine OwnG.st (y_goto X274 H 384 at_380 (by decide) (by decide)) ?_
    refine OwnG.st (y_istore X274 H #[.val (.long q1), .second, .val (.long q2), .second, .val (.int p3), .val (.int p4), .val (.int p5), .val (.long l7), .second, .val (.long l9), .second, .val (.int l11), .val (.int l12), .val (.int (2 : Int32)), .val (.ref a14), .val (.ref a15), .val (.ref a16), .val (.ref a17), .val (.ref sto), .val (.int mm183), .val (.ref b184), .val (.ref b198), .val (.int (1 : Int32))] at_384 rfl) ?_
    refine OwnG.st (y_goto X274 H 421 at_386 (by decide) (by decide)) ?_
    refine OwnG.st (y_iload X274 H at_421 rfl) ?_
    refine OwnG.st (y_iconst X274 H (2) at_423 rfl) ?_
    refine OwnG.st (y_icN X274 H at_424 (teq hc424_288).2) ?_
    refine OwnG.st (y_iload X274 H at_427 rfl) ?_
    refine OwnG.st (y_ifN X274 H at_429 ((if0 _ _).trans (feq hc429_289).1)) ?_
    refine OwnG.st (y_aload X274 H at_432 rfl) ?_
    refine OwnG.st (y_iconst X274 H (1) at_434 rfl) ?_
    refine OwnG.st (y_ldJ Vx274' X274 H hZ rfl (by decide) (by decide) at_435 (g2 1) rfl) ?_
    refine OwnG.st (y_aload X274 H at_436 rfl) ?_
    refine OwnG.st (y_iconst X274 H (1) at_438 rfl) ?_
    refine OwnG.st (y_ldJ f275 X274 H hZ rfl (by decide) (by decide) at_439 (g2 1) rfl) ?_
    refine OwnG.st (y_lcmp X274 H at_440) ?_
    refine OwnG.st (y_ifN X274 H at_441 ((if0 _ _).trans (teq ((lw_eq (g2 1) (g2 1)).mpr hc441_290)).2)) ?_
    refine OwnG.st (y_aload X274 H at_444 rfl) ?_
    refine OwnG.st (y_iconst X274 H (1) at_446 rfl) ?_
    refine OwnG.st (y_ldI Vy274 X274 H hZ rfl (by decide) (by decide) at_447 (g3 1) rfl) ?_
    refine OwnG.st (y_aload X274 H at_448 rfl) ?_
    refine OwnG.st (y_iconst X274 H (1) at_450 rfl) ?_
    refine OwnG.st (y_ldI f276 X274 H hZ rfl (by decide) (by decide) at_451 (g3 1) rfl) ?_
    refine OwnG.st (y_icN X274 H at_452 (teq hc452_291).2) ?_
    refine OwnG.st (y_iconst X274 H (1) at_455 rfl) ?_
    refine OwnG.st (y_goto X274 H 460 at_456 (by decide) (by decide)) ?_
    refine OwnG.st (y_istore X274 H #[.val (.long q1), .second, .val (.long q2), .second, .val (.int p3), .val (.int p4), .val (.int p5), .val (.long l7), .second, .val (.long l9), .second, .val (.int l11), .val (.int l12), .val (.int (2 : Int32)), .val (.ref a14), .val (.ref a15), .val (.ref a16), .val (.ref a17), .val (.ref sto), .val (.int mm183), .val (.ref b184), .val (.ref b198), .val (.int (1 : Int32))] at_460 rfl) ?_
    refine OwnG.st (y_goto X274 H 497 at_462 (by decide) (by decide)) ?_
    refine OwnG.st (y_iload X274 H at_497 rfl) ?_
    exact OwnG.retN X274 hx (t := .boolean) (by simp) hret hlk (hb hby at_499) ⟨rfl, N274, fC_k1_279⟩ (by decide) (by decide)
theorem pd_0_0 : parseMethodDescriptor "(II)I" = some ⟨[.int, .int], some .int⟩ := by decide +kernel
def Q0 (Z : State) (q1 : Int64) (q2 : Int64) (p3 : Int32) (p4 : Int32) (p5 : Int32) (h0 : Heap) (n0 : Nat) (v : Option Value) (h : Heap) (L : List Loc) : Prop := v = some (.int 1) ∧ Fr n0 L
set_option maxRecDepth 65536 in
set_option maxHeartbeats 40000000 in
theorem rm0 (l : Launch) (Z : State) (a0 : Array Value) (hw : HW a0 Z) (ws : List Jvm.Cond) (q1 : Int64) (q2 : Int64) (p3 : Int32) (p4 : Int32) (p5 : Int32)  (h0 : Heap) (n0 : Nat) (Z0 : n0 ≤ h0.size)  :
    MetFree l x (head1 (Jvm.Cond.code x code maxLocals ret :: ws) room_1) (fun a U => a = #[(.long q1), (.long q2), (.int p3), (.int p4), (.int p5)] ∧ Z.Warmed39 U.vm ∧ U.heap = h0) (fun _ _ _ _ _ => True) (fun _ U o U' => ∃ v L, o = .returned v ∧ Q0 Z q1 q2 p3 p4 p5 h0 n0 v U'.heap L ∧ ReturnedEndW U o U' L room_1.cells room_1.slots) := by
  refine MetFree.of_bodySF (plainFor_of_name pn_0) hisR ?_
  intro p e s m args below meth c s₁ Bd hml0 hP hK
  obtain ⟨rfl, hZ, hh⟩ := hP
  have hx := Bd.exec
  have hby := Bd.bytes
  have H := And.intro hx hby
  have hml : c.maxLocals = 23 := hml0
  have hown : s.vm.findClass "com/example/deft_nets/deftnets/MarkingStoreDecodePinLaw" = some m.cls := findClass_of_methodNamed Bd.named
  have hnm := (name_of_methodNamed Bd.named Bd.method).1
  have X0 : Stand p l e room_1 s m #[(.long q1), (.long q2), (.int p3), (.int p4), (.int p5)] below meth c s₁ [] 0 0 := Stand.of_body Bd
  have e0 : s₁.heap = h0 := by rw [← hh, Bd.state]; rfl
  have N0 := Fr.nil n0
  suffices hG : OwnW p e below s (Q0 Z q1 q2 p3 p4 p5 h0 n0) room_1.cells room_1.slots s₁ (mkF m 0 #[.val (.long q1), .second, .val (.long q2), .second, .val (.int p3), .val (.int p4), .val (.int p5), .unset, .unset, .unset, .unset, .unset, .unset, .unset, .unset, .unset, .unset, .unset, .unset, .unset, .unset, .unset, .unset] []) by
    obtain ⟨s2, o2, g1, g2⟩ := hG
    exact ⟨s2, o2, castTop (ef_0 m q1 q2 p3 p4 p5) g1, g2⟩
  have wS : ∀ a ∈ Bundle.stringAtoms, a.before a0 Z = true := by
    intro a ha
    simp only [Bundle.stringAtoms, List.mem_cons, List.not_mem_nil, or_false] at ha
    rcases ha with rfl | rfl | rfl | rfl | rfl | rfl | rfl
    · exact (ww hw 16 rfl)
    · exact (ww hw 17 rfl)
    · exact (ww hw 18 rfl)
    · exact (ww hw 19 rfl)
    · exact (ww hw 20 rfl)
    · exact (ww hw 21 rfl)
    · exact (ww hw 22 rfl)
  refine OwnW.st (y_lloadN X0 H at_0 rfl) ?_
  refine OwnW.st (y_ldc2 X0 H hown (mvT hZ (ww hw 0 rfl)) at_1) ?_
  refine OwnW.st (y_land X0 H at_4) ?_
  refine OwnW.st (y_lstore X0 H #[.val (.long q1), .second, .val (.long q2), .second, .val (.int p3), .val (.int p4), .val (.int p5), .val (.long (q1 &&& (4611686018427387903 : Int64))), .second, .unset, .unset, .unset, .unset, .unset, .unset, .unset, .unset, .unset, .unset, .unset, .unset, .unset, .unset] at_5 rfl) ?_
  refine OwnW.st (y_lloadN X0 H at_7 rfl) ?_
  refine OwnW.st (y_ldc2 X0 H hown (mvT hZ (ww hw 0 rfl)) at_8) ?_
  refine OwnW.st (y_land X0 H at_11) ?_
  refine OwnW.st (y_lstore X0 H #[.val (.long q1), .second, .val (.long q2), .second, .val (.int p3), .val (.int p4), .val (.int p5), .val (.long (q1 &&& (4611686018427387903 : Int64))), .second, .val (.long (q2 &&& (4611686018427387903 : Int64))), .second, .unset, .unset, .unset, .unset, .unset, .unset, .unset, .unset, .unset, .unset, .unset, .unset] at_12 rfl) ?_
  show OwnW p e below s _ _ _ s₁ (mkF m 14 #[.val (.long q1), .second, .val (.long q2), .second, .val (.int p3), .val (.int p4), .val (.int p5), .val (.long (q1 &&& (4611686018427387903 : Int64))), .second, .val (.long (q2 &&& (4611686018427387903 : Int64))), .second, .unset, .unset, .unset, .unset, .unset, .unset, .unset, .unset, .unset, .unset, .unset, .unset] [])
  obtain ⟨z7_51, hz7_51⟩ : ∃ w : Int64, w = (q1 &&& (4611686018427387903 : Int64)) := ⟨_, rfl⟩
  obtain ⟨z9_52, hz9_52⟩ : ∃ w : Int64, w = (q2 &&& (4611686018427387903 : Int64)) := ⟨_, rfl⟩
  rw [← hz7_51, ← hz9_52]
  refine OwnW.st (y_iconst X0 H (1) at_14 rfl) ?_
  refine OwnW.st (y_iload X0 H at_15 rfl) ?_
  refine OwnW.st (y_ldcI X0 H hown (mvT hZ (ww hw 1 rfl)) at_17) ?_
  refine OwnW.st (y_iand X0 H at_19) ?_
  refine OwnW.cl 23 0 0 X0 (Jvm.LawKit.callS X0 hx (y := mn_1) hown (mvT hZ (ww hw 2 rfl)) (mvT hZ (ww hw 3 rfl)) (mvT hZ (ww hw 4 rfl)) (mvT hZ (ww hw 5 rfl)) (by decide) (backOf (W := 0) (rm1 l Z a0 hw [] (1 : Int32) (p3 &&& (2147483647 : Int32))  h0 n0 Z0 ) hZ (ww hw 5 rfl) (ww hw 4 rfl) (by decide) (by decide)) (g := mkF m 20 _ _) rfl (by rw [hml]; rfl) (argsL := [(.int (1 : Int32)), (.int (p3 &&& (2147483647 : Int32)))]) (rest := []) (lenOf pd_0_0 rfl) rfl (by show 2 * 0 + _ ≤ _; exact Nat.le_of_eq rfl) (hb hby at_20) (fun _ _ => ⟨rfl, e0, (by decide : 0 + 0 ≤ _), (by decide : 0 + 0 ≤ _)⟩)) rfl rfl ?_
  intro T53 Lc53 vc53 X53 hQ53
  obtain ⟨hv53, N53q, e53⟩ := hQ53
  have N53 := Fr.app N0 N53q
  refine OwnW.cv hv53 ?_
  clear hv53
  refine OwnW.st (y_istore X53 H #[.val (.long q1), .second, .val (.long q2), .second, .val (.int p3), .val (.int p4), .val (.int p5), .val (.long z7_51), .second, .val (.long z9_52), .second, .val (.int (F1 (1 : Int32) (p3 &&& (2147483647 : Int32)))), .unset, .unset, .unset, .unset, .unset, .unset, .unset, .unset, .unset, .unset, .unset] at_23 rfl) ?_
  refine OwnW.st (y_iconst X53 H (1) at_25 rfl) ?_
  refine OwnW.st (y_iload X53 H at_26 rfl) ?_
  refine OwnW.st (y_ldcI X53 H hown (mvT hZ (ww hw 1 rfl)) at_28) ?_
  refine OwnW.st (y_iand X53 H at_30) ?_
  refine OwnW.cl 34 0 0 X53 (Jvm.LawKit.callS X53 hx (y := mn_1) hown (mvT hZ (ww hw 2 rfl)) (mvT hZ (ww hw 3 rfl)) (mvT hZ (ww hw 4 rfl)) (mvT hZ (ww hw 5 rfl)) (by decide) (backOf (W := 0) (rm1 l Z a0 hw [] (1 : Int32) (p4 &&& (2147483647 : Int32))  h0 n0 Z0 ) hZ (ww hw 5 rfl) (ww hw 4 rfl) (by decide) (by decide)) (g := mkF m 31 _ _) rfl (by rw [hml]; rfl) (argsL := [(.int (1 : Int32)), (.int (p4 &&& (2147483647 : Int32)))]) (rest := []) (lenOf pd_0_0 rfl) rfl (by show 2 * 0 + _ ≤ _; exact Nat.le_of_eq rfl) (hb hby at_31) (fun _ _ => ⟨rfl, e53, (by decide : 0 + 0 ≤ _), (by decide : 0 + 0 ≤ _)⟩)) rfl rfl ?_
  intro T54 Lc54 vc54 X54 hQ54
  obtain ⟨hv54, N54q, e54⟩ := hQ54
  have N54 := Fr.app N53 N54q
  refine OwnW.cv hv54 ?_
  clear hv54
  refine OwnW.st (y_istore X54 H #[.val (.long q1), .second, .val (.long q2), .second, .val (.int p3), .val (.int p4), .val (.int p5), .val (.long z7_51), .second, .val (.long z9_52), .second, .val (.int (F1 (1 : Int32) (p3 &&& (2147483647 : Int32)))), .val (.int (F1 (1 : Int32) (p4 &&& (2147483647 : Int32)))), .unset, .unset, .unset, .unset, .unset, .unset, .unset, .unset, .unset, .unset] at_34 rfl) ?_
  show OwnW p e below s _ _ _ T54 (mkF m 36 #[.val (.long q1), .second, .val (.long q2), .second, .val (.int p3), .val (.int p4), .val (.int p5), .val (.long z7_51), .second, .val (.long z9_52), .second, .val (.int (F1 (1 : Int32) (p3 &&& (2147483647 : Int32)))), .val (.int (F1 (1 : Int32) (p4 &&& (2147483647 : Int32)))), .unset, .unset, .unset, .unset, .unset, .unset, .unset, .unset, .unset, .unset] [])
  obtain ⟨z11_55, hz11_55⟩ : ∃ w : Int32, w = (F1 (1 : Int32) (p3 &&& (2147483647 : Int32))) := ⟨_, rfl⟩
  obtain ⟨z12_56, hz12_56⟩ : ∃ w : Int32, w = (F1 (1 : Int32) (p4 &&& (2147483647 : Int32))) := ⟨_, rfl⟩
  rw [← hz11_55, ← hz12_56]
  refine OwnW.st (y_iload X54 H at_36 rfl) ?_
  refine OwnW.st (y_iconst X54 H (3) at_38 rfl) ?_
  refine OwnW.st (y_iand X54 H at_39) ?_
  refine OwnW.st (y_istore X54 H #[.val (.long q1), .second, .val (.long q2), .second, .val (.int p3), .val (.int p4), .val (.int p5), .val (.long z7_51), .second, .val (.long z9_52), .second, .val (.int z11_55), .val (.int z12_56), .val (.int (p5 &&& (3 : Int32))), .unset, .unset, .unset, .unset, .unset, .unset, .unset, .unset, .unset] at_40 rfl) ?_
  refine OwnW.st (y_iload X54 H at_42 rfl) ?_
  refine OwnW.st (y_iconst X54 H (3) at_44 rfl) ?_
  obtain ⟨z51_58, hz51_58⟩ : ∃ w : Int32, w = (if (p5 &&& (3 : Int32)) = (3 : Int32) then (2 : Int32) else (p5 &&& (3 : Int32))) := ⟨_, rfl⟩
  have dj59 : ∀ tgt, Steps p.tables e below (T54.setTop (mkF m 51 #[.val (.long q1), .second, .val (.long q2), .second, .val (.int p3), .val (.int p4), .val (.int p5), .val (.long z7_51), .second, .val (.long z9_52), .second, .val (.int z11_55), .val (.int z12_56), .val (.int z51_58), .unset, .unset, .unset, .unset, .unset, .unset, .unset, .unset, .unset] [])) tgt → Steps p.tables e below (T54.setTop (mkF m 45 #[.val (.long q1), .second, .val (.long q2), .second, .val (.int p3), .val (.int p4), .val (.int p5), .val (.long z7_51), .second, .val (.long z9_52), .second, .val (.int z11_55), .val (.int z12_56), .val (.int (p5 &&& (3 : Int32))), .unset, .unset, .unset, .unset, .unset, .unset, .unset, .unset, .unset] [(.int (3 : Int32)), (.int (p5 &&& (3 : Int32)))])) tgt := by
    intro tgt kt
    by_cases hc45_57 : (p5 &&& (3 : Int32)) = (3 : Int32)
    · have qz51_58 : z51_58 = (2 : Int32) := by rw [hz51_58, if_pos hc45_57]
      rw [qz51_58] at kt
      refine y_icN X54 H at_45 (teq hc45_57).2 _ ?_
      refine y_iconst X54 H (2) at_48 rfl _ ?_
      refine y_istore X54 H #[.val (.long q1), .second, .val (.long q2), .second, .val (.int p3), .val (.int p4), .val (.int p5), .val (.long z7_51), .second, .val (.long z9_52), .second, .val (.int z11_55), .val (.int z12_56), .val (.int (2 : Int32)), .unset, .unset, .unset, .unset, .unset, .unset, .unset, .unset, .unset] at_49 rfl _ ?_
      exact kt
    · have qz51_58 : z51_58 = (p5 &&& (3 : Int32)) := by rw [hz51_58, if_neg hc45_57]
      rw [qz51_58] at kt
      refine y_icY X54 H 51 at_45 (feq hc45_57).2 (by decide) (by decide) _ ?_
      exact kt
  refine OwnW.st dj59 ?_
  refine OwnW.st (y_iload X54 H at_51 rfl) ?_
  refine OwnW.st (y_iconst X54 H (2) at_53 rfl) ?_
  obtain ⟨z68_62, hz68_62⟩ : ∃ w : Int32, w = (if z51_58 = (2 : Int32) then (if z7_51 = z9_52 then (1 : Int32) else z51_58) else z51_58) := ⟨_, rfl⟩
  have dj63 : ∀ tgt, Steps p.tables e below (T54.setTop (mkF m 68 #[.val (.long q1), .second, .val (.long q2), .second, .val (.int p3), .val (.int p4), .val (.int p5), .val (.long z7_51), .second, .val (.long z9_52), .second, .val (.int z11_55), .val (.int z12_56), .val (.int z68_62), .unset, .unset, .unset, .unset, .unset, .unset, .unset, .unset, .unset] [])) tgt → Steps p.tables e below (T54.setTop (mkF m 54 #[.val (.long q1), .second, .val (.long q2), .second, .val (.int p3), .val (.int p4), .val (.int p5), .val (.long z7_51), .second, .val (.long z9_52), .second, .val (.int z11_55), .val (.int z12_56), .val (.int z51_58), .unset, .unset, .unset, .unset, .unset, .unset, .unset, .unset, .unset] [(.int (2 : Int32)), (.int z51_58)])) tgt := by
    intro tgt kt
    by_cases hc54_60 : z51_58 = (2 : Int32)
    · refine y_icN X54 H at_54 (teq hc54_60).2 _ ?_
      refine y_lload X54 H at_57 rfl _ ?_
      refine y_lload X54 H at_59 rfl _ ?_
      refine y_lcmp X54 H at_61 _ ?_
      by_cases hc62_61 : z7_51 = z9_52
      · have qz68_62 : z68_62 = (1 : Int32) := by rw [hz68_62, if_pos hc54_60, if_pos hc62_61]
        rw [qz68_62] at kt
        refine y_ifN X54 H at_62 ((if0 _ _).trans (teq ((lw_eq z7_51 z9_52).mpr hc62_61)).2) _ ?_
        refine y_iconst X54 H (1) at_65 rfl _ ?_
        refine y_istore X54 H #[.val (.long q1), .second, .val (.long q2), .second, .val (.int p3), .val (.int p4), .val (.int p5), .val (.long z7_51), .second, .val (.long z9_52), .second, .val (.int z11_55), .val (.int z12_56), .val (.int (1 : Int32)), .unset, .unset, .unset, .unset, .unset, .unset, .unset, .unset, .unset] at_66 rfl _ ?_
        exact kt
      · have qz68_62 : z68_62 = z51_58 := by rw [hz68_62, if_pos hc54_60, if_neg hc62_61]
        rw [qz68_62] at kt
        refine y_ifY X54 H 68 at_62 ((if0 _ _).trans (feq (mt (lw_eq z7_51 z9_52).mp hc62_61)).2) (by decide) (by decide) _ ?_
        exact kt
    · have qz68_62 : z68_62 = z51_58 := by rw [hz68_62, if_neg hc54_60]
      rw [qz68_62] at kt
      refine y_icY X54 H 68 at_54 (feq hc54_60).2 (by decide) (by decide) _ ?_
      exact kt
  refine OwnW.st dj63 ?_
  refine OwnW.st (y_iconst X54 H (2) at_68 rfl) ?_
  have bd7 := own_q q1
  rw [← hz7_51] at bd7
  have bd9 := own_q q2
  rw [← hz9_52] at bd9
  have bd11 := own_k (p3 &&& (2147483647 : Int32))
  rw [← hz11_55] at bd11
  have bd12 := own_k (p4 &&& (2147483647 : Int32))
  rw [← hz12_56] at bd12
  rcases own_n p5 z7_51 z9_52 _ _ hz51_58 hz68_62 with hn | hn | ⟨hn, hneq⟩
  · subst hn
    refine OwnW.v4 71 1 2 X54 (newP X54 hx hZ (ww hw 6 rfl) e54 (g := mkF m 69 _ _) rfl (hb hby at_69) rfl (by decide) (cap := 2) (by decide) (by decide) (by decide) (by decide)) rfl rfl ?_
    intro T64 h64 k64 X64 e64 E64 A64
    obtain ⟨b64, g64⟩ : ∃ z, z = h0.size := ⟨_, rfl⟩
    rw [← g64] at A64 ⊢
    have V64 : OwnA Z h64 b64 .long 2 (jv' fun _ => 0) := own_newA A64 (by decide)
    have gb_b64 : LeA (n0) (b64) := Nat.le_trans Z0 (Nat.le_of_eq g64.symm)
    have Z64 : LeA (n0) (h64.size) := Nat.le_trans Z0 E64.1
    refine OwnW.st (y_astore X64 H #[.val (.long q1), .second, .val (.long q2), .second, .val (.int p3), .val (.int p4), .val (.int p5), .val (.long z7_51), .second, .val (.long z9_52), .second, .val (.int z11_55), .val (.int z12_56), .val (.int (0 : Int32)), .val (.ref b64), .unset, .unset, .unset, .unset, .unset, .unset, .unset, .unset] at_71 rfl) ?_
    refine OwnW.st (y_iconst X64 H (2) at_73 rfl) ?_
    refine OwnW.v4 76 2 4 X64 (newP X64 hx hZ (ww hw 7 rfl) e64 (g := mkF m 74 _ _) rfl (hb hby at_74) rfl (by decide) (cap := 2) (by decide) (by decide) (by decide) (by decide)) rfl rfl ?_
    intro T65 h65 k65 X65 e65 E65 A65
    obtain ⟨b65, g65⟩ : ∃ z, z = h64.size := ⟨_, rfl⟩
    rw [← g65] at A65 ⊢
    have ne65_66 : NeA b64 b65 := Nat.ne_of_lt (Nat.lt_of_lt_of_le V64.lt (Nat.le_of_eq g65.symm))
    have V65 : OwnA Z h65 b65 .int 2 (iv' fun _ => 0) := own_newA A65 (by decide)
    have f67 := V64.ext E65
    have gb_b65 : LeA (n0) (b65) := Nat.le_trans Z64 (Nat.le_of_eq g65.symm)
    have Z65 : LeA (n0) (h65.size) := Nat.le_trans Z64 E65.1
    have hc81_68 : ¬ ((0 : Int32) = (2 : Int32)) := by decide
    refine OwnW.st (y_astore X65 H #[.val (.long q1), .second, .val (.long q2), .second, .val (.int p3), .val (.int p4), .val (.int p5), .val (.long z7_51), .second, .val (.long z9_52), .second, .val (.int z11_55), .val (.int z12_56), .val (.int (0 : Int32)), .val (.ref b64), .val (.ref b65), .unset, .unset, .unset, .unset, .unset, .unset, .unset] at_76 rfl) ?_
    refine OwnW.st (y_iload X65 H at_78 rfl) ?_
    refine OwnW.st (y_iconst X65 H (2) at_80 rfl) ?_
    refine OwnW.st (y_icY X65 H 119 at_81 (feq hc81_68).2 (by decide) (by decide)) ?_
    refine OwnW.st (y_aload X65 H at_119 rfl) ?_
    refine OwnW.st (y_iconst X65 H (0) at_121 rfl) ?_
    refine OwnW.st (y_lload X65 H at_122 rfl) ?_
    refine OwnW.v3 125 (own_stJ f67 X65 hx hZ e65 (by decide) (by decide) (gf := mkF m 124 _ _) rfl rfl (hb hby at_124)) ?_
    intro T69 h69 X69 e69 W69 V69
    have V69' : OwnA Z h69 b64 .long 2 (jv' (updv (fun _ => 0) 0 z7_51)) := V69
    have f70 := V65.other W69 (Ne.symm ne65_66)
    have N69 := Fr.snoc X69 N54 gb_b64
    have Z69 : LeA (n0) (h69.size) := by rw [W69.size]; exact Z65
    refine OwnW.st (y_aload X69 H at_125 rfl) ?_
    refine OwnW.st (y_iconst X69 H (0) at_127 rfl) ?_
    refine OwnW.st (y_iload X69 H at_128 rfl) ?_
    refine OwnW.v3 131 (own_stI f70 X69 hx hZ e69 (by decide) (by decide) (gf := mkF m 130 _ _) rfl rfl (hb hby at_130)) ?_
    intro T71 h71 X71 e71 W71 V71
    have V71' : OwnA Z h71 b65 .int 2 (iv' (updv (fun _ => 0) 0 z11_55)) := V71
    have f72 := V69'.other W71 ne65_66
    have N71 := Fr.snoc X71 N69 gb_b65
    have Z71 : LeA (n0) (h71.size) := by rw [W71.size]; exact Z69
    refine OwnW.st (y_aload X71 H at_131 rfl) ?_
    refine OwnW.st (y_iconst X71 H (1) at_133 rfl) ?_
    refine OwnW.st (y_lload X71 H at_134 rfl) ?_
    refine OwnW.v3 137 (own_stJ f72 X71 hx hZ e71 (by decide) (by decide) (gf := mkF m 136 _ _) rfl rfl (hb hby at_136)) ?_
    intro T73 h73 X73 e73 W73 V73
    have V73' : OwnA Z h73 b64 .long 2 (jv' (updv (updv (fun _ => 0) 0 z7_51) 1 z9_52)) := V73
    have f74 := V71'.other W73 (Ne.symm ne65_66)
    have N73 := Fr.snoc X73 N71 gb_b64
    have Z73 : LeA (n0) (h73.size) := by rw [W73.size]; exact Z71
    refine OwnW.st (y_aload X73 H at_137 rfl) ?_
    refine OwnW.st (y_iconst X73 H (1) at_139 rfl) ?_
    refine OwnW.st (y_iload X73 H at_140 rfl) ?_
    refine OwnW.v3 143 (own_stI f74 X73 hx hZ e73 (by decide) (by decide) (gf := mkF m 142 _ _) rfl rfl (hb hby at_142)) ?_
    intro T75 h75 X75 e75 W75 V75
    have V75' : OwnA Z h75 b65 .int 2 (iv' (updv (updv (fun _ => 0) 0 z11_55) 1 z12_56)) := V75
    have f76 := V73'.other W75 ne65_66
    have N75 := Fr.snoc X75 N73 gb_b65
    have Z75 : LeA (n0) (h75.size) := by rw [W75.size]; exact Z73
    refine OwnW.st (y_iconst X75 H (1) at_143 rfl) ?_
    refine OwnW.v4 146 3 5 X75 (newP X75 hx hZ (ww hw 6 rfl) e75 (g := mkF m 144 _ _) rfl (hb hby at_144) rfl (by decide) (cap := 1) (by decide) (by decide) (by decide) (by decide)) rfl rfl ?_
    intro T77 h77 k77 X77 e77 E77 A77
    obtain ⟨b77, g77⟩ : ∃ z, z = h75.size := ⟨_, rfl⟩
    rw [← g77] at A77 ⊢
    have ne77_78 : NeA b64 b77 := Nat.ne_of_lt (Nat.lt_of_lt_of_le f76.lt (Nat.le_of_eq g77.symm))
    have ne77_79 : NeA b65 b77 := Nat.ne_of_lt (Nat.lt_of_lt_of_le V75'.lt (Nat.le_of_eq g77.symm))
    have V77 : OwnA Z h77 b77 .long 1 (jv' fun _ => 0) := own_newA A77 (by decide)
    have f80 := f76.ext E77
    have f81 := V75'.ext E77
    have gb_b77 : LeA (n0) (b77) := Nat.le_trans Z75 (Nat.le_of_eq g77.symm)
    have Z77 : LeA (n0) (h77.size) := Nat.le_trans Z75 E77.1
    refine OwnW.st (y_astore X77 H #[.val (.long q1), .second, .val (.long q2), .second, .val (.int p3), .val (.int p4), .val (.int p5), .val (.long z7_51), .second, .val (.long z9_52), .second, .val (.int z11_55), .val (.int z12_56), .val (.int (0 : Int32)), .val (.ref b64), .val (.ref b65), .val (.ref b77), .unset, .unset, .unset, .unset, .unset, .unset] at_146 rfl) ?_
    refine OwnW.st (y_iconst X77 H (1) at_148 rfl) ?_
    refine OwnW.v4 151 4 6 X77 (newP X77 hx hZ (ww hw 7 rfl) e77 (g := mkF m 149 _ _) rfl (hb hby at_149) rfl (by decide) (cap := 1) (by decide) (by decide) (by decide) (by decide)) rfl rfl ?_
    intro T82 h82 k82 X82 e82 E82 A82
    obtain ⟨b82, g82⟩ : ∃ z, z = h77.size := ⟨_, rfl⟩
    rw [← g82] at A82 ⊢
    have ne82_83 : NeA b64 b82 := Nat.ne_of_lt (Nat.lt_of_lt_of_le f80.lt (Nat.le_of_eq g82.symm))
    have ne82_84 : NeA b65 b82 := Nat.ne_of_lt (Nat.lt_of_lt_of_le f81.lt (Nat.le_of_eq g82.symm))
    have ne82_85 : NeA b77 b82 := Nat.ne_of_lt (Nat.lt_of_lt_of_le V77.lt (Nat.le_of_eq g82.symm))
    have V82 : OwnA Z h82 b82 .int 1 (iv' fun _ => 0) := own_newA A82 (by decide)
    have f86 := f80.ext E82
    have f87 := f81.ext E82
    have f88 := V77.ext E82
    have gb_b82 : LeA (n0) (b82) := Nat.le_trans Z77 (Nat.le_of_eq g82.symm)
    have Z82 : LeA (n0) (h82.size) := Nat.le_trans Z77 E82.1
    refine OwnW.st (y_astore X82 H #[.val (.long q1), .second, .val (.long q2), .second, .val (.int p3), .val (.int p4), .val (.int p5), .val (.long z7_51), .second, .val (.long z9_52), .second, .val (.int z11_55), .val (.int z12_56), .val (.int (0 : Int32)), .val (.ref b64), .val (.ref b65), .val (.ref b77), .val (.ref b82), .unset, .unset, .unset, .unset, .unset] at_151 rfl) ?_
    refine OwnW.st (y_aload X82 H at_153 rfl) ?_
    refine OwnW.st (y_iconst X82 H (0) at_155 rfl) ?_
    refine OwnW.st (y_iload X82 H at_156 rfl) ?_
    refine OwnW.st (y_iconst X82 H (3) at_158 rfl) ?_
    refine OwnW.st (y_iushr X82 H at_159) ?_
    refine OwnW.st (y_sipush X82 H (255) at_160 rfl) ?_
    refine OwnW.st (y_iand X82 H at_163) ?_
    refine OwnW.st (y_i2l X82 H at_164) ?_
    refine OwnW.v3 166 (own_stJ f88 X82 hx hZ e82 (by decide) (by decide) (gf := mkF m 165 _ _) rfl rfl (hb hby at_165)) ?_
    intro T89 h89 X89 e89 W89 V89
    have V89' : OwnA Z h89 b77 .long 1 (jv' (updv (fun _ => 0) 0 ((((p5.toUInt32 >>> ((3 : Int32) &&& 31).toUInt32).toInt32) &&& (255 : Int32)).toInt64))) := V89
    have f90 := f86.other W89 ne77_78
    have f91 := f87.other W89 ne77_79
    have f92 := V82.other W89 (Ne.symm ne82_85)
    have N89 := Fr.snoc X89 N75 gb_b77
    have Z89 : LeA (n0) (h89.size) := by rw [W89.size]; exact Z82
    refine OwnW.st (y_aload X89 H at_166 rfl) ?_
    refine OwnW.st (y_iconst X89 H (0) at_168 rfl) ?_
    refine OwnW.st (y_iconst X89 H (1) at_169 rfl) ?_
    refine OwnW.st (y_iload X89 H at_170 rfl) ?_
    refine OwnW.st (y_bipush X89 H (11) at_172 rfl) ?_
    refine OwnW.st (y_iushr X89 H at_174) ?_
    refine OwnW.st (y_iconst X89 H (3) at_175 rfl) ?_
    refine OwnW.st (y_iand X89 H at_176) ?_
    refine OwnW.st (y_iadd X89 H at_177) ?_
    refine OwnW.v3 179 (own_stI f92 X89 hx hZ e89 (by decide) (by decide) (gf := mkF m 178 _ _) rfl rfl (hb hby at_178)) ?_
    intro T93 h93 X93 e93 W93 V93
    have V93' : OwnA Z h93 b82 .int 1 (iv' (updv (fun _ => 0) 0 ((1 : Int32) + (((p5.toUInt32 >>> ((11 : Int32) &&& 31).toUInt32).toInt32) &&& (3 : Int32))))) := V93
    have f94 := f90.other W93 ne82_83
    have f95 := f91.other W93 ne82_84
    have f96 := V89'.other W93 ne82_85
    have N93 := Fr.snoc X93 N89 gb_b82
    have Z93 : LeA (n0) (h93.size) := by rw [W93.size]; exact Z89
    refine OwnW.v5 182 5 16 X93 (newO X93 hx hZ hown (ww hw 8 rfl) (ww hw 9 rfl) (ww hw 10 rfl) e93 (g := mkF m 179 _ _) rfl (hb hby at_179) (by decide) (by decide)) rfl rfl ?_
    intro T97 h97 X97 e97 E97 A97 D97 _
    obtain ⟨b97, g97⟩ : ∃ z, z = h93.size := ⟨_, rfl⟩
    rw [← g97] at A97 D97 ⊢
    have f102 := f94.ext E97
    have f103 := f95.ext E97
    have f104 := f96.ext E97
    have f105 := V93'.ext E97
    have F97_mPool : Fld Z h97 b97 "com/example/deft_nets/deftnets/MarkingStore" "mPool" "[B" .null := D97 (Or.inl (ww hw 38 rfl)) (ty := (.array .byte)) (by decide)
    have F97_mStart : Fld Z h97 b97 "com/example/deft_nets/deftnets/MarkingStore" "mStart" "[I" .null := D97 (Or.inl (ww hw 40 rfl)) (ty := (.array .int)) (by decide)
    have F97_mHash : Fld Z h97 b97 "com/example/deft_nets/deftnets/MarkingStore" "mHash" "[I" .null := D97 (Or.inl (ww hw 42 rfl)) (ty := (.array .int)) (by decide)
    have F97_mTable : Fld Z h97 b97 "com/example/deft_nets/deftnets/MarkingStore" "mTable" "[I" .null := D97 (Or.inl (ww hw 44 rfl)) (ty := (.array .int)) (by decide)
    have F97_mEncoded : Fld Z h97 b97 "com/example/deft_nets/deftnets/MarkingStore" "mEncoded" "[B" .null := D97 (Or.inl (ww hw 46 rfl)) (ty := (.array .byte)) (by decide)
    have F97_mBudget : Fld Z h97 b97 "com/example/deft_nets/deftnets/MarkingStore" "mBudget" "Lcom/example/deft_nets/deftnets/MemoryBudget;" .null := D97 (Or.inr (ww hw 48 rfl)) (ty := (.object "com/example/deft_nets/deftnets/MemoryBudget")) (by decide)
    have F97_mEncodedLength : Fld Z h97 b97 "com/example/deft_nets/deftnets/MarkingStore" "mEncodedLength" "I" (.int (0 : Int32)) := D97 (Or.inl (ww hw 60 rfl)) (ty := .int) (by decide)
    have F97_mNextPlace : Fld Z h97 b97 "com/example/deft_nets/deftnets/MarkingStore" "mNextPlace" "J" (.long (0 : Int64)) := D97 (Or.inl (ww hw 62 rfl)) (ty := .long) (by decide)
    have F97_mSize : Fld Z h97 b97 "com/example/deft_nets/deftnets/MarkingStore" "mSize" "I" (.int (0 : Int32)) := D97 (Or.inl (ww hw 76 rfl)) (ty := .int) (by decide)
    have F97_mPoolSize : Fld Z h97 b97 "com/example/deft_nets/deftnets/MarkingStore" "mPoolSize" "I" (.int (0 : Int32)) := D97 (Or.inl (ww hw 95 rfl)) (ty := .int) (by decide)
    have gb_b97 : LeA (n0) (b97) := Nat.le_trans Z93 (Nat.le_of_eq g97.symm)
    have Z97 : LeA (n0) (h97.size) := Nat.le_trans Z93 E97.1
    refine OwnW.st (y_dup X97 H at_182 rfl) ?_
    refine OwnW.v5 186 6 19 X97 (newO X97 hx hZ hown (ww hw 11 rfl) (ww hw 12 rfl) (ww hw 13 rfl) e97 (g := mkF m 183 _ _) rfl (hb hby at_183) (by decide) (by decide)) rfl rfl ?_
    intro T106 h106 X106 e106 E106 A106 D106 _
    obtain ⟨b106, g106⟩ : ∃ z, z = h97.size := ⟨_, rfl⟩
    rw [← g106] at A106 D106 ⊢
    have f112 := f102.ext E106
    have f113 := f103.ext E106
    have f114 := f104.ext E106
    have f115 := f105.ext E106
    have f116 := Exa.ext E106 A97
    have f117 := Fld.ext E106 F97_mPool
    have f118 := Fld.ext E106 F97_mStart
    have f119 := Fld.ext E106 F97_mHash
    have f120 := Fld.ext E106 F97_mTable
    have f121 := Fld.ext E106 F97_mEncoded
    have f122 := Fld.ext E106 F97_mBudget
    have f123 := Fld.ext E106 F97_mEncodedLength
    have f124 := Fld.ext E106 F97_mNextPlace
    have f125 := Fld.ext E106 F97_mSize
    have f126 := Fld.ext E106 F97_mPoolSize
    have F106_mLimit : Fld Z h106 b106 "com/example/deft_nets/deftnets/MemoryBudget" "mLimit" "J" (.long (0 : Int64)) := D106 (Or.inr (ww hw 30 rfl)) (ty := .long) (by decide)
    have F106_mSource : Fld Z h106 b106 "com/example/deft_nets/deftnets/MemoryBudget" "mSource" "Ljava/lang/String;" .null := D106 (Or.inr (ww hw 32 rfl)) (ty := (.object "java/lang/String")) (by decide)
    have F106_mUsed : Fld Z h106 b106 "com/example/deft_nets/deftnets/MemoryBudget" "mUsed" "J" (.long (0 : Int64)) := D106 (Or.inl (ww hw 93 rfl)) (ty := .long) (by decide)
    have gb_b106 : LeA (n0) (b106) := Nat.le_trans Z97 (Nat.le_of_eq g106.symm)
    have Z106 : LeA (n0) (h106.size) := Nat.le_trans Z97 E106.1
    have hbs : b97 < b106 := Nat.lt_of_lt_of_le (Exa.lt A97) (Nat.le_of_eq g106.symm)
    refine OwnW.st (y_dup X106 H at_186 rfl) ?_
    refine OwnW.st (y_ldc2 X106 H hown (mvT hZ (ww hw 14 rfl)) at_187) ?_
    obtain ⟨as127, T127, h127, X127, e127, E127, S127, Zw127, ow127, st127⟩ := own_ldcS X106 hx hZ hown (ww hw 15 rfl) wS e106 (g := (mkF m 190 #[.val (.long q1), .second, .val (.long q2), .second, .val (.int p3), .val (.int p4), .val (.int p5), .val (.long z7_51), .second, .val (.long z9_52), .second, .val (.int z11_55), .val (.int z12_56), .val (.int (0 : Int32)), .val (.ref b64), .val (.ref b65), .val (.ref b77), .val (.ref b82), .unset, .unset, .unset, .unset, .unset] [(.long (1099511627776 : Int64)), (.ref b106), (.ref b106), (.ref b97), (.ref b97)])) rfl (hb hby at_190) (n := 12) (by decide) (by decide) (by decide) (by decide)
    refine OwnW.st st127 ?_
    have f128 := f112.ext E127
    have f129 := f113.ext E127
    have f130 := f114.ext E127
    have f131 := f115.ext E127
    have f132 := Exa.ext E127 f116
    have f133 := Fld.ext E127 f117
    have f134 := Fld.ext E127 f118
    have f135 := Fld.ext E127 f119
    have f136 := Fld.ext E127 f120
    have f137 := Fld.ext E127 f121
    have f138 := Fld.ext E127 f122
    have f139 := Fld.ext E127 f123
    have f140 := Fld.ext E127 f124
    have f141 := Fld.ext E127 f125
    have f142 := Fld.ext E127 f126
    have f143 := Exa.ext E127 A106
    have f144 := Fld.ext E127 F106_mLimit
    have f145 := Fld.ext E127 F106_mSource
    have f146 := Fld.ext E127 F106_mUsed
    have bo2 := own_o2 ((p5.toUInt32 >>> ((3 : Int32) &&& 31).toUInt32).toInt32)
    have bo3 := own_o3 ((p5.toUInt32 >>> ((11 : Int32) &&& 31).toUInt32).toInt32)
    exact OwnW.of S127 (fun v h L q => ⟨q.2.2, q.1, q.2.1⟩) (rm0H0 l Z a0 hw q1 q2 p3 p4 p5 z7_51 z9_52 z11_55 z12_56 b64 b65 b77 b82  as127 b106 b97 (updv (updv (fun _ => 0) 0 z7_51) 1 z9_52) (updv (updv (fun _ => 0) 0 z11_55) 1 z12_56) (updv (fun _ => 0) 0 ((((p5.toUInt32 >>> ((3 : Int32) &&& 31).toUInt32).toInt32) &&& (255 : Int32)).toInt64)) (updv (fun _ => 0) 0 ((1 : Int32) + (((p5.toUInt32 >>> ((11 : Int32) &&& 31).toUInt32).toInt32) &&& (3 : Int32)))) T127 _ h127 n0 h127.size hx hby hml Bd.returns (BodyLoose.notSynchronized Bd) Zw127 ow127 X127 e127 N93 (Nat.le_trans Z106 E127.1) (Nat.le_refl _) (Nat.lt_of_lt_of_le f94.lt (Nat.le_of_eq g97.symm)) (Nat.lt_of_lt_of_le f95.lt (Nat.le_of_eq g97.symm)) (Nat.lt_of_lt_of_le f96.lt (Nat.le_of_eq g97.symm)) (Nat.lt_of_lt_of_le V93'.lt (Nat.le_of_eq g97.symm)) gb_b97 gb_b106 (Nat.le_of_lt hbs) (Nat.ne_of_gt hbs) f128 f129 f130 f131 f132 f133 f142 f134 f135 f136 f137 f139 f140 f141 f138 f143 f144 f146 f145 ⟨bo2.1, Int.lt_of_le_of_lt bo2.2 (by decide)⟩ bo2.2 bo3.1 bo3.2)
  · subst hn
    refine OwnW.v4 71 1 2 X54 (newP X54 hx hZ (ww hw 6 rfl) e54 (g := mkF m 69 _ _) rfl (hb hby at_69) rfl (by decide) (cap := 2) (by decide) (by decide) (by decide) (by decide)) rfl rfl ?_
    intro T147 h147 k147 X147 e147 E147 A147
    obtain ⟨b147, g147⟩ : ∃ z, z = h0.size := ⟨_, rfl⟩
    rw [← g147] at A147 ⊢
    have V147 : OwnA Z h147 b147 .long 2 (jv' fun _ => 0) := own_newA A147 (by decide)
    have gb_b147 : LeA (n0) (b147) := Nat.le_trans Z0 (Nat.le_of_eq g147.symm)
    have Z147 : LeA (n0) (h147.size) := Nat.le_trans Z0 E147.1
    refine OwnW.st (y_astore X147 H #[.val (.long q1), .second, .val (.long q2), .second, .val (.int p3), .val (.int p4), .val (.int p5), .val (.long z7_51), .second, .val (.long z9_52), .second, .val (.int z11_55), .val (.int z12_56), .val (.int (1 : Int32)), .val (.ref b147), .unset, .unset, .unset, .unset, .unset, .unset, .unset, .unset] at_71 rfl) ?_
    refine OwnW.st (y_iconst X147 H (2) at_73 rfl) ?_
    refine OwnW.v4 76 2 4 X147 (newP X147 hx hZ (ww hw 7 rfl) e147 (g := mkF m 74 _ _) rfl (hb hby at_74) rfl (by decide) (cap := 2) (by decide) (by decide) (by decide) (by decide)) rfl rfl ?_
    intro T148 h148 k148 X148 e148 E148 A148
    obtain ⟨b148, g148⟩ : ∃ z, z = h147.size := ⟨_, rfl⟩
    rw [← g148] at A148 ⊢
    have ne148_149 : NeA b147 b148 := Nat.ne_of_lt (Nat.lt_of_lt_of_le V147.lt (Nat.le_of_eq g148.symm))
    have V148 : OwnA Z h148 b148 .int 2 (iv' fun _ => 0) := own_newA A148 (by decide)
    have f150 := V147.ext E148
    have gb_b148 : LeA (n0) (b148) := Nat.le_trans Z147 (Nat.le_of_eq g148.symm)
    have Z148 : LeA (n0) (h148.size) := Nat.le_trans Z147 E148.1
    have hc81_151 : ¬ ((1 : Int32) = (2 : Int32)) := by decide
    refine OwnW.st (y_astore X148 H #[.val (.long q1), .second, .val (.long q2), .second, .val (.int p3), .val (.int p4), .val (.int p5), .val (.long z7_51), .second, .val (.long z9_52), .second, .val (.int z11_55), .val (.int z12_56), .val (.int (1 : Int32)), .val (.ref b147), .val (.ref b148), .unset, .unset, .unset, .unset, .unset, .unset, .unset] at_76 rfl) ?_
    refine OwnW.st (y_iload X148 H at_78 rfl) ?_
    refine OwnW.st (y_iconst X148 H (2) at_80 rfl) ?_
    refine OwnW.st (y_icY X148 H 119 at_81 (feq hc81_151).2 (by decide) (by decide)) ?_
    refine OwnW.st (y_aload X148 H at_119 rfl) ?_
    refine OwnW.st (y_iconst X148 H (0) at_121 rfl) ?_
    refine OwnW.st (y_lload X148 H at_122 rfl) ?_
    refine OwnW.v3 125 (own_stJ f150 X148 hx hZ e148 (by decide) (by decide) (gf := mkF m 124 _ _) rfl rfl (hb hby at_124)) ?_
    intro T152 h152 X152 e152 W152 V152
    have V152' : OwnA Z h152 b147 .long 2 (jv' (updv (fun _ => 0) 0 z7_51)) := V152
    have f153 := V148.other W152 (Ne.symm ne148_149)
    have N152 := Fr.snoc X152 N54 gb_b147
    have Z152 : LeA (n0) (h152.size) := by rw [W152.size]; exact Z148
    refine OwnW.st (y_aload X152 H at_125 rfl) ?_
    refine OwnW.st (y_iconst X152 H (0) at_127 rfl) ?_
    refine OwnW.st (y_iload X152 H at_128 rfl) ?_
    refine OwnW.v3 131 (own_stI f153 X152 hx hZ e152 (by decide) (by decide) (gf := mkF m 130 _ _) rfl rfl (hb hby at_130)) ?_
    intro T154 h154 X154 e154 W154 V154
    have V154' : OwnA Z h154 b148 .int 2 (iv' (updv (fun _ => 0) 0 z11_55)) := V154
    have f155 := V152'.other W154 ne148_149
    have N154 := Fr.snoc X154 N152 gb_b148
    have Z154 : LeA (n0) (h154.size) := by rw [W154.size]; exact Z152
    refine OwnW.st (y_aload X154 H at_131 rfl) ?_
    refine OwnW.st (y_iconst X154 H (1) at_133 rfl) ?_
    refine OwnW.st (y_lload X154 H at_134 rfl) ?_
    refine OwnW.v3 137 (own_stJ f155 X154 hx hZ e154 (by decide) (by decide) (gf := mkF m 136 _ _) rfl rfl (hb hby at_136)) ?_
    intro T156 h156 X156 e156 W156 V156
    have V156' : OwnA Z h156 b147 .long 2 (jv' (updv (updv (fun _ => 0) 0 z7_51) 1 z9_52)) := V156
    have f157 := V154'.other W156 (Ne.symm ne148_149)
    have N156 := Fr.snoc X156 N154 gb_b147
    have Z156 : LeA (n0) (h156.size) := by rw [W156.size]; exact Z154
    refine OwnW.st (y_aload X156 H at_137 rfl) ?_
    refine OwnW.st (y_iconst X156 H (1) at_139 rfl) ?_
    refine OwnW.st (y_iload X156 H at_140 rfl) ?_
    refine OwnW.v3 143 (own_stI f157 X156 hx hZ e156 (by decide) (by decide) (gf := mkF m 142 _ _) rfl rfl (hb hby at_142)) ?_
    intro T158 h158 X158 e158 W158 V158
    have V158' : OwnA Z h158 b148 .int 2 (iv' (updv (updv (fun _ => 0) 0 z11_55) 1 z12_56)) := V158
    have f159 := V156'.other W158 ne148_149
    have N158 := Fr.snoc X158 N156 gb_b148
    have Z158 : LeA (n0) (h158.size) := by rw [W158.size]; exact Z156
    refine OwnW.st (y_iconst X158 H (1) at_143 rfl) ?_
    refine OwnW.v4 146 3 5 X158 (newP X158 hx hZ (ww hw 6 rfl) e158 (g := mkF m 144 _ _) rfl (hb hby at_144) rfl (by decide) (cap := 1) (by decide) (by decide) (by decide) (by decide)) rfl rfl ?_
    intro T160 h160 k160 X160 e160 E160 A160
    obtain ⟨b160, g160⟩ : ∃ z, z = h158.size := ⟨_, rfl⟩
    rw [← g160] at A160 ⊢
    have ne160_161 : NeA b147 b160 := Nat.ne_of_lt (Nat.lt_of_lt_of_le f159.lt (Nat.le_of_eq g160.symm))
    have ne160_162 : NeA b148 b160 := Nat.ne_of_lt (Nat.lt_of_lt_of_le V158'.lt (Nat.le_of_eq g160.symm))
    have V160 : OwnA Z h160 b160 .long 1 (jv' fun _ => 0) := own_newA A160 (by decide)
    have f163 := f159.ext E160
    have f164 := V158'.ext E160
    have gb_b160 : LeA (n0) (b160) := Nat.le_trans Z158 (Nat.le_of_eq g160.symm)
    have Z160 : LeA (n0) (h160.size) := Nat.le_trans Z158 E160.1
    refine OwnW.st (y_astore X160 H #[.val (.long q1), .second, .val (.long q2), .second, .val (.int p3), .val (.int p4), .val (.int p5), .val (.long z7_51), .second, .val (.long z9_52), .second, .val (.int z11_55), .val (.int z12_56), .val (.int (1 : Int32)), .val (.ref b147), .val (.ref b148), .val (.ref b160), .unset, .unset, .unset, .unset, .unset, .unset] at_146 rfl) ?_
    refine OwnW.st (y_iconst X160 H (1) at_148 rfl) ?_
    refine OwnW.v4 151 4 6 X160 (newP X160 hx hZ (ww hw 7 rfl) e160 (g := mkF m 149 _ _) rfl (hb hby at_149) rfl (by decide) (cap := 1) (by decide) (by decide) (by decide) (by decide)) rfl rfl ?_
    intro T165 h165 k165 X165 e165 E165 A165
    obtain ⟨b165, g165⟩ : ∃ z, z = h160.size := ⟨_, rfl⟩
    rw [← g165] at A165 ⊢
    have ne165_166 : NeA b147 b165 := Nat.ne_of_lt (Nat.lt_of_lt_of_le f163.lt (Nat.le_of_eq g165.symm))
    have ne165_167 : NeA b148 b165 := Nat.ne_of_lt (Nat.lt_of_lt_of_le f164.lt (Nat.le_of_eq g165.symm))
    have ne165_168 : NeA b160 b165 := Nat.ne_of_lt (Nat.lt_of_lt_of_le V160.lt (Nat.le_of_eq g165.symm))
    have V165 : OwnA Z h165 b165 .int 1 (iv' fun _ => 0) := own_newA A165 (by decide)
    have f169 := f163.ext E165
    have f170 := f164.ext E165
    have f171 := V160.ext E165
    have gb_b165 : LeA (n0) (b165) := Nat.le_trans Z160 (Nat.le_of_eq g165.symm)
    have Z165 : LeA (n0) (h165.size) := Nat.le_trans Z160 E165.1
    refine OwnW.st (y_astore X165 H #[.val (.long q1), .second, .val (.long q2), .second, .val (.int p3), .val (.int p4), .val (.int p5), .val (.long z7_51), .second, .val (.long z9_52), .second, .val (.int z11_55), .val (.int z12_56), .val (.int (1 : Int32)), .val (.ref b147), .val (.ref b148), .val (.ref b160), .val (.ref b165), .unset, .unset, .unset, .unset, .unset] at_151 rfl) ?_
    refine OwnW.st (y_aload X165 H at_153 rfl) ?_
    refine OwnW.st (y_iconst X165 H (0) at_155 rfl) ?_
    refine OwnW.st (y_iload X165 H at_156 rfl) ?_
    refine OwnW.st (y_iconst X165 H (3) at_158 rfl) ?_
    refine OwnW.st (y_iushr X165 H at_159) ?_
    refine OwnW.st (y_sipush X165 H (255) at_160 rfl) ?_
    refine OwnW.st (y_iand X165 H at_163) ?_
    refine OwnW.st (y_i2l X165 H at_164) ?_
    refine OwnW.v3 166 (own_stJ f171 X165 hx hZ e165 (by decide) (by decide) (gf := mkF m 165 _ _) rfl rfl (hb hby at_165)) ?_
    intro T172 h172 X172 e172 W172 V172
    have V172' : OwnA Z h172 b160 .long 1 (jv' (updv (fun _ => 0) 0 ((((p5.toUInt32 >>> ((3 : Int32) &&& 31).toUInt32).toInt32) &&& (255 : Int32)).toInt64))) := V172
    have f173 := f169.other W172 ne160_161
    have f174 := f170.other W172 ne160_162
    have f175 := V165.other W172 (Ne.symm ne165_168)
    have N172 := Fr.snoc X172 N158 gb_b160
    have Z172 : LeA (n0) (h172.size) := by rw [W172.size]; exact Z165
    refine OwnW.st (y_aload X172 H at_166 rfl) ?_
    refine OwnW.st (y_iconst X172 H (0) at_168 rfl) ?_
    refine OwnW.st (y_iconst X172 H (1) at_169 rfl) ?_
    refine OwnW.st (y_iload X172 H at_170 rfl) ?_
    refine OwnW.st (y_bipush X172 H (11) at_172 rfl) ?_
    refine OwnW.st (y_iushr X172 H at_174) ?_
    refine OwnW.st (y_iconst X172 H (3) at_175 rfl) ?_
    refine OwnW.st (y_iand X172 H at_176) ?_
    refine OwnW.st (y_iadd X172 H at_177) ?_
    refine OwnW.v3 179 (own_stI f175 X172 hx hZ e172 (by decide) (by decide) (gf := mkF m 178 _ _) rfl rfl (hb hby at_178)) ?_
    intro T176 h176 X176 e176 W176 V176
    have V176' : OwnA Z h176 b165 .int 1 (iv' (updv (fun _ => 0) 0 ((1 : Int32) + (((p5.toUInt32 >>> ((11 : Int32) &&& 31).toUInt32).toInt32) &&& (3 : Int32))))) := V176
    have f177 := f173.other W176 ne165_166
    have f178 := f174.other W176 ne165_167
    have f179 := V172'.other W176 ne165_168
    have N176 := Fr.snoc X176 N172 gb_b165
    have Z176 : LeA (n0) (h176.size) := by rw [W176.size]; exact Z172
    refine OwnW.v5 182 5 16 X176 (newO X176 hx hZ hown (ww hw 8 rfl) (ww hw 9 rfl) (ww hw 10 rfl) e176 (g := mkF m 179 _ _) rfl (hb hby at_179) (by decide) (by decide)) rfl rfl ?_
    intro T180 h180 X180 e180 E180 A180 D180 _
    obtain ⟨b180, g180⟩ : ∃ z, z = h176.size := ⟨_, rfl⟩
    rw [← g180] at A180 D180 ⊢
    have f185 := f177.ext E180
    have f186 := f178.ext E180
    have f187 := f179.ext E180
    have f188 := V176'.ext E180
    have F180_mPool : Fld Z h180 b180 "com/example/deft_nets/deftnets/MarkingStore" "mPool" "[B" .null := D180 (Or.inl (ww hw 38 rfl)) (ty := (.array .byte)) (by decide)
    have F180_mStart : Fld Z h180 b180 "com/example/deft_nets/deftnets/MarkingStore" "mStart" "[I" .null := D180 (Or.inl (ww hw 40 rfl)) (ty := (.array .int)) (by decide)
    have F180_mHash : Fld Z h180 b180 "com/example/deft_nets/deftnets/MarkingStore" "mHash" "[I" .null := D180 (Or.inl (ww hw 42 rfl)) (ty := (.array .int)) (by decide)
    have F180_mTable : Fld Z h180 b180 "com/example/deft_nets/deftnets/MarkingStore" "mTable" "[I" .null := D180 (Or.inl (ww hw 44 rfl)) (ty := (.array .int)) (by decide)
    have F180_mEncoded : Fld Z h180 b180 "com/example/deft_nets/deftnets/MarkingStore" "mEncoded" "[B" .null := D180 (Or.inl (ww hw 46 rfl)) (ty := (.array .byte)) (by decide)
    have F180_mBudget : Fld Z h180 b180 "com/example/deft_nets/deftnets/MarkingStore" "mBudget" "Lcom/example/deft_nets/deftnets/MemoryBudget;" .null := D180 (Or.inr (ww hw 48 rfl)) (ty := (.object "com/example/deft_nets/deftnets/MemoryBudget")) (by decide)
    have F180_mEncodedLength : Fld Z h180 b180 "com/example/deft_nets/deftnets/MarkingStore" "mEncodedLength" "I" (.int (0 : Int32)) := D180 (Or.inl (ww hw 60 rfl)) (ty := .int) (by decide)
    have F180_mNextPlace : Fld Z h180 b180 "com/example/deft_nets/deftnets/MarkingStore" "mNextPlace" "J" (.long (0 : Int64)) := D180 (Or.inl (ww hw 62 rfl)) (ty := .long) (by decide)
    have F180_mSize : Fld Z h180 b180 "com/example/deft_nets/deftnets/MarkingStore" "mSize" "I" (.int (0 : Int32)) := D180 (Or.inl (ww hw 76 rfl)) (ty := .int) (by decide)
    have F180_mPoolSize : Fld Z h180 b180 "com/example/deft_nets/deftnets/MarkingStore" "mPoolSize" "I" (.int (0 : Int32)) := D180 (Or.inl (ww hw 95 rfl)) (ty := .int) (by decide)
    have gb_b180 : LeA (n0) (b180) := Nat.le_trans Z176 (Nat.le_of_eq g180.symm)
    have Z180 : LeA (n0) (h180.size) := Nat.le_trans Z176 E180.1
    refine OwnW.st (y_dup X180 H at_182 rfl) ?_
    refine OwnW.v5 186 6 19 X180 (newO X180 hx hZ hown (ww hw 11 rfl) (ww hw 12 rfl) (ww hw 13 rfl) e180 (g := mkF m 183 _ _) rfl (hb hby at_183) (by decide) (by decide)) rfl rfl ?_
    intro T189 h189 X189 e189 E189 A189 D189 _
    obtain ⟨b189, g189⟩ : ∃ z, z = h180.size := ⟨_, rfl⟩
    rw [← g189] at A189 D189 ⊢
    have f195 := f185.ext E189
    have f196 := f186.ext E189
    have f197 := f187.ext E189
    have f198 := f188.ext E189
    have f199 := Exa.ext E189 A180
    have f200 := Fld.ext E189 F180_mPool
    have f201 := Fld.ext E189 F180_mStart
    have f202 := Fld.ext E189 F180_mHash
    have f203 := Fld.ext E189 F180_mTable
    have f204 := Fld.ext E189 F180_mEncoded
    have f205 := Fld.ext E189 F180_mBudget
    have f206 := Fld.ext E189 F180_mEncodedLength
    have f207 := Fld.ext E189 F180_mNextPlace
    have f208 := Fld.ext E189 F180_mSize
    have f209 := Fld.ext E189 F180_mPoolSize
    have F189_mLimit : Fld Z h189 b189 "com/example/deft_nets/deftnets/MemoryBudget" "mLimit" "J" (.long (0 : Int64)) := D189 (Or.inr (ww hw 30 rfl)) (ty := .long) (by decide)
    have F189_mSource : Fld Z h189 b189 "com/example/deft_nets/deftnets/MemoryBudget" "mSource" "Ljava/lang/String;" .null := D189 (Or.inr (ww hw 32 rfl)) (ty := (.object "java/lang/String")) (by decide)
    have F189_mUsed : Fld Z h189 b189 "com/example/deft_nets/deftnets/MemoryBudget" "mUsed" "J" (.long (0 : Int64)) := D189 (Or.inl (ww hw 93 rfl)) (ty := .long) (by decide)
    have gb_b189 : LeA (n0) (b189) := Nat.le_trans Z180 (Nat.le_of_eq g189.symm)
    have Z189 : LeA (n0) (h189.size) := Nat.le_trans Z180 E189.1
    have hbs : b180 < b189 := Nat.lt_of_lt_of_le (Exa.lt A180) (Nat.le_of_eq g189.symm)
    refine OwnW.st (y_dup X189 H at_186 rfl) ?_
    refine OwnW.st (y_ldc2 X189 H hown (mvT hZ (ww hw 14 rfl)) at_187) ?_
    obtain ⟨as210, T210, h210, X210, e210, E210, S210, Zw210, ow210, st210⟩ := own_ldcS X189 hx hZ hown (ww hw 15 rfl) wS e189 (g := (mkF m 190 #[.val (.long q1), .second, .val (.long q2), .second, .val (.int p3), .val (.int p4), .val (.int p5), .val (.long z7_51), .second, .val (.long z9_52), .second, .val (.int z11_55), .val (.int z12_56), .val (.int (1 : Int32)), .val (.ref b147), .val (.ref b148), .val (.ref b160), .val (.ref b165), .unset, .unset, .unset, .unset, .unset] [(.long (1099511627776 : Int64)), (.ref b189), (.ref b189), (.ref b180), (.ref b180)])) rfl (hb hby at_190) (n := 12) (by decide) (by decide) (by decide) (by decide)
    refine OwnW.st st210 ?_
    have f211 := f195.ext E210
    have f212 := f196.ext E210
    have f213 := f197.ext E210
    have f214 := f198.ext E210
    have f215 := Exa.ext E210 f199
    have f216 := Fld.ext E210 f200
    have f217 := Fld.ext E210 f201
    have f218 := Fld.ext E210 f202
    have f219 := Fld.ext E210 f203
    have f220 := Fld.ext E210 f204
    have f221 := Fld.ext E210 f205
    have f222 := Fld.ext E210 f206
    have f223 := Fld.ext E210 f207
    have f224 := Fld.ext E210 f208
    have f225 := Fld.ext E210 f209
    have f226 := Exa.ext E210 A189
    have f227 := Fld.ext E210 F189_mLimit
    have f228 := Fld.ext E210 F189_mSource
    have f229 := Fld.ext E210 F189_mUsed
    have bo2 := own_o2 ((p5.toUInt32 >>> ((3 : Int32) &&& 31).toUInt32).toInt32)
    have bo3 := own_o3 ((p5.toUInt32 >>> ((11 : Int32) &&& 31).toUInt32).toInt32)
    exact OwnW.of S210 (fun v h L q => ⟨q.2.2, q.1, q.2.1⟩) (rm0H1 l Z a0 hw q1 q2 p3 p4 p5 z7_51 z9_52 z11_55 z12_56 b147 b148 b160 b165  as210 b189 b180 (updv (updv (fun _ => 0) 0 z7_51) 1 z9_52) (updv (updv (fun _ => 0) 0 z11_55) 1 z12_56) (updv (fun _ => 0) 0 ((((p5.toUInt32 >>> ((3 : Int32) &&& 31).toUInt32).toInt32) &&& (255 : Int32)).toInt64)) (updv (fun _ => 0) 0 ((1 : Int32) + (((p5.toUInt32 >>> ((11 : Int32) &&& 31).toUInt32).toInt32) &&& (3 : Int32)))) T210 _ h210 n0 h210.size hx hby hml Bd.returns (BodyLoose.notSynchronized Bd) Zw210 ow210 X210 e210 N176 (Nat.le_trans Z189 E210.1) (Nat.le_refl _) (Nat.lt_of_lt_of_le f177.lt (Nat.le_of_eq g180.symm)) (Nat.lt_of_lt_of_le f178.lt (Nat.le_of_eq g180.symm)) (Nat.lt_of_lt_of_le f179.lt (Nat.le_of_eq g180.symm)) (Nat.lt_of_lt_of_le V176'.lt (Nat.le_of_eq g180.symm)) gb_b180 gb_b189 (Nat.le_of_lt hbs) (Nat.ne_of_gt hbs) f211 f212 f213 f214 f215 f216 f225 f217 f218 f219 f220 f222 f223 f224 f221 f226 f227 f229 f228 ⟨bo2.1, Int.lt_of_le_of_lt bo2.2 (by decide)⟩ bo2.2 bo3.1 bo3.2 bd7 bd11)
  · subst hn
    refine OwnW.v4 71 1 2 X54 (newP X54 hx hZ (ww hw 6 rfl) e54 (g := mkF m 69 _ _) rfl (hb hby at_69) rfl (by decide) (cap := 2) (by decide) (by decide) (by decide) (by decide)) rfl rfl ?_
    intro T230 h230 k230 X230 e230 E230 A230
    obtain ⟨b230, g230⟩ : ∃ z, z = h0.size := ⟨_, rfl⟩
    rw [← g230] at A230 ⊢
    have V230 : OwnA Z h230 b230 .long 2 (jv' fun _ => 0) := own_newA A230 (by decide)
    have gb_b230 : LeA (n0) (b230) := Nat.le_trans Z0 (Nat.le_of_eq g230.symm)
    have Z230 : LeA (n0) (h230.size) := Nat.le_trans Z0 E230.1
    refine OwnW.st (y_astore X230 H #[.val (.long q1), .second, .val (.long q2), .second, .val (.int p3), .val (.int p4), .val (.int p5), .val (.long z7_51), .second, .val (.long z9_52), .second, .val (.int z11_55), .val (.int z12_56), .val (.int (2 : Int32)), .val (.ref b230), .unset, .unset, .unset, .unset, .unset, .unset, .unset, .unset] at_71 rfl) ?_
    refine OwnW.st (y_iconst X230 H (2) at_73 rfl) ?_
    refine OwnW.v4 76 2 4 X230 (newP X230 hx hZ (ww hw 7 rfl) e230 (g := mkF m 74 _ _) rfl (hb hby at_74) rfl (by decide) (cap := 2) (by decide) (by decide) (by decide) (by decide)) rfl rfl ?_
    intro T231 h231 k231 X231 e231 E231 A231
    obtain ⟨b231, g231⟩ : ∃ z, z = h230.size := ⟨_, rfl⟩
    rw [← g231] at A231 ⊢
    have ne231_232 : NeA b230 b231 := Nat.ne_of_lt (Nat.lt_of_lt_of_le V230.lt (Nat.le_of_eq g231.symm))
    have V231 : OwnA Z h231 b231 .int 2 (iv' fun _ => 0) := own_newA A231 (by decide)
    have f233 := V230.ext E231
    have gb_b231 : LeA (n0) (b231) := Nat.le_trans Z230 (Nat.le_of_eq g231.symm)
    have Z231 : LeA (n0) (h231.size) := Nat.le_trans Z230 E231.1
    have hc81_234 : (2 : Int32) = (2 : Int32) := by decide
    refine OwnW.st (y_astore X231 H #[.val (.long q1), .second, .val (.long q2), .second, .val (.int p3), .val (.int p4), .val (.int p5), .val (.long z7_51), .second, .val (.long z9_52), .second, .val (.int z11_55), .val (.int z12_56), .val (.int (2 : Int32)), .val (.ref b230), .val (.ref b231), .unset, .unset, .unset, .unset, .unset, .unset, .unset] at_76 rfl) ?_
    refine OwnW.st (y_iload X231 H at_78 rfl) ?_
    refine OwnW.st (y_iconst X231 H (2) at_80 rfl) ?_
    refine OwnW.st (y_icN X231 H at_81 (teq hc81_234).2) ?_
    refine OwnW.st (y_lload X231 H at_84 rfl) ?_
    refine OwnW.st (y_lload X231 H at_86 rfl) ?_
    refine OwnW.st (y_lcmp X231 H at_88) ?_
    by_cases hc89_235 : z9_52 < z7_51
    · refine OwnW.st (y_ifN X231 H at_89 ((if0 _ _).trans (tlt ((lw_lt z9_52 z7_51).mpr hc89_235)).2.1)) ?_
      refine OwnW.st (y_aload X231 H at_92 rfl) ?_
      refine OwnW.st (y_iconst X231 H (0) at_94 rfl) ?_
      refine OwnW.st (y_lload X231 H at_95 rfl) ?_
      refine OwnW.v3 98 (own_stJ f233 X231 hx hZ e231 (by decide) (by decide) (gf := mkF m 97 _ _) rfl rfl (hb hby at_97)) ?_
      intro T236 h236 X236 e236 W236 V236
      have V236' : OwnA Z h236 b230 .long 2 (jv' (updv (fun _ => 0) 0 z9_52)) := V236
      have f237 := V231.other W236 (Ne.symm ne231_232)
      have N236 := Fr.snoc X236 N54 gb_b230
      have Z236 : LeA (n0) (h236.size) := by rw [W236.size]; exact Z231
      refine OwnW.st (y_aload X236 H at_98 rfl) ?_
      refine OwnW.st (y_iconst X236 H (0) at_100 rfl) ?_
      refine OwnW.st (y_iload X236 H at_101 rfl) ?_
      refine OwnW.v3 104 (own_stI f237 X236 hx hZ e236 (by decide) (by decide) (gf := mkF m 103 _ _) rfl rfl (hb hby at_103)) ?_
      intro T238 h238 X238 e238 W238 V238
      have V238' : OwnA Z h238 b231 .int 2 (iv' (updv (fun _ => 0) 0 z12_56)) := V238
      have f239 := V236'.other W238 ne231_232
      have N238 := Fr.snoc X238 N236 gb_b231
      have Z238 : LeA (n0) (h238.size) := by rw [W238.size]; exact Z236
      refine OwnW.st (y_aload X238 H at_104 rfl) ?_
      refine OwnW.st (y_iconst X238 H (1) at_106 rfl) ?_
      refine OwnW.st (y_lload X238 H at_107 rfl) ?_
      refine OwnW.v3 110 (own_stJ f239 X238 hx hZ e238 (by decide) (by decide) (gf := mkF m 109 _ _) rfl rfl (hb hby at_109)) ?_
      intro T240 h240 X240 e240 W240 V240
      have V240' : OwnA Z h240 b230 .long 2 (jv' (updv (updv (fun _ => 0) 0 z9_52) 1 z7_51)) := V240
      have f241 := V238'.other W240 (Ne.symm ne231_232)
      have N240 := Fr.snoc X240 N238 gb_b230
      have Z240 : LeA (n0) (h240.size) := by rw [W240.size]; exact Z238
      refine OwnW.st (y_aload X240 H at_110 rfl) ?_
      refine OwnW.st (y_iconst X240 H (1) at_112 rfl) ?_
      refine OwnW.st (y_iload X240 H at_113 rfl) ?_
      refine OwnW.v3 116 (own_stI f241 X240 hx hZ e240 (by decide) (by decide) (gf := mkF m 115 _ _) rfl rfl (hb hby at_115)) ?_
      intro T242 h242 X242 e242 W242 V242
      have V242' : OwnA Z h242 b231 .int 2 (iv' (updv (updv (fun _ => 0) 0 z12_56) 1 z11_55)) := V242
      have f243 := V240'.other W242 ne231_232
      have N242 := Fr.snoc X242 N240 gb_b231
      have Z242 : LeA (n0) (h242.size) := by rw [W242.size]; exact Z240
      refine OwnW.st (y_goto X242 H 143 at_116 (by decide) (by decide)) ?_
      refine OwnW.st (y_iconst X242 H (1) at_143 rfl) ?_
      refine OwnW.v4 146 3 5 X242 (newP X242 hx hZ (ww hw 6 rfl) e242 (g := mkF m 144 _ _) rfl (hb hby at_144) rfl (by decide) (cap := 1) (by decide) (by decide) (by decide) (by decide)) rfl rfl ?_
      intro T244 h244 k244 X244 e244 E244 A244
      obtain ⟨b244, g244⟩ : ∃ z, z = h242.size := ⟨_, rfl⟩
      rw [← g244] at A244 ⊢
      have ne244_245 : NeA b230 b244 := Nat.ne_of_lt (Nat.lt_of_lt_of_le f243.lt (Nat.le_of_eq g244.symm))
      have ne244_246 : NeA b231 b244 := Nat.ne_of_lt (Nat.lt_of_lt_of_le V242'.lt (Nat.le_of_eq g244.symm))
      have V244 : OwnA Z h244 b244 .long 1 (jv' fun _ => 0) := own_newA A244 (by decide)
      have f247 := f243.ext E244
      have f248 := V242'.ext E244
      have gb_b244 : LeA (n0) (b244) := Nat.le_trans Z242 (Nat.le_of_eq g244.symm)
      have Z244 : LeA (n0) (h244.size) := Nat.le_trans Z242 E244.1
      refine OwnW.st (y_astore X244 H #[.val (.long q1), .second, .val (.long q2), .second, .val (.int p3), .val (.int p4), .val (.int p5), .val (.long z7_51), .second, .val (.long z9_52), .second, .val (.int z11_55), .val (.int z12_56), .val (.int (2 : Int32)), .val (.ref b230), .val (.ref b231), .val (.ref b244), .unset, .unset, .unset, .unset, .unset, .unset] at_146 rfl) ?_
      refine OwnW.st (y_iconst X244 H (1) at_148 rfl) ?_
      refine OwnW.v4 151 4 6 X244 (newP X244 hx hZ (ww hw 7 rfl) e244 (g := mkF m 149 _ _) rfl (hb hby at_149) rfl (by decide) (cap := 1) (by decide) (by decide) (by decide) (by decide)) rfl rfl ?_
      intro T249 h249 k249 X249 e249 E249 A249
      obtain ⟨b249, g249⟩ : ∃ z, z = h244.size := ⟨_, rfl⟩
      rw [← g249] at A249 ⊢
      have ne249_250 : NeA b230 b249 := Nat.ne_of_lt (Nat.lt_of_lt_of_le f247.lt (Nat.le_of_eq g249.symm))
      have ne249_251 : NeA b231 b249 := Nat.ne_of_lt (Nat.lt_of_lt_of_le f248.lt (Nat.le_of_eq g249.symm))
      have ne249_252 : NeA b244 b249 := Nat.ne_of_lt (Nat.lt_of_lt_of_le V244.lt (Nat.le_of_eq g249.symm))
      have V249 : OwnA Z h249 b249 .int 1 (iv' fun _ => 0) := own_newA A249 (by decide)
      have f253 := f247.ext E249
      have f254 := f248.ext E249
      have f255 := V244.ext E249
      have gb_b249 : LeA (n0) (b249) := Nat.le_trans Z244 (Nat.le_of_eq g249.symm)
      have Z249 : LeA (n0) (h249.size) := Nat.le_trans Z244 E249.1
      refine OwnW.st (y_astore X249 H #[.val (.long q1), .second, .val (.long q2), .second, .val (.int p3), .val (.int p4), .val (.int p5), .val (.long z7_51), .second, .val (.long z9_52), .second, .val (.int z11_55), .val (.int z12_56), .val (.int (2 : Int32)), .val (.ref b230), .val (.ref b231), .val (.ref b244), .val (.ref b249), .unset, .unset, .unset, .unset, .unset] at_151 rfl) ?_
      refine OwnW.st (y_aload X249 H at_153 rfl) ?_
      refine OwnW.st (y_iconst X249 H (0) at_155 rfl) ?_
      refine OwnW.st (y_iload X249 H at_156 rfl) ?_
      refine OwnW.st (y_iconst X249 H (3) at_158 rfl) ?_
      refine OwnW.st (y_iushr X249 H at_159) ?_
      refine OwnW.st (y_sipush X249 H (255) at_160 rfl) ?_
      refine OwnW.st (y_iand X249 H at_163) ?_
      refine OwnW.st (y_i2l X249 H at_164) ?_
      refine OwnW.v3 166 (own_stJ f255 X249 hx hZ e249 (by decide) (by decide) (gf := mkF m 165 _ _) rfl rfl (hb hby at_165)) ?_
      intro T256 h256 X256 e256 W256 V256
      have V256' : OwnA Z h256 b244 .long 1 (jv' (updv (fun _ => 0) 0 ((((p5.toUInt32 >>> ((3 : Int32) &&& 31).toUInt32).toInt32) &&& (255 : Int32)).toInt64))) := V256
      have f257 := f253.other W256 ne244_245
      have f258 := f254.other W256 ne244_246
      have f259 := V249.other W256 (Ne.symm ne249_252)
      have N256 := Fr.snoc X256 N242 gb_b244
      have Z256 : LeA (n0) (h256.size) := by rw [W256.size]; exact Z249
      refine OwnW.st (y_aload X256 H at_166 rfl) ?_
      refine OwnW.st (y_iconst X256 H (0) at_168 rfl) ?_
      refine OwnW.st (y_iconst X256 H (1) at_169 rfl) ?_
      refine OwnW.st (y_iload X256 H at_170 rfl) ?_
      refine OwnW.st (y_bipush X256 H (11) at_172 rfl) ?_
      refine OwnW.st (y_iushr X256 H at_174) ?_
      refine OwnW.st (y_iconst X256 H (3) at_175 rfl) ?_
      refine OwnW.st (y_iand X256 H at_176) ?_
      refine OwnW.st (y_iadd X256 H at_177) ?_
      refine OwnW.v3 179 (own_stI f259 X256 hx hZ e256 (by decide) (by decide) (gf := mkF m 178 _ _) rfl rfl (hb hby at_178)) ?_
      intro T260 h260 X260 e260 W260 V260
      have V260' : OwnA Z h260 b249 .int 1 (iv' (updv (fun _ => 0) 0 ((1 : Int32) + (((p5.toUInt32 >>> ((11 : Int32) &&& 31).toUInt32).toInt32) &&& (3 : Int32))))) := V260
      have f261 := f257.other W260 ne249_250
      have f262 := f258.other W260 ne249_251
      have f263 := V256'.other W260 ne249_252
      have N260 := Fr.snoc X260 N256 gb_b249
      have Z260 : LeA (n0) (h260.size) := by rw [W260.size]; exact Z256
      refine OwnW.v5 182 5 16 X260 (newO X260 hx hZ hown (ww hw 8 rfl) (ww hw 9 rfl) (ww hw 10 rfl) e260 (g := mkF m 179 _ _) rfl (hb hby at_179) (by decide) (by decide)) rfl rfl ?_
      intro T264 h264 X264 e264 E264 A264 D264 _
      obtain ⟨b264, g264⟩ : ∃ z, z = h260.size := ⟨_, rfl⟩
      rw [← g264] at A264 D264 ⊢
      have f269 := f261.ext E264
      have f270 := f262.ext E264
      have f271 := f263.ext E264
      have f272 := V260'.ext E264
      have F264_mPool : Fld Z h264 b264 "com/example/deft_nets/deftnets/MarkingStore" "mPool" "[B" .null := D264 (Or.inl (ww hw 38 rfl)) (ty := (.array .byte)) (by decide)
      have F264_mStart : Fld Z h264 b264 "com/example/deft_nets/deftnets/MarkingStore" "mStart" "[I" .null := D264 (Or.inl (ww hw 40 rfl)) (ty := (.array .int)) (by decide)
      have F264_mHash : Fld Z h264 b264 "com/example/deft_nets/deftnets/MarkingStore" "mHash" "[I" .null := D264 (Or.inl (ww hw 42 rfl)) (ty := (.array .int)) (by decide)
      have F264_mTable : Fld Z h264 b264 "com/example/deft_nets/deftnets/MarkingStore" "mTable" "[I" .null := D264 (Or.inl (ww hw 44 rfl)) (ty := (.array .int)) (by decide)
      have F264_mEncoded : Fld Z h264 b264 "com/example/deft_nets/deftnets/MarkingStore" "mEncoded" "[B" .null := D264 (Or.inl (ww hw 46 rfl)) (ty := (.array .byte)) (by decide)
      have F264_mBudget : Fld Z h264 b264 "com/example/deft_nets/deftnets/MarkingStore" "mBudget" "Lcom/example/deft_nets/deftnets/MemoryBudget;" .null := D264 (Or.inr (ww hw 48 rfl)) (ty := (.object "com/example/deft_nets/deftnets/MemoryBudget")) (by decide)
      have F264_mEncodedLength : Fld Z h264 b264 "com/example/deft_nets/deftnets/MarkingStore" "mEncodedLength" "I" (.int (0 : Int32)) := D264 (Or.inl (ww hw 60 rfl)) (ty := .int) (by decide)
      have F264_mNextPlace : Fld Z h264 b264 "com/example/deft_nets/deftnets/MarkingStore" "mNextPlace" "J" (.long (0 : Int64)) := D264 (Or.inl (ww hw 62 rfl)) (ty := .long) (by decide)
      have F264_mSize : Fld Z h264 b264 "com/example/deft_nets/deftnets/MarkingStore" "mSize" "I" (.int (0 : Int32)) := D264 (Or.inl (ww hw 76 rfl)) (ty := .int) (by decide)
      have F264_mPoolSize : Fld Z h264 b264 "com/example/deft_nets/deftnets/MarkingStore" "mPoolSize" "I" (.int (0 : Int32)) := D264 (Or.inl (ww hw 95 rfl)) (ty := .int) (by decide)
      have gb_b264 : LeA (n0) (b264) := Nat.le_trans Z260 (Nat.le_of_eq g264.symm)
      have Z264 : LeA (n0) (h264.size) := Nat.le_trans Z260 E264.1
      refine OwnW.st (y_dup X264 H at_182 rfl) ?_
      refine OwnW.v5 186 6 19 X264 (newO X264 hx hZ hown (ww hw 11 rfl) (ww hw 12 rfl) (ww hw 13 rfl) e264 (g := mkF m 183 _ _) rfl (hb hby at_183) (by decide) (by decide)) rfl rfl ?_
      intro T273 h273 X273 e273 E273 A273 D273 _
      obtain ⟨b273, g273⟩ : ∃ z, z = h264.size := ⟨_, rfl⟩
      rw [← g273] at A273 D273 ⊢
      have f279 := f269.ext E273
      have f280 := f270.ext E273
      have f281 := f271.ext E273
      have f282 := f272.ext E273
      have f283 := Exa.ext E273 A264
      have f284 := Fld.ext E273 F264_mPool
      have f285 := Fld.ext E273 F264_mStart
      have f286 := Fld.ext E273 F264_mHash
      have f287 := Fld.ext E273 F264_mTable
      have f288 := Fld.ext E273 F264_mEncoded
      have f289 := Fld.ext E273 F264_mBudget
      have f290 := Fld.ext E273 F264_mEncodedLength
      have f291 := Fld.ext E273 F264_mNextPlace
      have f292 := Fld.ext E273 F264_mSize
      have f293 := Fld.ext E273 F264_mPoolSize
      have F273_mLimit : Fld Z h273 b273 "com/example/deft_nets/deftnets/MemoryBudget" "mLimit" "J" (.long (0 : Int64)) := D273 (Or.inr (ww hw 30 rfl)) (ty := .long) (by decide)
      have F273_mSource : Fld Z h273 b273 "com/example/deft_nets/deftnets/MemoryBudget" "mSource" "Ljava/lang/String;" .null := D273 (Or.inr (ww hw 32 rfl)) (ty := (.object "java/lang/String")) (by decide)
      have F273_mUsed : Fld Z h273 b273 "com/example/deft_nets/deftnets/MemoryBudget" "mUsed" "J" (.long (0 : Int64)) := D273 (Or.inl (ww hw 93 rfl)) (ty := .long) (by decide)
      have gb_b273 : LeA (n0) (b273) := Nat.le_trans Z264 (Nat.le_of_eq g273.symm)
      have Z273 : LeA (n0) (h273.size) := Nat.le_trans Z264 E273.1
      have hbs : b264 < b273 := Nat.lt_of_lt_of_le (Exa.lt A264) (Nat.le_of_eq g273.symm)
      refine OwnW.st (y_dup X273 H at_186 rfl) ?_
      refine OwnW.st (y_ldc2 X273 H hown (mvT hZ (ww hw 14 rfl)) at_187) ?_
      obtain ⟨as294, T294, h294, X294, e294, E294, S294, Zw294, ow294, st294⟩ := own_ldcS X273 hx hZ hown (ww hw 15 rfl) wS e273 (g := (mkF m 190 #[.val (.long q1), .second, .val (.long q2), .second, .val (.int p3), .val (.int p4), .val (.int p5), .val (.long z7_51), .second, .val (.long z9_52), .second, .val (.int z11_55), .val (.int z12_56), .val (.int (2 : Int32)), .val (.ref b230), .val (.ref b231), .val (.ref b244), .val (.ref b249), .unset, .unset, .unset, .unset, .unset] [(.long (1099511627776 : Int64)), (.ref b273), (.ref b273), (.ref b264), (.ref b264)])) rfl (hb hby at_190) (n := 12) (by decide) (by decide) (by decide) (by decide)
      refine OwnW.st st294 ?_
      have f295 := f279.ext E294
      have f296 := f280.ext E294
      have f297 := f281.ext E294
      have f298 := f282.ext E294
      have f299 := Exa.ext E294 f283
      have f300 := Fld.ext E294 f284
      have f301 := Fld.ext E294 f285
      have f302 := Fld.ext E294 f286
      have f303 := Fld.ext E294 f287
      have f304 := Fld.ext E294 f288
      have f305 := Fld.ext E294 f289
      have f306 := Fld.ext E294 f290
      have f307 := Fld.ext E294 f291
      have f308 := Fld.ext E294 f292
      have f309 := Fld.ext E294 f293
      have f310 := Exa.ext E294 A273
      have f311 := Fld.ext E294 F273_mLimit
      have f312 := Fld.ext E294 F273_mSource
      have f313 := Fld.ext E294 F273_mUsed
      have hlt : z9_52.toInt < z7_51.toInt := Int64.lt_iff_toInt_lt.mp hc89_235
      have bo2 := own_o2 ((p5.toUInt32 >>> ((3 : Int32) &&& 31).toUInt32).toInt32)
      have bo3 := own_o3 ((p5.toUInt32 >>> ((11 : Int32) &&& 31).toUInt32).toInt32)
      exact OwnW.of S294 (fun v h L q => ⟨q.2.2, q.1, q.2.1⟩) (rm0H2 l Z a0 hw q1 q2 p3 p4 p5 z7_51 z9_52 z11_55 z12_56 b230 b231 b244 b249  as294 b273 b264 (updv (updv (fun _ => 0) 0 z9_52) 1 z7_51) (updv (updv (fun _ => 0) 0 z12_56) 1 z11_55) (updv (fun _ => 0) 0 ((((p5.toUInt32 >>> ((3 : Int32) &&& 31).toUInt32).toInt32) &&& (255 : Int32)).toInt64)) (updv (fun _ => 0) 0 ((1 : Int32) + (((p5.toUInt32 >>> ((11 : Int32) &&& 31).toUInt32).toInt32) &&& (3 : Int32)))) T294 _ h294 n0 h294.size hx hby hml Bd.returns (BodyLoose.notSynchronized Bd) Zw294 ow294 X294 e294 N260 (Nat.le_trans Z273 E294.1) (Nat.le_refl _) (Nat.lt_of_lt_of_le f261.lt (Nat.le_of_eq g264.symm)) (Nat.lt_of_lt_of_le f262.lt (Nat.le_of_eq g264.symm)) (Nat.lt_of_lt_of_le f263.lt (Nat.le_of_eq g264.symm)) (Nat.lt_of_lt_of_le V260'.lt (Nat.le_of_eq g264.symm)) gb_b264 gb_b273 (Nat.le_of_lt hbs) (Nat.ne_of_gt hbs) f295 f296 f297 f298 f299 f300 f309 f301 f302 f303 f304 f306 f307 f308 f305 f310 f311 f313 f312 ⟨bo2.1, Int.lt_of_le_of_lt bo2.2 (by decide)⟩ bo2.2 bo3.1 bo3.2 bd9 bd12 bd7 bd11 hlt)
    · refine OwnW.st (y_ifY X231 H 119 at_89 ((if0 _ _).trans (flt (mt (lw_lt z9_52 z7_51).mp hc89_235)).2.1) (by decide) (by decide)) ?_
      refine OwnW.st (y_aload X231 H at_119 rfl) ?_
      refine OwnW.st (y_iconst X231 H (0) at_121 rfl) ?_
      refine OwnW.st (y_lload X231 H at_122 rfl) ?_
      refine OwnW.v3 125 (own_stJ f233 X231 hx hZ e231 (by decide) (by decide) (gf := mkF m 124 _ _) rfl rfl (hb hby at_124)) ?_
      intro T314 h314 X314 e314 W314 V314
      have V314' : OwnA Z h314 b230 .long 2 (jv' (updv (fun _ => 0) 0 z7_51)) := V314
      have f315 := V231.other W314 (Ne.symm ne231_232)
      have N314 := Fr.snoc X314 N54 gb_b230
      have Z314 : LeA (n0) (h314.size) := by rw [W314.size]; exact Z231
      refine OwnW.st (y_aload X314 H at_125 rfl) ?_
      refine OwnW.st (y_iconst X314 H (0) at_127 rfl) ?_
      refine OwnW.st (y_iload X314 H at_128 rfl) ?_
      refine OwnW.v3 131 (own_stI f315 X314 hx hZ e314 (by decide) (by decide) (gf := mkF m 130 _ _) rfl rfl (hb hby at_130)) ?_
      intro T316 h316 X316 e316 W316 V316
      have V316' : OwnA Z h316 b231 .int 2 (iv' (updv (fun _ => 0) 0 z11_55)) := V316
      have f317 := V314'.other W316 ne231_232
      have N316 := Fr.snoc X316 N314 gb_b231
      have Z316 : LeA (n0) (h316.size) := by rw [W316.size]; exact Z314
      refine OwnW.st (y_aload X316 H at_131 rfl) ?_
      refine OwnW.st (y_iconst X316 H (1) at_133 rfl) ?_
      refine OwnW.st (y_lload X316 H at_134 rfl) ?_
      refine OwnW.v3 137 (own_stJ f317 X316 hx hZ e316 (by decide) (by decide) (gf := mkF m 136 _ _) rfl rfl (hb hby at_136)) ?_
      intro T318 h318 X318 e318 W318 V318
      have V318' : OwnA Z h318 b230 .long 2 (jv' (updv (updv (fun _ => 0) 0 z7_51) 1 z9_52)) := V318
      have f319 := V316'.other W318 (Ne.symm ne231_232)
      have N318 := Fr.snoc X318 N316 gb_b230
      have Z318 : LeA (n0) (h318.size) := by rw [W318.size]; exact Z316
      refine OwnW.st (y_aload X318 H at_137 rfl) ?_
      refine OwnW.st (y_iconst X318 H (1) at_139 rfl) ?_
      refine OwnW.st (y_iload X318 H at_140 rfl) ?_
      refine OwnW.v3 143 (own_stI f319 X318 hx hZ e318 (by decide) (by decide) (gf := mkF m 142 _ _) rfl rfl (hb hby at_142)) ?_
      intro T320 h320 X320 e320 W320 V320
      have V320' : OwnA Z h320 b231 .int 2 (iv' (updv (updv (fun _ => 0) 0 z11_55) 1 z12_56)) := V320
      have f321 := V318'.other W320 ne231_232
      have N320 := Fr.snoc X320 N318 gb_b231
      have Z320 : LeA (n0) (h320.size) := by rw [W320.size]; exact Z318
      refine OwnW.st (y_iconst X320 H (1) at_143 rfl) ?_
      refine OwnW.v4 146 3 5 X320 (newP X320 hx hZ (ww hw 6 rfl) e320 (g := mkF m 144 _ _) rfl (hb hby at_144) rfl (by decide) (cap := 1) (by decide) (by decide) (by decide) (by decide)) rfl rfl ?_
      intro T322 h322 k322 X322 e322 E322 A322
      obtain ⟨b322, g322⟩ : ∃ z, z = h320.size := ⟨_, rfl⟩
      rw [← g322] at A322 ⊢
      have ne322_323 : NeA b230 b322 := Nat.ne_of_lt (Nat.lt_of_lt_of_le f321.lt (Nat.le_of_eq g322.symm))
      have ne322_324 : NeA b231 b322 := Nat.ne_of_lt (Nat.lt_of_lt_of_le V320'.lt (Nat.le_of_eq g322.symm))
      have V322 : OwnA Z h322 b322 .long 1 (jv' fun _ => 0) := own_newA A322 (by decide)
      have f325 := f321.ext E322
      have f326 := V320'.ext E322
      have gb_b322 : LeA (n0) (b322) := Nat.le_trans Z320 (Nat.le_of_eq g322.symm)
      have Z322 : LeA (n0) (h322.size) := Nat.le_trans Z320 E322.1
      refine OwnW.st (y_astore X322 H #[.val (.long q1), .second, .val (.long q2), .second, .val (.int p3), .val (.int p4), .val (.int p5), .val (.long z7_51), .second, .val (.long z9_52), .second, .val (.int z11_55), .val (.int z12_56), .val (.int (2 : Int32)), .val (.ref b230), .val (.ref b231), .val (.ref b322), .unset, .unset, .unset, .unset, .unset, .unset] at_146 rfl) ?_
      refine OwnW.st (y_iconst X322 H (1) at_148 rfl) ?_
      refine OwnW.v4 151 4 6 X322 (newP X322 hx hZ (ww hw 7 rfl) e322 (g := mkF m 149 _ _) rfl (hb hby at_149) rfl (by decide) (cap := 1) (by decide) (by decide) (by decide) (by decide)) rfl rfl ?_
      intro T327 h327 k327 X327 e327 E327 A327
      obtain ⟨b327, g327⟩ : ∃ z, z = h322.size := ⟨_, rfl⟩
      rw [← g327] at A327 ⊢
      have ne327_328 : NeA b230 b327 := Nat.ne_of_lt (Nat.lt_of_lt_of_le f325.lt (Nat.le_of_eq g327.symm))
      have ne327_329 : NeA b231 b327 := Nat.ne_of_lt (Nat.lt_of_lt_of_le f326.lt (Nat.le_of_eq g327.symm))
      have ne327_330 : NeA b322 b327 := Nat.ne_of_lt (Nat.lt_of_lt_of_le V322.lt (Nat.le_of_eq g327.symm))
      have V327 : OwnA Z h327 b327 .int 1 (iv' fun _ => 0) := own_newA A327 (by decide)
      have f331 := f325.ext E327
      have f332 := f326.ext E327
      have f333 := V322.ext E327
      have gb_b327 : LeA (n0) (b327) := Nat.le_trans Z322 (Nat.le_of_eq g327.symm)
      have Z327 : LeA (n0) (h327.size) := Nat.le_trans Z322 E327.1
      refine OwnW.st (y_astore X327 H #[.val (.long q1), .second, .val (.long q2), .second, .val (.int p3), .val (.int p4), .val (.int p5), .val (.long z7_51), .second, .val (.long z9_52), .second, .val (.int z11_55), .val (.int z12_56), .val (.int (2 : Int32)), .val (.ref b230), .val (.ref b231), .val (.ref b322), .val (.ref b327), .unset, .unset, .unset, .unset, .unset] at_151 rfl) ?_
      refine OwnW.st (y_aload X327 H at_153 rfl) ?_
      refine OwnW.st (y_iconst X327 H (0) at_155 rfl) ?_
      refine OwnW.st (y_iload X327 H at_156 rfl) ?_
      refine OwnW.st (y_iconst X327 H (3) at_158 rfl) ?_
      refine OwnW.st (y_iushr X327 H at_159) ?_
      refine OwnW.st (y_sipush X327 H (255) at_160 rfl) ?_
      refine OwnW.st (y_iand X327 H at_163) ?_
      refine OwnW.st (y_i2l X327 H at_164) ?_
      refine OwnW.v3 166 (own_stJ f333 X327 hx hZ e327 (by decide) (by decide) (gf := mkF m 165 _ _) rfl rfl (hb hby at_165)) ?_
      intro T334 h334 X334 e334 W334 V334
      have V334' : OwnA Z h334 b322 .long 1 (jv' (updv (fun _ => 0) 0 ((((p5.toUInt32 >>> ((3 : Int32) &&& 31).toUInt32).toInt32) &&& (255 : Int32)).toInt64))) := V334
      have f335 := f331.other W334 ne322_323
      have f336 := f332.other W334 ne322_324
      have f337 := V327.other W334 (Ne.symm ne327_330)
      have N334 := Fr.snoc X334 N320 gb_b322
      have Z334 : LeA (n0) (h334.size) := by rw [W334.size]; exact Z327
      refine OwnW.st (y_aload X334 H at_166 rfl) ?_
      refine OwnW.st (y_iconst X334 H (0) at_168 rfl) ?_
      refine OwnW.st (y_iconst X334 H (1) at_169 rfl) ?_
      refine OwnW.st (y_iload X334 H at_170 rfl) ?_
      refine OwnW.st (y_bipush X334 H (11) at_172 rfl) ?_
      refine OwnW.st (y_iushr X334 H at_174) ?_
      refine OwnW.st (y_iconst X334 H (3) at_175 rfl) ?_
      refine OwnW.st (y_iand X334 H at_176) ?_
      refine OwnW.st (y_iadd X334 H at_177) ?_
      refine OwnW.v3 179 (own_stI f337 X334 hx hZ e334 (by decide) (by decide) (gf := mkF m 178 _ _) rfl rfl (hb hby at_178)) ?_
      intro T338 h338 X338 e338 W338 V338
      have V338' : OwnA Z h338 b327 .int 1 (iv' (updv (fun _ => 0) 0 ((1 : Int32) + (((p5.toUInt32 >>> ((11 : Int32) &&& 31).toUInt32).toInt32) &&& (3 : Int32))))) := V338
      have f339 := f335.other W338 ne327_328
      have f340 := f336.other W338 ne327_329
      have f341 := V334'.other W338 ne327_330
      have N338 := Fr.snoc X338 N334 gb_b327
      have Z338 : LeA (n0) (h338.size) := by rw [W338.size]; exact Z334
      refine OwnW.v5 182 5 16 X338 (newO X338 hx hZ hown (ww hw 8 rfl) (ww hw 9 rfl) (ww hw 10 rfl) e338 (g := mkF m 179 _ _) rfl (hb hby at_179) (by decide) (by decide)) rfl rfl ?_
      intro T342 h342 X342 e342 E342 A342 D342 _
      obtain ⟨b342, g342⟩ : ∃ z, z = h338.size := ⟨_, rfl⟩
      rw [← g342] at A342 D342 ⊢
      have f347 := f339.ext E342
      have f348 := f340.ext E342
      have f349 := f341.ext E342
      have f350 := V338'.ext E342
      have F342_mPool : Fld Z h342 b342 "com/example/deft_nets/deftnets/MarkingStore" "mPool" "[B" .null := D342 (Or.inl (ww hw 38 rfl)) (ty := (.array .byte)) (by decide)
      have F342_mStart : Fld Z h342 b342 "com/example/deft_nets/deftnets/MarkingStore" "mStart" "[I" .null := D342 (Or.inl (ww hw 40 rfl)) (ty := (.array .int)) (by decide)
      have F342_mHash : Fld Z h342 b342 "com/example/deft_nets/deftnets/MarkingStore" "mHash" "[I" .null := D342 (Or.inl (ww hw 42 rfl)) (ty := (.array .int)) (by decide)
      have F342_mTable : Fld Z h342 b342 "com/example/deft_nets/deftnets/MarkingStore" "mTable" "[I" .null := D342 (Or.inl (ww hw 44 rfl)) (ty := (.array .int)) (by decide)
      have F342_mEncoded : Fld Z h342 b342 "com/example/deft_nets/deftnets/MarkingStore" "mEncoded" "[B" .null := D342 (Or.inl (ww hw 46 rfl)) (ty := (.array .byte)) (by decide)
      have F342_mBudget : Fld Z h342 b342 "com/example/deft_nets/deftnets/MarkingStore" "mBudget" "Lcom/example/deft_nets/deftnets/MemoryBudget;" .null := D342 (Or.inr (ww hw 48 rfl)) (ty := (.object "com/example/deft_nets/deftnets/MemoryBudget")) (by decide)
      have F342_mEncodedLength : Fld Z h342 b342 "com/example/deft_nets/deftnets/MarkingStore" "mEncodedLength" "I" (.int (0 : Int32)) := D342 (Or.inl (ww hw 60 rfl)) (ty := .int) (by decide)
      have F342_mNextPlace : Fld Z h342 b342 "com/example/deft_nets/deftnets/MarkingStore" "mNextPlace" "J" (.long (0 : Int64)) := D342 (Or.inl (ww hw 62 rfl)) (ty := .long) (by decide)
      have F342_mSize : Fld Z h342 b342 "com/example/deft_nets/deftnets/MarkingStore" "mSize" "I" (.int (0 : Int32)) := D342 (Or.inl (ww hw 76 rfl)) (ty := .int) (by decide)
      have F342_mPoolSize : Fld Z h342 b342 "com/example/deft_nets/deftnets/MarkingStore" "mPoolSize" "I" (.int (0 : Int32)) := D342 (Or.inl (ww hw 95 rfl)) (ty := .int) (by decide)
      have gb_b342 : LeA (n0) (b342) := Nat.le_trans Z338 (Nat.le_of_eq g342.symm)
      have Z342 : LeA (n0) (h342.size) := Nat.le_trans Z338 E342.1
      refine OwnW.st (y_dup X342 H at_182 rfl) ?_
      refine OwnW.v5 186 6 19 X342 (newO X342 hx hZ hown (ww hw 11 rfl) (ww hw 12 rfl) (ww hw 13 rfl) e342 (g := mkF m 183 _ _) rfl (hb hby at_183) (by decide) (by decide)) rfl rfl ?_
      intro T351 h351 X351 e351 E351 A351 D351 _
      obtain ⟨b351, g351⟩ : ∃ z, z = h342.size := ⟨_, rfl⟩
      rw [← g351] at A351 D351 ⊢
      have f357 := f347.ext E351
      have f358 := f348.ext E351
      have f359 := f349.ext E351
      have f360 := f350.ext E351
      have f361 := Exa.ext E351 A342
      have f362 := Fld.ext E351 F342_mPool
      have f363 := Fld.ext E351 F342_mStart
      have f364 := Fld.ext E351 F342_mHash
      have f365 := Fld.ext E351 F342_mTable
      have f366 := Fld.ext E351 F342_mEncoded
      have f367 := Fld.ext E351 F342_mBudget
      have f368 := Fld.ext E351 F342_mEncodedLength
      have f369 := Fld.ext E351 F342_mNextPlace
      have f370 := Fld.ext E351 F342_mSize
      have f371 := Fld.ext E351 F342_mPoolSize
      have F351_mLimit : Fld Z h351 b351 "com/example/deft_nets/deftnets/MemoryBudget" "mLimit" "J" (.long (0 : Int64)) := D351 (Or.inr (ww hw 30 rfl)) (ty := .long) (by decide)
      have F351_mSource : Fld Z h351 b351 "com/example/deft_nets/deftnets/MemoryBudget" "mSource" "Ljava/lang/String;" .null := D351 (Or.inr (ww hw 32 rfl)) (ty := (.object "java/lang/String")) (by decide)
      have F351_mUsed : Fld Z h351 b351 "com/example/deft_nets/deftnets/MemoryBudget" "mUsed" "J" (.long (0 : Int64)) := D351 (Or.inl (ww hw 93 rfl)) (ty := .long) (by decide)
      have gb_b351 : LeA (n0) (b351) := Nat.le_trans Z342 (Nat.le_of_eq g351.symm)
      have Z351 : LeA (n0) (h351.size) := Nat.le_trans Z342 E351.1
      have hbs : b342 < b351 := Nat.lt_of_lt_of_le (Exa.lt A342) (Nat.le_of_eq g351.symm)
      refine OwnW.st (y_dup X351 H at_186 rfl) ?_
      refine OwnW.st (y_ldc2 X351 H hown (mvT hZ (ww hw 14 rfl)) at_187) ?_
      obtain ⟨as372, T372, h372, X372, e372, E372, S372, Zw372, ow372, st372⟩ := own_ldcS X351 hx hZ hown (ww hw 15 rfl) wS e351 (g := (mkF m 190 #[.val (.long q1), .second, .val (.long q2), .second, .val (.int p3), .val (.int p4), .val (.int p5), .val (.long z7_51), .second, .val (.long z9_52), .second, .val (.int z11_55), .val (.int z12_56), .val (.int (2 : Int32)), .val (.ref b230), .val (.ref b231), .val (.ref b322), .val (.ref b327), .unset, .unset, .unset, .unset, .unset] [(.long (1099511627776 : Int64)), (.ref b351), (.ref b351), (.ref b342), (.ref b342)])) rfl (hb hby at_190) (n := 12) (by decide) (by decide) (by decide) (by decide)
      refine OwnW.st st372 ?_
      have f373 := f357.ext E372
      have f374 := f358.ext E372
      have f375 := f359.ext E372
      have f376 := f360.ext E372
      have f377 := Exa.ext E372 f361
      have f378 := Fld.ext E372 f362
      have f379 := Fld.ext E372 f363
      have f380 := Fld.ext E372 f364
      have f381 := Fld.ext E372 f365
      have f382 := Fld.ext E372 f366
      have f383 := Fld.ext E372 f367
      have f384 := Fld.ext E372 f368
      have f385 := Fld.ext E372 f369
      have f386 := Fld.ext E372 f370
      have f387 := Fld.ext E372 f371
      have f388 := Exa.ext E372 A351
      have f389 := Fld.ext E372 F351_mLimit
      have f390 := Fld.ext E372 F351_mSource
      have f391 := Fld.ext E372 F351_mUsed
      have hlt : z7_51.toInt < z9_52.toInt := by have q := mt Int64.lt_iff_toInt_lt.mpr hc89_235; have q2 : ¬ z7_51.toInt = z9_52.toInt := fun w => hneq (Int64.toInt_inj.mp w); omega
      have bo2 := own_o2 ((p5.toUInt32 >>> ((3 : Int32) &&& 31).toUInt32).toInt32)
      have bo3 := own_o3 ((p5.toUInt32 >>> ((11 : Int32) &&& 31).toUInt32).toInt32)
      exact OwnW.of S372 (fun v h L q => ⟨q.2.2, q.1, q.2.1⟩) (rm0H2 l Z a0 hw q1 q2 p3 p4 p5 z7_51 z9_52 z11_55 z12_56 b230 b231 b322 b327  as372 b351 b342 (updv (updv (fun _ => 0) 0 z7_51) 1 z9_52) (updv (updv (fun _ => 0) 0 z11_55) 1 z12_56) (updv (fun _ => 0) 0 ((((p5.toUInt32 >>> ((3 : Int32) &&& 31).toUInt32).toInt32) &&& (255 : Int32)).toInt64)) (updv (fun _ => 0) 0 ((1 : Int32) + (((p5.toUInt32 >>> ((11 : Int32) &&& 31).toUInt32).toInt32) &&& (3 : Int32)))) T372 _ h372 n0 h372.size hx hby hml Bd.returns (BodyLoose.notSynchronized Bd) Zw372 ow372 X372 e372 N338 (Nat.le_trans Z351 E372.1) (Nat.le_refl _) (Nat.lt_of_lt_of_le f339.lt (Nat.le_of_eq g342.symm)) (Nat.lt_of_lt_of_le f340.lt (Nat.le_of_eq g342.symm)) (Nat.lt_of_lt_of_le f341.lt (Nat.le_of_eq g342.symm)) (Nat.lt_of_lt_of_le V338'.lt (Nat.le_of_eq g342.symm)) gb_b342 gb_b351 (Nat.le_of_lt hbs) (Nat.ne_of_gt hbs) f373 f374 f375 f376 f377 f378 f387 f379 f380 f381 f382 f384 f385 f386 f383 f388 f389 f391 f390 ⟨bo2.1, Int.lt_of_le_of_lt bo2.2 (by decide)⟩ bo2.2 bo3.1 bo3.2 bd7 bd11 bd9 bd12 hlt)
set_option maxRecDepth 65536 in
set_option maxHeartbeats 40000000 in
theorem comes_1 {Post : Tables → Env → Array Value → State → Outcome → State → Prop} (hpost : ∀ tb e args s v u, (limb_1_1.after args s (.returned v) u = true ∧ limb_1_2.after args s (.returned v) u = true ∧ True) → Jvm.D.FramedW s (.returned v) u (Jvm.fieldLocs frame_1_writes args s ++ Jvm.arrayLocs frame_1_arrays args s ++ Jvm.staticLocs frame_1_statics s) 56 1472 → Post tb e args s (.returned v) u) :
    ArmFor flags0 classFile x code maxLocals ret World_1 tables_1 room_1 Calls_1 rest_1 Pre_1 Post := by
  intro l hfl _ _ p e ha hc hk s m args below hf hA hF happ hP
  obtain ⟨hcalls, hrest, hpre⟩ := hP
  obtain ⟨-, -, -, hnamed, -, -, -, hat⟩ := (Spec.applies_iff hf).mp happ
  obtain ⟨hg, hn⟩ := and_e (Cond.before_iff.mp (show (Jvm.Cond.and given_1 narrow_1).before args s = true from hpre))
  obtain ⟨g1, g2⟩ := and_e hg
  obtain ⟨g3, g4⟩ := and_e g2
  obtain ⟨g5, g6⟩ := and_e g4
  obtain ⟨g7, g8⟩ := and_e g6
  obtain ⟨g9, g10⟩ := and_e g8
  obtain ⟨w0, w1, w2, w3, w4, rfl⟩ : ∃ w0 w1 w2 w3 w4 : Value, args = #[w0, w1, w2, w3, w4] := by
    have hs : args.size = 5 := by simpa [Cond.value, given_1] using g1
    obtain ⟨L⟩ := args
    match L, hs with
    | [w0, w1, w2, w3, w4], _ => exact ⟨w0, w1, w2, w3, w4, rfl⟩
  have hw := fun d (hd : d ∈ tables_1) => atoms_spec (ws := Jvm.Cond.code x code maxLocals ret :: tables_1) hat d (List.mem_cons_of_mem _ hd)
  obtain ⟨i0, ei0⟩ := isL_v g3
  obtain rfl : w0 = (.long i0) := Option.some.inj ei0
  obtain ⟨i1, ei1⟩ := isL_v g5
  obtain rfl : w1 = (.long i1) := Option.some.inj ei1
  obtain ⟨i2, ei2⟩ := is_v g7
  obtain rfl : w2 = (.int i2) := Option.some.inj ei2
  obtain ⟨i3, ei3⟩ := is_v g9
  obtain rfl : w3 = (.int i3) := Option.some.inj ei3
  obtain ⟨i4, ei4⟩ := is_v g10
  obtain rfl : w4 = (.int i4) := Option.some.inj ei4
  obtain ⟨n, o, h1, h2, h3, _, L, rfl, ⟨rfl, N⟩, hq⟩ := rm0 l s _ hw tables_1 i0 i1 i2 i3 i4  s.heap s.heap.size (Nat.le_refl _)  p e ha hc hk s m _ below hf ((Spec.applies_iff_loose hf).mp happ).1 ⟨rfl, State.Warmed39.refl s, rfl⟩ trivial
  refine ⟨n, _, h1, h2, h3, hpost _ _ _ _ _ _ ⟨Cond.after_iff.mpr rfl, Cond.after_iff.mpr (eq_i res_at (Term.int_eval (1)) rfl), trivial⟩ ⟨hq.1, hq.2.1, hq.2.2.1, (hq.2.2.2.sift fun y hy => Or.inr (N y hy)).mono (by decide) (by decide)⟩⟩
theorem main_1_1 : Claimed_1_1 := comes_1 fun _ _ _ _ _ _ h hF => ⟨h.1, hF⟩
theorem main_1_2 : Claimed_1_2 := comes_1 fun _ _ _ _ _ _ h hF => ⟨h.2.1, hF⟩
end Jvm.Pilot.@@N@@
namespace Jvm.Pilot.@@N@@
open Jvm Jvm.ClassFile Sem Op Lib Jvm.Free Jvm.Stand Jvm.Pilot.@@N@@.Jvm.D
/-! MADE BY PROGRAM (witnessworld.py) out of the Statement's table words and the real class files: 22 classes; the members and pool entries that the words name. The judged class is class 1, her method 1. -/
namespace start1
open Jvm.ClassFile
def u (s : String) : CpInfo := .utf8 (stringToUtf16 s)
/-- a pool by its gaps: so many unusable entries, then the entry; so many at the end -/
def gap : Nat → List CpInfo → List CpInfo
  | 0, r => r
  | n + 1, r => .unusable :: gap n r
def poolList (es : List (Nat × CpInfo)) (last : Nat) : List CpInfo := es.foldr (fun e r => gap e.1 (e.2 :: r)) (gap last [])
def pool (es : List (Nat × CpInfo)) (last : Nat) : Array CpInfo := ⟨poolList es last⟩
def fileOf (pool : Array CpInfo) (this : Nat) (attrs : Array Attribute := #[]) (ms : Array MethodInfo := #[]) (fl : Nat := 33) (sup : Nat := 0) (ifs : Array Nat := #[]) (fds : Array FieldInfo := #[]) : ClassFile where
  minorVersion := 0
  majorVersion := 65
  constantPool := pool
  accessFlags := fl
  thisClass := this
  superClass := sup
  interfaces := ifs
  fields := fds
  methods := ms
  attributes := attrs
def plain (name : String) (sup : Option ClassId) : Class where
  name := name
  kind := .ordinary
  loader := none
  accessFlags := 33
  super := sup
  interfaces := #[]
  cf := none
  fields := #[]
  methods := #[]
  instanceTypes := #[]
  staticTypes := #[]
  resolved := #[]
  callSites := []
  init := .initialized
  statics := none
  mirror := none

def pool0 : Array CpInfo := pool [(5, u "<init>"), (0, u "()V"), (1, .class_ 10), (1, u "java/lang/Object")] 113

def k0c0 : Code := { maxStack := 0, maxLocals := 1, code := object_method_1_code, exceptionTable := #[], attributes := #[] }
def k0m0 : Method := { name := "<init>", desc := "()V", sig := { parameters := [], returnType := none }, accessFlags := 1, code := some k0c0 }
/-- java/lang/Object -/
def k0 : Class := { plain "java/lang/Object" none with
  accessFlags := 33
  interfaces := #[]
  cf := some (fileOf pool0 8 #[] #[{ accessFlags := 1, nameIndex := 5, descriptorIndex := 6, attributes := #[] }] 33 0 #[] #[])
  fields := #[]
  methods := #[k0m0]
  instanceTypes := #[]
  staticTypes := #[]
  resolved := Array.replicate 124 none
  statics := none }

def pool1 : Array CpInfo := pool [(2, .class_ 4), (1, u "java/lang/Object"), (0, u "<init>"), (0, u "()V"), (0, .long 4611686018427387903), (1, .integer 2147483647), (0, .methodref 11 12), (0, .class_ 13), (0, .nameAndType 14 15), (0, u "java/lang/Math"), (0, u "max"), (0, u "(II)I"), (0, .class_ 17), (0, u "com/example/deft_nets/deftnets/MarkingStore"), (0, .class_ 19), (0, u "com/example/deft_nets/deftnets/MemoryBudget"), (0, .long 1099511627776), (1, .string 23), (0, u "law"), (0, .methodref 18 25), (0, .nameAndType 5 26), (0, u "(JLjava/lang/String;)V"), (0, .methodref 16 28), (0, .nameAndType 5 29), (0, u "(Lcom/example/deft_nets/deftnets/MemoryBudget;)V"), (0, .methodref 16 31), (0, .nameAndType 32 33), (0, u "add"), (0, u "([J[II)I"), (0, .long 18446744073709551611), (1, .methodref 16 37), (0, .nameAndType 38 39), (0, u "decode"), (0, u "(I[J[I)V"), (0, .class_ 41), (0, u "com/example/deft_nets/deftnets/MarkingStoreDecodePinLaw"), (2, u "(JJIII)Z")] 10

def k1m0 : Method := { name := "<init>", desc := "()V", sig := { parameters := [], returnType := none }, accessFlags := 1, code := none }
def k1c1 : Code := { maxStack := 7, maxLocals := 23, code := code, exceptionTable := #[], attributes := #[] }
def k1m1 : Method := { name := "law", desc := "(JJIII)Z", sig := { parameters := [.long, .long, .int, .int, .int], returnType := some .boolean }, accessFlags := 9, code := some k1c1 }
/-- com/example/deft_nets/deftnets/MarkingStoreDecodePinLaw -/
def k1 : Class := { plain "com/example/deft_nets/deftnets/MarkingStoreDecodePinLaw" (some 0) with
  accessFlags := 49
  interfaces := #[]
  cf := some (fileOf pool1 40 #[] #[{ accessFlags := 1, nameIndex := 5, descriptorIndex := 6, attributes := #[] }, { accessFlags := 9, nameIndex := 23, descriptorIndex := 44, attributes := #[] }] 49 2 #[] #[])
  fields := #[]
  methods := #[k1m0, k1m1]
  instanceTypes := #[]
  staticTypes := #[]
  resolved := Array.replicate 55 none
  statics := none }

def pool2 : Array CpInfo := pool [(1, .class_ 2), (0, u "java/lang/Math"), (1, .class_ 6), (1, u "java/lang/Object"), (0, u "<init>"), (0, u "()V"), (89, .class_ 100), (1, u "java/lang/Math$RandomNumberGeneratorHolder"), (20, u "(JJ)J"), (50, u "negativeZeroFloatBits"), (0, u "J"), (2, u "negativeZeroDoubleBits"), (21, u "max"), (2, u "min"), (43, u "$assertionsDisabled"), (0, u "Z"), (88, u "(II)I"), (2, u "twoToTheDoubleScaleDown"), (0, u "D"), (4, u "twoToTheDoubleScaleUp"), (9, u "E"), (3, u "PI"), (2, u "TAU"), (2, u "DEGREES_TO_RADIANS"), (0, u "RADIANS_TO_DEGREES"), (39, u "toIntExact"), (0, u "(J)I")] 53

def k2m0 : Method := { name := "<init>", desc := "()V", sig := { parameters := [], returnType := none }, accessFlags := 2, code := none }
def k2c1 : Code := { maxStack := 4, maxLocals := 2, code := jdk_29_method_43_code, exceptionTable := #[], attributes := #[] }
def k2m1 : Method := { name := "toIntExact", desc := "(J)I", sig := { parameters := [.long], returnType := some .int }, accessFlags := 9, code := some k2c1 }
def k2c2 : Code := { maxStack := 2, maxLocals := 2, code := jdk_29_method_65_code, exceptionTable := #[], attributes := #[] }
def k2m2 : Method := { name := "max", desc := "(II)I", sig := { parameters := [.int, .int], returnType := some .int }, accessFlags := 9, code := some k2c2 }
def k2c3 : Code := { maxStack := 4, maxLocals := 4, code := jdk_29_method_66_code, exceptionTable := #[], attributes := #[] }
def k2m3 : Method := { name := "max", desc := "(JJ)J", sig := { parameters := [.long, .long], returnType := some .long }, accessFlags := 9, code := some k2c3 }
def k2c4 : Code := { maxStack := 2, maxLocals := 2, code := jdk_29_method_69_code, exceptionTable := #[], attributes := #[] }
def k2m4 : Method := { name := "min", desc := "(II)I", sig := { parameters := [.int, .int], returnType := some .int }, accessFlags := 9, code := some k2c4 }
def k2c5 : Code := { maxStack := 4, maxLocals := 4, code := jdk_29_method_70_code, exceptionTable := #[], attributes := #[] }
def k2m5 : Method := { name := "min", desc := "(JJ)J", sig := { parameters := [.long, .long], returnType := some .long }, accessFlags := 9, code := some k2c5 }
/-- java/lang/Math -/
def k2 : Class := { plain "java/lang/Math" (some 0) with
  accessFlags := 49
  interfaces := #[]
  cf := some (fileOf pool2 1 #[.nestMembers #[98]] #[{ accessFlags := 2, nameIndex := 7, descriptorIndex := 8, attributes := #[] }, { accessFlags := 9, nameIndex := 405, descriptorIndex := 406, attributes := #[] }, { accessFlags := 9, nameIndex := 198, descriptorIndex := 335, attributes := #[] }, { accessFlags := 9, nameIndex := 198, descriptorIndex := 121, attributes := #[] }, { accessFlags := 9, nameIndex := 201, descriptorIndex := 335, attributes := #[] }, { accessFlags := 9, nameIndex := 201, descriptorIndex := 121, attributes := #[] }] 49 4 #[] #[{ accessFlags := 25, nameIndex := 354, descriptorIndex := 339, attributes := #[] }, { accessFlags := 25, nameIndex := 358, descriptorIndex := 339, attributes := #[] }, { accessFlags := 25, nameIndex := 361, descriptorIndex := 339, attributes := #[] }, { accessFlags := 26, nameIndex := 364, descriptorIndex := 339, attributes := #[] }, { accessFlags := 26, nameIndex := 365, descriptorIndex := 339, attributes := #[] }, { accessFlags := 26, nameIndex := 172, descriptorIndex := 173, attributes := #[] }, { accessFlags := 26, nameIndex := 176, descriptorIndex := 173, attributes := #[] }, { accessFlags := 8, nameIndex := 344, descriptorIndex := 339, attributes := #[] }, { accessFlags := 8, nameIndex := 338, descriptorIndex := 339, attributes := #[] }, { accessFlags := 4120, nameIndex := 245, descriptorIndex := 246, attributes := #[] }])
  fields := #[{ name := "E", type := .double, accessFlags := 25, slot := 0, constantValue := 0 }, { name := "PI", type := .double, accessFlags := 25, slot := 1, constantValue := 0 }, { name := "TAU", type := .double, accessFlags := 25, slot := 2, constantValue := 0 }, { name := "DEGREES_TO_RADIANS", type := .double, accessFlags := 26, slot := 3, constantValue := 0 }, { name := "RADIANS_TO_DEGREES", type := .double, accessFlags := 26, slot := 4, constantValue := 0 }, { name := "negativeZeroFloatBits", type := .long, accessFlags := 26, slot := 5, constantValue := 0 }, { name := "negativeZeroDoubleBits", type := .long, accessFlags := 26, slot := 6, constantValue := 0 }, { name := "twoToTheDoubleScaleUp", type := .double, accessFlags := 8, slot := 7, constantValue := 0 }, { name := "twoToTheDoubleScaleDown", type := .double, accessFlags := 8, slot := 8, constantValue := 0 }, { name := "$assertionsDisabled", type := .boolean, accessFlags := 4120, slot := 9, constantValue := 0 }]
  methods := #[k2m0, k2m1, k2m2, k2m3, k2m4, k2m5]
  instanceTypes := #[]
  staticTypes := #[.double, .double, .double, .double, .double, .long, .long, .double, .double, .boolean]
  resolved := Array.replicate 460 none
  statics := none }

def pool3 : Array CpInfo := pool [(1, .methodref 2 3), (0, .class_ 4), (0, .nameAndType 5 6), (0, u "java/lang/Object"), (0, u "<init>"), (0, u "()V"), (0, .fieldref 8 9), (0, .class_ 10), (0, .nameAndType 11 12), (0, u "com/example/deft_nets/deftnets/MarkingStore"), (0, u "mPool"), (0, u "[B"), (0, .fieldref 8 14), (0, .nameAndType 15 16), (0, u "mStart"), (0, u "[I"), (0, .fieldref 8 18), (0, .nameAndType 19 16), (0, u "mHash"), (0, .fieldref 8 21), (0, .nameAndType 22 16), (0, u "mTable"), (0, .fieldref 8 24), (0, .nameAndType 25 12), (0, u "mEncoded"), (0, .fieldref 8 27), (0, .nameAndType 28 29), (0, u "mBudget"), (0, u "Lcom/example/deft_nets/deftnets/MemoryBudget;"), (0, .fieldref 8 31), (0, .nameAndType 32 33), (0, u "mSize"), (0, u "I"), (0, .methodref 8 35), (0, .nameAndType 36 37), (0, u "startEncoding"), (0, u "(I)V"), (0, .methodref 8 39), (0, .nameAndType 40 41), (0, u "encodeEntry"), (0, u "(JI)V"), (0, .methodref 8 43), (0, .nameAndType 44 45), (0, u "addEncoded"), (0, u "()I"), (0, .methodref 8 47), (0, .nameAndType 48 45), (0, u "hashOfEncoded"), (0, .long 2), (1, .methodref 8 52), (0, .nameAndType 53 6), (0, u "rehash"), (0, .fieldref 8 55), (0, .nameAndType 56 33), (0, u "mEncodedLength"), (0, .methodref 58 59), (0, .class_ 60), (0, .nameAndType 61 62), (0, u "java/util/Arrays"), (0, u "equals"), (0, u "([BII[BII)Z"), (0, .fieldref 8 64), (0, .nameAndType 65 33), (0, u "mPoolSize"), (0, .methodref 67 68), (0, .class_ 69), (0, .nameAndType 70 71), (0, u "com/example/deft_nets/deftnets/MemoryBudget"), (0, u "grow"), (0, u "([BJ)[B"), (0, .methodref 73 74), (0, .class_ 75), (0, .nameAndType 76 77), (0, u "java/lang/System"), (0, u "arraycopy"), (0, u "(Ljava/lang/Object;ILjava/lang/Object;II)V"), (0, .methodref 67 79), (0, .nameAndType 70 80), (0, u "([IJ)[I"), (4, .class_ 86), (0, u "com/example/deft_nets/deftnets/MarkingStore$Entries"), (0, .methodref 85 88), (0, .nameAndType 5 89), (0, u "(Lcom/example/deft_nets/deftnets/MarkingStore;I)V"), (0, .methodref 85 91), (0, .nameAndType 92 93), (0, u "next"), (0, u "()Z"), (0, .fieldref 85 95), (0, .nameAndType 96 97), (0, u "mPlace"), (0, u "J"), (0, .fieldref 85 99), (0, .nameAndType 100 33), (0, u "mCount"), (21, .long 14), (1, .methodref 125 126), (0, .class_ 127), (0, .nameAndType 128 129), (0, u "java/lang/Math"), (0, u "toIntExact"), (0, u "(J)I"), (0, .fieldref 8 131), (0, .nameAndType 132 97), (0, u "mNextPlace"), (0, .methodref 8 134), (0, .nameAndType 135 136), (0, u "writeNumber"), (0, u "(JI)I"), (0, .long 128), (1, .integer 2166136261), (0, .integer 16777619), (0, .integer 2246822507), (0, .integer 3266489909), (0, .long 16), (1, .methodref 125 146), (0, .nameAndType 147 148), (0, u "max"), (0, u "(JJ)J"), (0, .methodref 67 150), (0, .nameAndType 151 80), (0, u "replace"), (0, u "MOST_BYTES_PER_ENTRY"), (2, u "(Lcom/example/deft_nets/deftnets/MemoryBudget;)V"), (3, u "add"), (5, u "([J[II)I"), (0, u "decode"), (1, u "(I[J[I)V")] 12

def k3c0 : Code := { maxStack := 2, maxLocals := 2, code := prog_31_method_1_code, exceptionTable := #[], attributes := #[] }
def k3m0 : Method := { name := "<init>", desc := "(Lcom/example/deft_nets/deftnets/MemoryBudget;)V", sig := { parameters := [(.object "com/example/deft_nets/deftnets/MemoryBudget")], returnType := none }, accessFlags := 0, code := some k3c0 }
def k3c1 : Code := { maxStack := 5, maxLocals := 5, code := prog_31_method_4_code, exceptionTable := #[], attributes := #[] }
def k3m1 : Method := { name := "add", desc := "([J[II)I", sig := { parameters := [(.array .long), (.array .int), .int], returnType := some .int }, accessFlags := 0, code := some k3c1 }
def k3c2 : Code := { maxStack := 7, maxLocals := 5, code := prog_31_method_5_code, exceptionTable := #[], attributes := #[] }
def k3m2 : Method := { name := "addEncoded", desc := "()I", sig := { parameters := [], returnType := some .int }, accessFlags := 2, code := some k3c2 }
def k3c3 : Code := { maxStack := 4, maxLocals := 6, code := prog_31_method_7_code, exceptionTable := #[], attributes := #[] }
def k3m3 : Method := { name := "decode", desc := "(I[J[I)V", sig := { parameters := [.int, (.array .long), (.array .int)], returnType := none }, accessFlags := 0, code := some k3c3 }
def k3c4 : Code := { maxStack := 6, maxLocals := 2, code := prog_31_method_11_code, exceptionTable := #[], attributes := #[] }
def k3m4 : Method := { name := "startEncoding", desc := "(I)V", sig := { parameters := [.int], returnType := none }, accessFlags := 2, code := some k3c4 }
def k3c5 : Code := { maxStack := 6, maxLocals := 4, code := prog_31_method_12_code, exceptionTable := #[], attributes := #[] }
def k3m5 : Method := { name := "encodeEntry", desc := "(JI)V", sig := { parameters := [.long, .int], returnType := none }, accessFlags := 2, code := some k3c5 }
def k3c6 : Code := { maxStack := 6, maxLocals := 6, code := prog_31_method_13_code, exceptionTable := #[], attributes := #[] }
def k3m6 : Method := { name := "writeNumber", desc := "(JI)I", sig := { parameters := [.long, .int], returnType := some .int }, accessFlags := 2, code := some k3c6 }
def k3c7 : Code := { maxStack := 3, maxLocals := 3, code := prog_31_method_14_code, exceptionTable := #[], attributes := #[] }
def k3m7 : Method := { name := "hashOfEncoded", desc := "()I", sig := { parameters := [], returnType := some .int }, accessFlags := 2, code := some k3c7 }
def k3c8 : Code := { maxStack := 8, maxLocals := 5, code := prog_31_method_15_code, exceptionTable := #[], attributes := #[] }
def k3m8 : Method := { name := "rehash", desc := "()V", sig := { parameters := [], returnType := none }, accessFlags := 2, code := some k3c8 }
/-- com/example/deft_nets/deftnets/MarkingStore -/
def k3 : Class := { plain "com/example/deft_nets/deftnets/MarkingStore" (some 0) with
  accessFlags := 32
  interfaces := #[]
  cf := some (fileOf pool3 8 #[.nestMembers #[85]] #[{ accessFlags := 0, nameIndex := 5, descriptorIndex := 155, attributes := #[] }, { accessFlags := 0, nameIndex := 159, descriptorIndex := 165, attributes := #[] }, { accessFlags := 2, nameIndex := 44, descriptorIndex := 45, attributes := #[] }, { accessFlags := 0, nameIndex := 166, descriptorIndex := 168, attributes := #[] }, { accessFlags := 2, nameIndex := 36, descriptorIndex := 37, attributes := #[] }, { accessFlags := 2, nameIndex := 40, descriptorIndex := 41, attributes := #[] }, { accessFlags := 2, nameIndex := 135, descriptorIndex := 136, attributes := #[] }, { accessFlags := 2, nameIndex := 48, descriptorIndex := 45, attributes := #[] }, { accessFlags := 2, nameIndex := 53, descriptorIndex := 6, attributes := #[] }] 32 2 #[] #[{ accessFlags := 26, nameIndex := 152, descriptorIndex := 33, attributes := #[] }, { accessFlags := 18, nameIndex := 28, descriptorIndex := 29, attributes := #[] }, { accessFlags := 2, nameIndex := 11, descriptorIndex := 12, attributes := #[] }, { accessFlags := 2, nameIndex := 65, descriptorIndex := 33, attributes := #[] }, { accessFlags := 2, nameIndex := 15, descriptorIndex := 16, attributes := #[] }, { accessFlags := 2, nameIndex := 19, descriptorIndex := 16, attributes := #[] }, { accessFlags := 2, nameIndex := 22, descriptorIndex := 16, attributes := #[] }, { accessFlags := 2, nameIndex := 32, descriptorIndex := 33, attributes := #[] }, { accessFlags := 2, nameIndex := 25, descriptorIndex := 12, attributes := #[] }, { accessFlags := 2, nameIndex := 56, descriptorIndex := 33, attributes := #[] }, { accessFlags := 2, nameIndex := 132, descriptorIndex := 97, attributes := #[] }])
  fields := #[{ name := "MOST_BYTES_PER_ENTRY", type := .int, accessFlags := 26, slot := 0, constantValue := 0 }, { name := "mBudget", type := (.object "com/example/deft_nets/deftnets/MemoryBudget"), accessFlags := 18, slot := 0, constantValue := 0 }, { name := "mPool", type := (.array .byte), accessFlags := 2, slot := 1, constantValue := 0 }, { name := "mPoolSize", type := .int, accessFlags := 2, slot := 2, constantValue := 0 }, { name := "mStart", type := (.array .int), accessFlags := 2, slot := 3, constantValue := 0 }, { name := "mHash", type := (.array .int), accessFlags := 2, slot := 4, constantValue := 0 }, { name := "mTable", type := (.array .int), accessFlags := 2, slot := 5, constantValue := 0 }, { name := "mSize", type := .int, accessFlags := 2, slot := 6, constantValue := 0 }, { name := "mEncoded", type := (.array .byte), accessFlags := 2, slot := 7, constantValue := 0 }, { name := "mEncodedLength", type := .int, accessFlags := 2, slot := 8, constantValue := 0 }, { name := "mNextPlace", type := .long, accessFlags := 2, slot := 9, constantValue := 0 }]
  methods := #[k3m0, k3m1, k3m2, k3m3, k3m4, k3m5, k3m6, k3m7, k3m8]
  instanceTypes := #[(.object "com/example/deft_nets/deftnets/MemoryBudget"), (.array .byte), .int, (.array .int), (.array .int), (.array .int), .int, (.array .byte), .int, .long]
  staticTypes := #[.int]
  resolved := ((Array.replicate 181 none).setIfInBounds 94 (some (.field 13 2))).setIfInBounds 98 (some (.field 13 3))
  statics := none }

def pool4 : Array CpInfo := pool [(3, .methodref 4 5), (0, .class_ 6), (0, .nameAndType 7 8), (0, u "java/lang/Object"), (0, u "<init>"), (0, u "()V"), (0, .fieldref 10 11), (0, .class_ 12), (0, .nameAndType 13 14), (0, u "com/example/deft_nets/deftnets/MemoryBudget"), (0, u "mLimit"), (0, u "J"), (0, .fieldref 10 16), (0, .nameAndType 17 18), (0, u "mSource"), (0, u "Ljava/lang/String;"), (10, .long 2), (5, u "(JLjava/lang/String;)V"), (0, .methodref 10 37), (0, .nameAndType 38 39), (0, u "take"), (0, u "(IJI)I"), (0, .methodref 41 42), (0, .class_ 43), (0, .nameAndType 44 45), (0, u "java/util/Arrays"), (0, u "copyOf"), (0, u "([II)[I"), (7, .methodref 41 54), (0, .nameAndType 44 55), (0, u "([BI)[B"), (0, .long 2147483639), (5, .long 4), (1, .fieldref 10 65), (0, .nameAndType 66 14), (0, u "mUsed"), (3, .methodref 71 72), (0, .class_ 73), (0, .nameAndType 74 75), (0, u "java/lang/Math"), (0, u "min"), (0, u "(JJ)J"), (0, .methodref 71 77), (0, .nameAndType 78 75), (0, u "max"), (24, u "LARGEST_ARRAY"), (0, u "I"), (6, u "grow"), (0, u "([IJ)[I"), (7, u "([BJ)[B"), (2, u "replace")] 24

def k4c0 : Code := { maxStack := 3, maxLocals := 4, code := prog_34_method_1_code, exceptionTable := #[], attributes := #[] }
def k4m0 : Method := { name := "<init>", desc := "(JLjava/lang/String;)V", sig := { parameters := [.long, (.object "java/lang/String")], returnType := none }, accessFlags := 0, code := some k4c0 }
def k4c1 : Code := { maxStack := 6, maxLocals := 4, code := prog_34_method_3_code, exceptionTable := #[], attributes := #[] }
def k4m1 : Method := { name := "grow", desc := "([IJ)[I", sig := { parameters := [(.array .int), .long], returnType := some (.array .int) }, accessFlags := 0, code := some k4c1 }
def k4c2 : Code := { maxStack := 6, maxLocals := 4, code := prog_34_method_5_code, exceptionTable := #[], attributes := #[] }
def k4m2 : Method := { name := "grow", desc := "([BJ)[B", sig := { parameters := [(.array .byte), .long], returnType := some (.array .byte) }, accessFlags := 0, code := some k4c2 }
def k4c3 : Code := { maxStack := 7, maxLocals := 4, code := prog_34_method_6_code, exceptionTable := #[], attributes := #[] }
def k4m3 : Method := { name := "replace", desc := "([IJ)[I", sig := { parameters := [(.array .int), .long], returnType := some (.array .int) }, accessFlags := 0, code := some k4c3 }
def k4c4 : Code := { maxStack := 8, maxLocals := 9, code := prog_34_method_9_code, exceptionTable := #[], attributes := #[] }
def k4m4 : Method := { name := "take", desc := "(IJI)I", sig := { parameters := [.int, .long, .int], returnType := some .int }, accessFlags := 2, code := some k4c4 }
/-- com/example/deft_nets/deftnets/MemoryBudget -/
def k4 : Class := { plain "com/example/deft_nets/deftnets/MemoryBudget" (some 0) with
  accessFlags := 32
  interfaces := #[]
  cf := some (fileOf pool4 10 #[] #[{ accessFlags := 0, nameIndex := 7, descriptorIndex := 35, attributes := #[] }, { accessFlags := 0, nameIndex := 111, descriptorIndex := 112, attributes := #[] }, { accessFlags := 0, nameIndex := 111, descriptorIndex := 120, attributes := #[] }, { accessFlags := 0, nameIndex := 123, descriptorIndex := 112, attributes := #[] }, { accessFlags := 2, nameIndex := 38, descriptorIndex := 39, attributes := #[] }] 32 4 #[] #[{ accessFlags := 24, nameIndex := 103, descriptorIndex := 104, attributes := #[] }, { accessFlags := 18, nameIndex := 13, descriptorIndex := 14, attributes := #[] }, { accessFlags := 18, nameIndex := 17, descriptorIndex := 18, attributes := #[] }, { accessFlags := 2, nameIndex := 66, descriptorIndex := 14, attributes := #[] }])
  fields := #[{ name := "LARGEST_ARRAY", type := .int, accessFlags := 24, slot := 0, constantValue := 0 }, { name := "mLimit", type := .long, accessFlags := 18, slot := 0, constantValue := 0 }, { name := "mSource", type := (.object "java/lang/String"), accessFlags := 18, slot := 1, constantValue := 0 }, { name := "mUsed", type := .long, accessFlags := 2, slot := 2, constantValue := 0 }]
  methods := #[k4m0, k4m1, k4m2, k4m3, k4m4]
  instanceTypes := #[.long, (.object "java/lang/String"), .long]
  staticTypes := #[.int]
  resolved := Array.replicate 148 none
  statics := none }

def pool5 : Array CpInfo := pool [(1, .class_ 2), (0, u "java/io/Serializable"), (0, .class_ 4), (0, u "java/lang/Object")] 2

/-- java/io/Serializable -/
def k5 : Class := { plain "java/io/Serializable" (some 0) with
  accessFlags := 1537
  interfaces := #[]
  cf := some (fileOf pool5 1 #[] #[] 1537 3 #[] #[])
  fields := #[]
  methods := #[]
  instanceTypes := #[]
  staticTypes := #[]
  resolved := Array.replicate 7 none
  statics := none }

def pool6 : Array CpInfo := pool [(1, .class_ 2), (0, u "java/lang/Comparable"), (0, .class_ 4), (0, u "java/lang/Object")] 7

/-- java/lang/Comparable -/
def k6 : Class := { plain "java/lang/Comparable" (some 0) with
  accessFlags := 1537
  interfaces := #[]
  cf := some (fileOf pool6 1 #[] #[] 1537 3 #[] #[])
  fields := #[]
  methods := #[]
  instanceTypes := #[]
  staticTypes := #[]
  resolved := Array.replicate 12 none
  statics := none }

def pool7 : Array CpInfo := pool [(2, .class_ 4), (1, u "java/lang/CharSequence"), (42, .class_ 48), (0, u "java/lang/CharSequence$1CodePointIterator"), (10, .class_ 60), (0, u "java/lang/CharSequence$1CharIterator"), (5, .class_ 67), (0, u "java/lang/Object")] 63

/-- java/lang/CharSequence -/
def k7 : Class := { plain "java/lang/CharSequence" (some 0) with
  accessFlags := 1537
  interfaces := #[]
  cf := some (fileOf pool7 2 #[.nestMembers #[47, 59]] #[] 1537 66 #[] #[])
  fields := #[]
  methods := #[]
  instanceTypes := #[]
  staticTypes := #[]
  resolved := Array.replicate 131 none
  statics := none }

def pool8 : Array CpInfo := pool [(1, .class_ 2), (0, u "java/lang/constant/Constable"), (0, .class_ 4), (0, u "java/lang/Object")] 6

/-- java/lang/constant/Constable -/
def k8 : Class := { plain "java/lang/constant/Constable" (some 0) with
  accessFlags := 1537
  interfaces := #[]
  cf := some (fileOf pool8 1 #[] #[] 1537 3 #[] #[])
  fields := #[]
  methods := #[]
  instanceTypes := #[]
  staticTypes := #[]
  resolved := Array.replicate 11 none
  statics := none }

def pool9 : Array CpInfo := pool [(1, .class_ 2), (0, u "java/lang/constant/ConstantDesc"), (0, .class_ 4), (0, u "java/lang/Object")] 32

/-- java/lang/constant/ConstantDesc -/
def k9 : Class := { plain "java/lang/constant/ConstantDesc" (some 0) with
  accessFlags := 1537
  interfaces := #[]
  cf := some (fileOf pool9 1 #[] #[] 1537 3 #[] #[])
  fields := #[]
  methods := #[]
  instanceTypes := #[]
  staticTypes := #[]
  resolved := Array.replicate 37 none
  statics := none }

def pool10 : Array CpInfo := pool [(2, .class_ 4), (1, u "java/lang/Object"), (0, u "<init>"), (0, u "()V"), (3, .class_ 12), (1, u "java/lang/String"), (0, u "value"), (0, u "[B"), (2, u "coder"), (0, u "B"), (2, u "hash"), (0, u "I"), (2, u "hashIsZero"), (0, u "Z"), (13, u "COMPACT_STRINGS"), (534, .class_ 576), (0, u "java/lang/CharSequence"), (22, u "CASE_INSENSITIVE_ORDER"), (0, u "Ljava/util/Comparator;"), (500, u "serialPersistentFields"), (0, u "[Ljava/io/ObjectStreamField;"), (0, .class_ 1104), (0, u "java/lang/String$CaseInsensitiveComparator"), (1, .class_ 1107), (0, u "java/io/Serializable"), (0, .class_ 1109), (0, u "java/lang/Comparable"), (0, .class_ 1111), (0, u "java/lang/constant/Constable"), (0, .class_ 1113), (0, u "java/lang/constant/ConstantDesc"), (2, u "serialVersionUID"), (0, u "J"), (3, u "REPL"), (0, u "C"), (2, u "LATIN1"), (1, u "UTF16")] 323

def k10m0 : Method := { name := "<init>", desc := "()V", sig := { parameters := [], returnType := none }, accessFlags := 1, code := none }
/-- java/lang/String -/
def k10 : Class := { plain "java/lang/String" (some 0) with
  accessFlags := 49
  interfaces := #[5, 6, 7, 8, 9]
  cf := some (fileOf pool10 10 #[.nestMembers #[1103]] #[{ accessFlags := 1, nameIndex := 5, descriptorIndex := 6, attributes := #[] }] 49 2 #[1106, 1108, 575, 1110, 1112] #[{ accessFlags := 18, nameIndex := 13, descriptorIndex := 14, attributes := #[] }, { accessFlags := 18, nameIndex := 17, descriptorIndex := 18, attributes := #[] }, { accessFlags := 2, nameIndex := 21, descriptorIndex := 22, attributes := #[] }, { accessFlags := 2, nameIndex := 25, descriptorIndex := 26, attributes := #[] }, { accessFlags := 26, nameIndex := 1116, descriptorIndex := 1117, attributes := #[] }, { accessFlags := 24, nameIndex := 40, descriptorIndex := 26, attributes := #[] }, { accessFlags := 26, nameIndex := 1101, descriptorIndex := 1102, attributes := #[] }, { accessFlags := 26, nameIndex := 1121, descriptorIndex := 1122, attributes := #[] }, { accessFlags := 25, nameIndex := 599, descriptorIndex := 600, attributes := #[] }, { accessFlags := 24, nameIndex := 1125, descriptorIndex := 18, attributes := #[] }, { accessFlags := 24, nameIndex := 1127, descriptorIndex := 18, attributes := #[] }])
  fields := #[{ name := "value", type := (.array .byte), accessFlags := 18, slot := 0, constantValue := 0 }, { name := "coder", type := .byte, accessFlags := 18, slot := 1, constantValue := 0 }, { name := "hash", type := .int, accessFlags := 2, slot := 2, constantValue := 0 }, { name := "hashIsZero", type := .boolean, accessFlags := 2, slot := 3, constantValue := 0 }, { name := "serialVersionUID", type := .long, accessFlags := 26, slot := 0, constantValue := 0 }, { name := "COMPACT_STRINGS", type := .boolean, accessFlags := 24, slot := 1, constantValue := 0 }, { name := "serialPersistentFields", type := (.array (.object "java/io/ObjectStreamField")), accessFlags := 26, slot := 2, constantValue := 0 }, { name := "REPL", type := .char, accessFlags := 26, slot := 3, constantValue := 0 }, { name := "CASE_INSENSITIVE_ORDER", type := (.object "java/util/Comparator"), accessFlags := 25, slot := 4, constantValue := 0 }, { name := "LATIN1", type := .byte, accessFlags := 24, slot := 5, constantValue := 0 }, { name := "UTF16", type := .byte, accessFlags := 24, slot := 6, constantValue := 0 }]
  methods := #[k10m0]
  instanceTypes := #[(.array .byte), .byte, .int, .boolean]
  staticTypes := #[.long, .boolean, (.array (.object "java/io/ObjectStreamField")), .char, (.object "java/util/Comparator"), .byte, .byte]
  resolved := Array.replicate 1451 none
  statics := none }

def pool11 : Array CpInfo := pool [(2, .class_ 4), (1, u "java/lang/Object"), (0, u "<init>"), (0, u "()V"), (1, .class_ 10), (1, u "java/lang/System"), (0, u "allowSecurityManager"), (0, u "I"), (16, u "cons"), (0, u "Ljava/io/Console;"), (77, .class_ 110), (1, u "java/lang/System$CallersHolder"), (43, u "initialErrStream"), (0, u "Ljava/io/PrintStream;"), (19, u "security"), (0, u "Ljava/lang/SecurityManager;"), (31, .class_ 209), (0, u "java/lang/System$1"), (7, u "props"), (0, u "Ljava/util/Properties;"), (2, u "lineSeparator"), (0, u "Ljava/lang/String;"), (96, .class_ 321), (1, u "java/lang/System$LoggerFinder"), (5, .class_ 328), (0, u "java/lang/System$Logger"), (67, u "err"), (2, u "out"), (91, u "notSupportedJnuEncoding"), (15, u "in"), (17, u "initialIn"), (0, u "Ljava/io/InputStream;"), (35, u "bootLayer"), (0, u "Ljava/lang/ModuleLayer;"), (99, .class_ 664), (0, u "java/lang/System$2"), (9, u "NEVER"), (2, u "MAYBE"), (49, u "arraycopy"), (0, u "(Ljava/lang/Object;ILjava/lang/Object;II)V"), (72, .class_ 802), (0, u "java/lang/System$Logger$Level")] 31

def k11m0 : Method := { name := "<init>", desc := "()V", sig := { parameters := [], returnType := none }, accessFlags := 2, code := none }
def k11m1 : Method := { name := "arraycopy", desc := "(Ljava/lang/Object;ILjava/lang/Object;II)V", sig := { parameters := [(.object "java/lang/Object"), .int, (.object "java/lang/Object"), .int, .int], returnType := none }, accessFlags := 265, code := none }
/-- java/lang/System -/
def k11 : Class := { plain "java/lang/System" (some 0) with
  accessFlags := 49
  interfaces := #[]
  cf := some (fileOf pool11 8 #[.nestMembers #[319, 327, 801, 108, 663, 208]] #[{ accessFlags := 2, nameIndex := 5, descriptorIndex := 6, attributes := #[] }, { accessFlags := 265, nameIndex := 727, descriptorIndex := 728, attributes := #[] }] 49 2 #[] #[{ accessFlags := 25, nameIndex := 507, descriptorIndex := 526, attributes := #[] }, { accessFlags := 25, nameIndex := 399, descriptorIndex := 155, attributes := #[] }, { accessFlags := 25, nameIndex := 396, descriptorIndex := 155, attributes := #[] }, { accessFlags := 10, nameIndex := 525, descriptorIndex := 526, attributes := #[] }, { accessFlags := 26, nameIndex := 674, descriptorIndex := 12, attributes := #[] }, { accessFlags := 26, nameIndex := 677, descriptorIndex := 12, attributes := #[] }, { accessFlags := 10, nameIndex := 11, descriptorIndex := 12, attributes := #[] }, { accessFlags := 74, nameIndex := 175, descriptorIndex := 176, attributes := #[] }, { accessFlags := 10, nameIndex := 491, descriptorIndex := 222, attributes := #[] }, { accessFlags := 74, nameIndex := 29, descriptorIndex := 30, attributes := #[] }, { accessFlags := 74, nameIndex := 154, descriptorIndex := 155, attributes := #[] }, { accessFlags := 10, nameIndex := 217, descriptorIndex := 218, attributes := #[] }, { accessFlags := 10, nameIndex := 221, descriptorIndex := 222, attributes := #[] }, { accessFlags := 8, nameIndex := 562, descriptorIndex := 563, attributes := #[] }])
  fields := #[{ name := "in", type := (.object "java/io/InputStream"), accessFlags := 25, slot := 0, constantValue := 0 }, { name := "out", type := (.object "java/io/PrintStream"), accessFlags := 25, slot := 1, constantValue := 0 }, { name := "err", type := (.object "java/io/PrintStream"), accessFlags := 25, slot := 2, constantValue := 0 }, { name := "initialIn", type := (.object "java/io/InputStream"), accessFlags := 10, slot := 3, constantValue := 0 }, { name := "NEVER", type := .int, accessFlags := 26, slot := 4, constantValue := 0 }, { name := "MAYBE", type := .int, accessFlags := 26, slot := 5, constantValue := 0 }, { name := "allowSecurityManager", type := .int, accessFlags := 10, slot := 6, constantValue := 0 }, { name := "security", type := (.object "java/lang/SecurityManager"), accessFlags := 74, slot := 7, constantValue := 0 }, { name := "notSupportedJnuEncoding", type := (.object "java/lang/String"), accessFlags := 10, slot := 8, constantValue := 0 }, { name := "cons", type := (.object "java/io/Console"), accessFlags := 74, slot := 9, constantValue := 0 }, { name := "initialErrStream", type := (.object "java/io/PrintStream"), accessFlags := 74, slot := 10, constantValue := 0 }, { name := "props", type := (.object "java/util/Properties"), accessFlags := 10, slot := 11, constantValue := 0 }, { name := "lineSeparator", type := (.object "java/lang/String"), accessFlags := 10, slot := 12, constantValue := 0 }, { name := "bootLayer", type := (.object "java/lang/ModuleLayer"), accessFlags := 8, slot := 13, constantValue := 0 }]
  methods := #[k11m0, k11m1]
  instanceTypes := #[]
  staticTypes := #[(.object "java/io/InputStream"), (.object "java/io/PrintStream"), (.object "java/io/PrintStream"), (.object "java/io/InputStream"), .int, .int, .int, (.object "java/lang/SecurityManager"), (.object "java/lang/String"), (.object "java/io/Console"), (.object "java/io/PrintStream"), (.object "java/util/Properties"), (.object "java/lang/String"), (.object "java/lang/ModuleLayer")]
  resolved := Array.replicate 834 none
  statics := none }

def pool12 : Array CpInfo := pool [(2, .class_ 4), (1, u "java/lang/Object"), (0, u "<init>"), (0, u "()V"), (6, .methodref 14 15), (0, .class_ 16), (0, .nameAndType 17 18), (0, u "java/util/Arrays"), (0, u "rangeCheck"), (0, u "(III)V"), (55, .class_ 76), (1, u "java/util/Arrays$NaturalOrder"), (36, .class_ 115), (1, u "java/util/Arrays$LegacyMergeSort"), (1, u "Z"), (32, .methodref 151 152), (0, .class_ 153), (0, .nameAndType 154 155), (0, u "java/lang/System"), (0, u "arraycopy"), (0, u "(Ljava/lang/Object;ILjava/lang/Object;II)V"), (90, .class_ 248), (1, u "jdk/internal/util/ArraysSupport"), (0, u "mismatch"), (25, .methodref 246 276), (0, .nameAndType 249 277), (0, u "([BI[BII)I"), (20, u "equals"), (3, u "copyOf"), (1, .methodref 305 306), (0, .class_ 307), (0, .nameAndType 308 309), (0, u "java/lang/Math"), (0, u "min"), (0, u "(II)I"), (65, .class_ 376), (0, u "java/util/Arrays$ArrayList"), (68, u "$assertionsDisabled"), (269, u "MIN_ARRAY_SORT_GRAN"), (0, u "I"), (2, u "INSERTIONSORT_THRESHOLD"), (111, u "([BII[BII)Z"), (37, u "([BI)[B"), (1, u "([II)[I"), (103, .class_ 976), (0, u "java/util/Arrays$ArrayItr")] 52

def k12m0 : Method := { name := "<init>", desc := "()V", sig := { parameters := [], returnType := none }, accessFlags := 2, code := none }
def k12c1 : Code := { maxStack := 4, maxLocals := 3, code := jdk_65_method_30_code, exceptionTable := #[], attributes := #[] }
def k12m1 : Method := { name := "rangeCheck", desc := "(III)V", sig := { parameters := [.int, .int, .int], returnType := none }, accessFlags := 8, code := some k12c1 }
def k12c2 : Code := { maxStack := 5, maxLocals := 8, code := jdk_65_method_90_code, exceptionTable := #[], attributes := #[] }
def k12m2 : Method := { name := "equals", desc := "([BII[BII)Z", sig := { parameters := [(.array .byte), .int, .int, (.array .byte), .int, .int], returnType := some .boolean }, accessFlags := 9, code := some k12c2 }
def k12c3 : Code := { maxStack := 6, maxLocals := 3, code := jdk_65_method_121_code, exceptionTable := #[], attributes := #[] }
def k12m3 : Method := { name := "copyOf", desc := "([BI)[B", sig := { parameters := [(.array .byte), .int], returnType := some (.array .byte) }, accessFlags := 9, code := some k12c3 }
def k12c4 : Code := { maxStack := 6, maxLocals := 3, code := jdk_65_method_123_code, exceptionTable := #[], attributes := #[] }
def k12m4 : Method := { name := "copyOf", desc := "([II)[I", sig := { parameters := [(.array .int), .int], returnType := some (.array .int) }, accessFlags := 9, code := some k12c4 }
/-- java/util/Arrays -/
def k12 : Class := { plain "java/util/Arrays" (some 0) with
  accessFlags := 49
  interfaces := #[]
  cf := some (fileOf pool12 14 #[.nestMembers #[975, 375, 113, 74]] #[{ accessFlags := 2, nameIndex := 5, descriptorIndex := 6, attributes := #[] }, { accessFlags := 8, nameIndex := 17, descriptorIndex := 18, attributes := #[] }, { accessFlags := 9, nameIndex := 298, descriptorIndex := 831, attributes := #[] }, { accessFlags := 9, nameIndex := 302, descriptorIndex := 869, attributes := #[] }, { accessFlags := 9, nameIndex := 302, descriptorIndex := 871, attributes := #[] }] 49 2 #[] #[{ accessFlags := 26, nameIndex := 715, descriptorIndex := 716, attributes := #[] }, { accessFlags := 26, nameIndex := 719, descriptorIndex := 716, attributes := #[] }, { accessFlags := 4120, nameIndex := 445, descriptorIndex := 117, attributes := #[] }])
  fields := #[{ name := "MIN_ARRAY_SORT_GRAN", type := .int, accessFlags := 26, slot := 0, constantValue := 0 }, { name := "INSERTIONSORT_THRESHOLD", type := .int, accessFlags := 26, slot := 1, constantValue := 0 }, { name := "$assertionsDisabled", type := .boolean, accessFlags := 4120, slot := 2, constantValue := 0 }]
  methods := #[k12m0, k12m1, k12m2, k12m3, k12m4]
  instanceTypes := #[]
  staticTypes := #[.int, .int, .boolean]
  resolved := Array.replicate 1029 none
  statics := none }

def pool13 : Array CpInfo := pool [(1, .fieldref 2 3), (0, .class_ 4), (0, .nameAndType 5 6), (0, u "com/example/deft_nets/deftnets/MarkingStore$Entries"), (0, u "this$0"), (0, u "Lcom/example/deft_nets/deftnets/MarkingStore;"), (0, .methodref 8 9), (0, .class_ 10), (0, .nameAndType 11 12), (0, u "java/lang/Object"), (0, u "<init>"), (0, u "()V"), (0, .long 18446744073709551615), (1, .fieldref 2 16), (0, .nameAndType 17 18), (0, u "mPlace"), (0, u "J"), (0, .fieldref 20 21), (0, .class_ 22), (0, .nameAndType 23 24), (0, u "com/example/deft_nets/deftnets/MarkingStore"), (0, u "mStart"), (0, u "[I"), (0, .fieldref 2 26), (0, .nameAndType 27 28), (0, u "mAt"), (0, u "I"), (0, .fieldref 2 30), (0, .nameAndType 31 28), (0, u "mEnd"), (0, .methodref 2 33), (0, .nameAndType 34 35), (0, u "readNumber"), (0, u "()J"), (0, .fieldref 2 37), (0, .nameAndType 38 28), (0, u "mCount"), (0, .fieldref 20 40), (0, .nameAndType 41 42), (0, u "mPool"), (0, u "[B"), (0, u "(Lcom/example/deft_nets/deftnets/MarkingStore;I)V"), (3, u "next"), (0, u "()Z")] 6

def k13c0 : Code := { maxStack := 4, maxLocals := 3, code := prog_32_method_1_code, exceptionTable := #[], attributes := #[] }
def k13m0 : Method := { name := "<init>", desc := "(Lcom/example/deft_nets/deftnets/MarkingStore;I)V", sig := { parameters := [(.object "com/example/deft_nets/deftnets/MarkingStore"), .int], returnType := none }, accessFlags := 0, code := some k13c0 }
def k13c1 : Code := { maxStack := 8, maxLocals := 3, code := prog_32_method_2_code, exceptionTable := #[], attributes := #[] }
def k13m1 : Method := { name := "next", desc := "()Z", sig := { parameters := [], returnType := some .boolean }, accessFlags := 0, code := some k13c1 }
def k13c2 : Code := { maxStack := 5, maxLocals := 5, code := prog_32_method_3_code, exceptionTable := #[], attributes := #[] }
def k13m2 : Method := { name := "readNumber", desc := "()J", sig := { parameters := [], returnType := some .long }, accessFlags := 2, code := some k13c2 }
/-- com/example/deft_nets/deftnets/MarkingStore$Entries -/
def k13 : Class := { plain "com/example/deft_nets/deftnets/MarkingStore$Entries" (some 0) with
  accessFlags := 32
  interfaces := #[]
  cf := some (fileOf pool13 2 #[.nestHost 20] #[{ accessFlags := 0, nameIndex := 11, descriptorIndex := 43, attributes := #[] }, { accessFlags := 0, nameIndex := 47, descriptorIndex := 48, attributes := #[] }, { accessFlags := 2, nameIndex := 34, descriptorIndex := 35, attributes := #[] }] 32 8 #[] #[{ accessFlags := 2, nameIndex := 27, descriptorIndex := 28, attributes := #[] }, { accessFlags := 18, nameIndex := 31, descriptorIndex := 28, attributes := #[] }, { accessFlags := 2, nameIndex := 17, descriptorIndex := 18, attributes := #[] }, { accessFlags := 2, nameIndex := 38, descriptorIndex := 28, attributes := #[] }, { accessFlags := 4112, nameIndex := 5, descriptorIndex := 6, attributes := #[] }])
  fields := #[{ name := "mAt", type := .int, accessFlags := 2, slot := 0, constantValue := 0 }, { name := "mEnd", type := .int, accessFlags := 18, slot := 1, constantValue := 0 }, { name := "mPlace", type := .long, accessFlags := 2, slot := 2, constantValue := 0 }, { name := "mCount", type := .int, accessFlags := 2, slot := 3, constantValue := 0 }, { name := "this$0", type := (.object "com/example/deft_nets/deftnets/MarkingStore"), accessFlags := 4112, slot := 4, constantValue := 0 }]
  methods := #[k13m0, k13m1, k13m2]
  instanceTypes := #[.int, .int, .long, .int, (.object "com/example/deft_nets/deftnets/MarkingStore")]
  staticTypes := #[]
  resolved := Array.replicate 55 none
  statics := none }

def pool14 : Array CpInfo := pool [(9, u "<init>"), (6, .class_ 18), (1, u "java/lang/Object"), (0, u "()V"), (1, .class_ 23), (1, u "jdk/internal/util/ArraysSupport"), (0, u "LOG2_ARRAY_LONG_INDEX_SCALE"), (0, u "I"), (2, u "U"), (0, u "Ljdk/internal/misc/Unsafe;"), (8, u "BIG_ENDIAN"), (0, u "Z"), (8, u "LOG2_BYTE_BIT_SIZE"), (4, u "LOG2_ARRAY_INT_INDEX_SCALE"), (54, u "JLA"), (0, u "Ljdk/internal/access/JavaLangAccess;"), (11, u "LOG2_ARRAY_BOOLEAN_INDEX_SCALE"), (9, u "LOG2_ARRAY_BYTE_INDEX_SCALE"), (5, u "LOG2_ARRAY_CHAR_INDEX_SCALE"), (5, u "LOG2_ARRAY_SHORT_INDEX_SCALE"), (5, u "mismatch"), (12, u "LOG2_ARRAY_FLOAT_INDEX_SCALE"), (24, u "LOG2_ARRAY_DOUBLE_INDEX_SCALE"), (89, u "T_BOOLEAN"), (2, u "T_CHAR"), (1, u "T_FLOAT"), (1, u "T_DOUBLE"), (1, u "T_BYTE"), (1, u "T_SHORT"), (1, u "T_INT"), (1, u "T_LONG"), (1, u "SOFT_MAX_ARRAY_LENGTH"), (42, u "([BI[BII)I")] 40

def k14m0 : Method := { name := "<init>", desc := "()V", sig := { parameters := [], returnType := none }, accessFlags := 2, code := none }
def k14c1 : Code := { maxStack := 8, maxLocals := 8, code := jdk_48_method_14_code, exceptionTable := #[], attributes := #[] }
def k14m1 : Method := { name := "mismatch", desc := "([BI[BII)I", sig := { parameters := [(.array .byte), .int, (.array .byte), .int, .int], returnType := some .int }, accessFlags := 9, code := some k14c1 }
/-- jdk/internal/util/ArraysSupport -/
def k14 : Class := { plain "jdk/internal/util/ArraysSupport" (some 0) with
  accessFlags := 33
  interfaces := #[]
  cf := some (fileOf pool14 21 #[] #[{ accessFlags := 2, nameIndex := 9, descriptorIndex := 19, attributes := #[] }, { accessFlags := 9, nameIndex := 149, descriptorIndex := 337, attributes := #[] }] 33 16 #[] #[{ accessFlags := 24, nameIndex := 28, descriptorIndex := 29, attributes := #[] }, { accessFlags := 26, nameIndex := 38, descriptorIndex := 39, attributes := #[] }, { accessFlags := 25, nameIndex := 121, descriptorIndex := 25, attributes := #[] }, { accessFlags := 25, nameIndex := 131, descriptorIndex := 25, attributes := #[] }, { accessFlags := 25, nameIndex := 137, descriptorIndex := 25, attributes := #[] }, { accessFlags := 25, nameIndex := 143, descriptorIndex := 25, attributes := #[] }, { accessFlags := 25, nameIndex := 53, descriptorIndex := 25, attributes := #[] }, { accessFlags := 25, nameIndex := 24, descriptorIndex := 25, attributes := #[] }, { accessFlags := 25, nameIndex := 162, descriptorIndex := 25, attributes := #[] }, { accessFlags := 25, nameIndex := 187, descriptorIndex := 25, attributes := #[] }, { accessFlags := 26, nameIndex := 48, descriptorIndex := 25, attributes := #[] }, { accessFlags := 25, nameIndex := 277, descriptorIndex := 25, attributes := #[] }, { accessFlags := 25, nameIndex := 280, descriptorIndex := 25, attributes := #[] }, { accessFlags := 25, nameIndex := 282, descriptorIndex := 25, attributes := #[] }, { accessFlags := 25, nameIndex := 284, descriptorIndex := 25, attributes := #[] }, { accessFlags := 25, nameIndex := 286, descriptorIndex := 25, attributes := #[] }, { accessFlags := 25, nameIndex := 288, descriptorIndex := 25, attributes := #[] }, { accessFlags := 25, nameIndex := 290, descriptorIndex := 25, attributes := #[] }, { accessFlags := 25, nameIndex := 292, descriptorIndex := 25, attributes := #[] }, { accessFlags := 26, nameIndex := 108, descriptorIndex := 109, attributes := #[] }, { accessFlags := 25, nameIndex := 294, descriptorIndex := 25, attributes := #[] }])
  fields := #[{ name := "U", type := (.object "jdk/internal/misc/Unsafe"), accessFlags := 24, slot := 0, constantValue := 0 }, { name := "BIG_ENDIAN", type := .boolean, accessFlags := 26, slot := 1, constantValue := 0 }, { name := "LOG2_ARRAY_BOOLEAN_INDEX_SCALE", type := .int, accessFlags := 25, slot := 2, constantValue := 0 }, { name := "LOG2_ARRAY_BYTE_INDEX_SCALE", type := .int, accessFlags := 25, slot := 3, constantValue := 0 }, { name := "LOG2_ARRAY_CHAR_INDEX_SCALE", type := .int, accessFlags := 25, slot := 4, constantValue := 0 }, { name := "LOG2_ARRAY_SHORT_INDEX_SCALE", type := .int, accessFlags := 25, slot := 5, constantValue := 0 }, { name := "LOG2_ARRAY_INT_INDEX_SCALE", type := .int, accessFlags := 25, slot := 6, constantValue := 0 }, { name := "LOG2_ARRAY_LONG_INDEX_SCALE", type := .int, accessFlags := 25, slot := 7, constantValue := 0 }, { name := "LOG2_ARRAY_FLOAT_INDEX_SCALE", type := .int, accessFlags := 25, slot := 8, constantValue := 0 }, { name := "LOG2_ARRAY_DOUBLE_INDEX_SCALE", type := .int, accessFlags := 25, slot := 9, constantValue := 0 }, { name := "LOG2_BYTE_BIT_SIZE", type := .int, accessFlags := 26, slot := 10, constantValue := 0 }, { name := "T_BOOLEAN", type := .int, accessFlags := 25, slot := 11, constantValue := 0 }, { name := "T_CHAR", type := .int, accessFlags := 25, slot := 12, constantValue := 0 }, { name := "T_FLOAT", type := .int, accessFlags := 25, slot := 13, constantValue := 0 }, { name := "T_DOUBLE", type := .int, accessFlags := 25, slot := 14, constantValue := 0 }, { name := "T_BYTE", type := .int, accessFlags := 25, slot := 15, constantValue := 0 }, { name := "T_SHORT", type := .int, accessFlags := 25, slot := 16, constantValue := 0 }, { name := "T_INT", type := .int, accessFlags := 25, slot := 17, constantValue := 0 }, { name := "T_LONG", type := .int, accessFlags := 25, slot := 18, constantValue := 0 }, { name := "JLA", type := (.object "jdk/internal/access/JavaLangAccess"), accessFlags := 26, slot := 19, constantValue := 0 }, { name := "SOFT_MAX_ARRAY_LENGTH", type := .int, accessFlags := 25, slot := 20, constantValue := 0 }]
  methods := #[k14m0, k14m1]
  instanceTypes := #[]
  staticTypes := #[(.object "jdk/internal/misc/Unsafe"), .boolean, .int, .int, .int, .int, .int, .int, .int, .int, .int, .int, .int, .int, .int, .int, .int, .int, .int, (.object "jdk/internal/access/JavaLangAccess"), .int]
  resolved := Array.replicate 378 none
  statics := none }

def pool15 : Array CpInfo := pool [(1, u "java/lang/Cloneable"), (0, .class_ 1), (0, u "java/lang/Object"), (0, .class_ 3)] 3

/-- java/lang/Cloneable -/
def k15 : Class := { plain "java/lang/Cloneable" (some 0) with
  accessFlags := 1537
  interfaces := #[]
  cf := some (fileOf pool15 2 #[] #[] 1537 4 #[] #[])
  fields := #[]
  methods := #[]
  instanceTypes := #[]
  staticTypes := #[]
  resolved := Array.replicate 8 none
  statics := none }

/-- the primitive byte -/
def k16 : Class := { plain "byte" none with kind := .primitive 'B', accessFlags := 0x411 }
/-- [B -/
def k17 : Class := { plain "[B" (some 0) with kind := .array 16 .byte, interfaces := #[15, 5], accessFlags := 1041 }

/-- the primitive int -/
def k18 : Class := { plain "int" none with kind := .primitive 'I', accessFlags := 0x411 }
/-- [I -/
def k19 : Class := { plain "[I" (some 0) with kind := .array 18 .int, interfaces := #[15, 5], accessFlags := 1041 }

/-- the primitive long -/
def k20 : Class := { plain "long" none with kind := .primitive 'J', accessFlags := 0x411 }
/-- [J -/
def k21 : Class := { plain "[J" (some 0) with kind := .array 20 .long, interfaces := #[15, 5], accessFlags := 1041 }

def heap : Heap := #[]
def classes : Array Class := #[k0, k1, k2, k3, k4, k5, k6, k7, k8, k9, k10, k11, k12, k13, k14, k15, k16, k17, k18, k19, k20, k21]
def interned : List (Array UInt16 × Addr) := []
def slotsUsed : Nat := 0
def theMethod : MethodId := ⟨1, 1⟩
def args0 : Array Value := #[.long 5, .long 5, .int 5, .int 5, .int 5]
def aboutOver (below : List Frame) : State where
  vm := { classes := classes, interned := interned.toArray }
  heap := heap
  slotsUsed := slotsUsed
  threads := #[{ frames := .invoking theMethod args0 :: below }]
def below0 : List Frame := [.native { method := ⟨0, 0⟩, args := #[] }]
def about1 : State := aboutOver below0
def p0 : Program := .bare "" "" ""
def e0 : Env := launch0.env 0 0 0
theorem w_frames : about1.frames = Frame.invoking theMethod args0 :: below0 := rfl
set_option maxRecDepth 65536 in
theorem w_args : argsFit about1.vm theMethod args0 = true := by decide +kernel
set_option maxRecDepth 65536 in
theorem w_heap : heapFits about1 = true := by decide +kernel
set_option maxRecDepth 65536 in
theorem w_runnable : about1.curStatus? = some .runnable := by decide +kernel
set_option maxRecDepth 65536 in
theorem w_alone : about1.alone = true := by decide +kernel
set_option maxRecDepth 65536 in
theorem w_named : about1.methodNamed? x = some theMethod := by decide +kernel
set_option maxRecDepth 65536 in
theorem w_hears : about1.hears theMethod below0 = true := by decide +kernel
set_option maxRecDepth 65536 in
theorem w_ripe : about1.ripe theMethod args0 below0 = true := by decide +kernel
theorem w_running : about1.status = .running := rfl
set_option maxRecDepth 65536 in
theorem w_room : about1.hasRoom e0.platform room_1 = true :=
  launch0.hasRoom_least _ room_1 (by decide +kernel) (by decide +kernel) (by decide +kernel) (by decide +kernel) (by decide +kernel) (by decide +kernel)
theorem allAtoms_all (ts : List Jvm.Cond) (a : Array Jvm.Value) (st : Jvm.State) : (allAtoms ts).before a st = ts.all (fun c => c.before a st) := by
  induction ts with
  | nil => rfl
  | cons c t ih =>
    show (Jvm.Cond.and c (allAtoms t)).before a st = _
    rw [Jvm.Cond.before_and, ih, List.all_cons]
def words1 : List Jvm.Cond := Jvm.Cond.code x code maxLocals ret :: tables_1
/-- a 'code' word, met by the world's own term for the bytes: nothing is compared byte by byte -/
theorem code_word {y : MethodName} {bytes : ByteArray} {mx : Nat} {rt : Option FieldType} {a : Array Value} {s : State} {m : MethodId} {meth : Method} {c : Code} (h1 : s.methodNamed? y = some m) (h2 : s.vm.method? m = some meth) (h3 : meth.code = some c) (h4 : c.code = bytes)
    (h5 : (c.maxLocals == mx && c.exceptionTable.isEmpty && decide (c.maxStack ≤ mostOperands) && decide (meth.sig.returnType = rt) && !meth.locks && decide (parseMethodDescriptor y.desc = some meth.sig)) = true) : (Jvm.Cond.code y bytes mx rt).before a s = true := by
  simp only [Bool.and_eq_true, beq_iff_eq, Bool.not_eq_true', decide_eq_true_eq] at h5
  obtain ⟨⟨⟨⟨⟨g1, g2⟩, g3⟩, g4⟩, g5⟩, g6⟩ := h5
  simp [Cond.before, Cond.holds, Cond.value, h1, h2, h3, h4, g1, g2, g3, g4, g5, g6]
def isCode : Jvm.Cond → Bool
  | .code _ _ _ _ => true
  | _ => false
theorem all_split {L : List Jvm.Cond} {P : Jvm.Cond → Bool} (h1 : L.all (fun c => isCode c || P c) = true) (h2 : ∀ c ∈ L.filter isCode, P c = true) : L.all P = true := by
  refine List.all_eq_true.mpr fun c hc => ?_
  have h := List.all_eq_true.mp h1 c hc
  rcases Bool.eq_false_or_eq_true (isCode c) with hi | hi
  · exact h2 c (List.mem_filter.mpr ⟨hc, hi⟩)
  · simpa [hi] using h
set_option maxRecDepth 65536 in
theorem w_c0 : (Jvm.Cond.code x code maxLocals ret).before args0 about1 = true := code_word (m := ⟨1, 1⟩) (meth := k1m1) (c := k1c1) (by decide +kernel) rfl rfl rfl (by decide +kernel)
set_option maxRecDepth 65536 in
theorem w_c1 : (Jvm.Cond.code ({ cls := "java/lang/Math", name := "max", desc := "(II)I" } : Jvm.MethodName) jdk_29_method_65_code (2 : Nat) (Option.some Jvm.ClassFile.FieldType.int)).before args0 about1 = true := code_word (m := ⟨2, 2⟩) (meth := k2m2) (c := k2c2) (by decide +kernel) rfl rfl rfl (by decide +kernel)
set_option maxRecDepth 65536 in
theorem w_c2 : (Jvm.Cond.code ({ cls := "com/example/deft_nets/deftnets/MemoryBudget", name := "<init>", desc := "(JLjava/lang/String;)V" } : Jvm.MethodName) prog_34_method_1_code (4 : Nat) (Option.none : Option Jvm.ClassFile.FieldType)).before args0 about1 = true := code_word (m := ⟨4, 0⟩) (meth := k4m0) (c := k4c0) (by decide +kernel) rfl rfl rfl (by decide +kernel)
set_option maxRecDepth 65536 in
theorem w_c3 : (Jvm.Cond.code ({ cls := "java/lang/Object", name := "<init>", desc := "()V" } : Jvm.MethodName) object_method_1_code (1 : Nat) (Option.none : Option Jvm.ClassFile.FieldType)).before args0 about1 = true := code_word (m := ⟨0, 0⟩) (meth := k0m0) (c := k0c0) (by decide +kernel) rfl rfl rfl (by decide +kernel)
set_option maxRecDepth 65536 in
theorem w_c4 : (Jvm.Cond.code ({ cls := "com/example/deft_nets/deftnets/MarkingStore", name := "<init>", desc := "(Lcom/example/deft_nets/deftnets/MemoryBudget;)V" } : Jvm.MethodName) prog_31_method_1_code (2 : Nat) (Option.none : Option Jvm.ClassFile.FieldType)).before args0 about1 = true := code_word (m := ⟨3, 0⟩) (meth := k3m0) (c := k3c0) (by decide +kernel) rfl rfl rfl (by decide +kernel)
set_option maxRecDepth 65536 in
theorem w_c5 : (Jvm.Cond.code ({ cls := "com/example/deft_nets/deftnets/MarkingStore", name := "add", desc := "([J[II)I" } : Jvm.MethodName) prog_31_method_4_code (5 : Nat) (Option.some Jvm.ClassFile.FieldType.int)).before args0 about1 = true := code_word (m := ⟨3, 1⟩) (meth := k3m1) (c := k3c1) (by decide +kernel) rfl rfl rfl (by decide +kernel)
set_option maxRecDepth 65536 in
theorem w_c6 : (Jvm.Cond.code ({ cls := "com/example/deft_nets/deftnets/MarkingStore", name := "startEncoding", desc := "(I)V" } : Jvm.MethodName) prog_31_method_11_code (2 : Nat) (Option.none : Option Jvm.ClassFile.FieldType)).before args0 about1 = true := code_word (m := ⟨3, 4⟩) (meth := k3m4) (c := k3c4) (by decide +kernel) rfl rfl rfl (by decide +kernel)
set_option maxRecDepth 65536 in
theorem w_c7 : (Jvm.Cond.code ({ cls := "com/example/deft_nets/deftnets/MarkingStore", name := "addEncoded", desc := "()I" } : Jvm.MethodName) prog_31_method_5_code (5 : Nat) (Option.some Jvm.ClassFile.FieldType.int)).before args0 about1 = true := code_word (m := ⟨3, 2⟩) (meth := k3m2) (c := k3c2) (by decide +kernel) rfl rfl rfl (by decide +kernel)
set_option maxRecDepth 65536 in
theorem w_c8 : (Jvm.Cond.code ({ cls := "com/example/deft_nets/deftnets/MarkingStore", name := "hashOfEncoded", desc := "()I" } : Jvm.MethodName) prog_31_method_14_code (3 : Nat) (Option.some Jvm.ClassFile.FieldType.int)).before args0 about1 = true := code_word (m := ⟨3, 7⟩) (meth := k3m7) (c := k3c7) (by decide +kernel) rfl rfl rfl (by decide +kernel)
set_option maxRecDepth 65536 in
theorem w_c9 : (Jvm.Cond.code ({ cls := "com/example/deft_nets/deftnets/MarkingStore", name := "rehash", desc := "()V" } : Jvm.MethodName) prog_31_method_15_code (5 : Nat) (Option.none : Option Jvm.ClassFile.FieldType)).before args0 about1 = true := code_word (m := ⟨3, 8⟩) (meth := k3m8) (c := k3c8) (by decide +kernel) rfl rfl rfl (by decide +kernel)
set_option maxRecDepth 65536 in
theorem w_c10 : (Jvm.Cond.code ({ cls := "java/lang/Math", name := "max", desc := "(JJ)J" } : Jvm.MethodName) jdk_29_method_66_code (4 : Nat) (Option.some Jvm.ClassFile.FieldType.long)).before args0 about1 = true := code_word (m := ⟨2, 3⟩) (meth := k2m3) (c := k2c3) (by decide +kernel) rfl rfl rfl (by decide +kernel)
set_option maxRecDepth 65536 in
theorem w_c11 : (Jvm.Cond.code ({ cls := "com/example/deft_nets/deftnets/MemoryBudget", name := "replace", desc := "([IJ)[I" } : Jvm.MethodName) prog_34_method_6_code (4 : Nat) (Option.some (Jvm.ClassFile.FieldType.array Jvm.ClassFile.FieldType.int))).before args0 about1 = true := code_word (m := ⟨4, 3⟩) (meth := k4m3) (c := k4c3) (by decide +kernel) rfl rfl rfl (by decide +kernel)
set_option maxRecDepth 65536 in
theorem w_c12 : (Jvm.Cond.code ({ cls := "com/example/deft_nets/deftnets/MemoryBudget", name := "grow", desc := "([BJ)[B" } : Jvm.MethodName) prog_34_method_5_code (4 : Nat) (Option.some (Jvm.ClassFile.FieldType.array Jvm.ClassFile.FieldType.byte))).before args0 about1 = true := code_word (m := ⟨4, 2⟩) (meth := k4m2) (c := k4c2) (by decide +kernel) rfl rfl rfl (by decide +kernel)
set_option maxRecDepth 65536 in
theorem w_c13 : (Jvm.Cond.code ({ cls := "com/example/deft_nets/deftnets/MemoryBudget", name := "grow", desc := "([IJ)[I" } : Jvm.MethodName) prog_34_method_3_code (4 : Nat) (Option.some (Jvm.ClassFile.FieldType.array Jvm.ClassFile.FieldType.int))).before args0 about1 = true := code_word (m := ⟨4, 1⟩) (meth := k4m1) (c := k4c1) (by decide +kernel) rfl rfl rfl (by decide +kernel)
set_option maxRecDepth 65536 in
theorem w_c14 : (Jvm.Cond.code ({ cls := "com/example/deft_nets/deftnets/MemoryBudget", name := "take", desc := "(IJI)I" } : Jvm.MethodName) prog_34_method_9_code (9 : Nat) (Option.some Jvm.ClassFile.FieldType.int)).before args0 about1 = true := code_word (m := ⟨4, 4⟩) (meth := k4m4) (c := k4c4) (by decide +kernel) rfl rfl rfl (by decide +kernel)
set_option maxRecDepth 65536 in
theorem w_c15 : (Jvm.Cond.code ({ cls := "java/lang/Math", name := "min", desc := "(JJ)J" } : Jvm.MethodName) jdk_29_method_70_code (4 : Nat) (Option.some Jvm.ClassFile.FieldType.long)).before args0 about1 = true := code_word (m := ⟨2, 5⟩) (meth := k2m5) (c := k2c5) (by decide +kernel) rfl rfl rfl (by decide +kernel)
set_option maxRecDepth 65536 in
theorem w_c16 : (Jvm.Cond.code ({ cls := "java/util/Arrays", name := "copyOf", desc := "([II)[I" } : Jvm.MethodName) jdk_65_method_123_code (3 : Nat) (Option.some (Jvm.ClassFile.FieldType.array Jvm.ClassFile.FieldType.int))).before args0 about1 = true := code_word (m := ⟨12, 4⟩) (meth := k12m4) (c := k12c4) (by decide +kernel) rfl rfl rfl (by decide +kernel)
set_option maxRecDepth 65536 in
theorem w_c17 : (Jvm.Cond.code ({ cls := "java/lang/Math", name := "min", desc := "(II)I" } : Jvm.MethodName) jdk_29_method_69_code (2 : Nat) (Option.some Jvm.ClassFile.FieldType.int)).before args0 about1 = true := code_word (m := ⟨2, 4⟩) (meth := k2m4) (c := k2c4) (by decide +kernel) rfl rfl rfl (by decide +kernel)
set_option maxRecDepth 65536 in
theorem w_c18 : (Jvm.Cond.code ({ cls := "java/lang/Math", name := "toIntExact", desc := "(J)I" } : Jvm.MethodName) jdk_29_method_43_code (2 : Nat) (Option.some Jvm.ClassFile.FieldType.int)).before args0 about1 = true := code_word (m := ⟨2, 1⟩) (meth := k2m1) (c := k2c1) (by decide +kernel) rfl rfl rfl (by decide +kernel)
set_option maxRecDepth 65536 in
theorem w_c19 : (Jvm.Cond.code ({ cls := "com/example/deft_nets/deftnets/MarkingStore", name := "encodeEntry", desc := "(JI)V" } : Jvm.MethodName) prog_31_method_12_code (4 : Nat) (Option.none : Option Jvm.ClassFile.FieldType)).before args0 about1 = true := code_word (m := ⟨3, 5⟩) (meth := k3m5) (c := k3c5) (by decide +kernel) rfl rfl rfl (by decide +kernel)
set_option maxRecDepth 65536 in
theorem w_c20 : (Jvm.Cond.code ({ cls := "com/example/deft_nets/deftnets/MarkingStore", name := "writeNumber", desc := "(JI)I" } : Jvm.MethodName) prog_31_method_13_code (6 : Nat) (Option.some Jvm.ClassFile.FieldType.int)).before args0 about1 = true := code_word (m := ⟨3, 6⟩) (meth := k3m6) (c := k3c6) (by decide +kernel) rfl rfl rfl (by decide +kernel)
set_option maxRecDepth 65536 in
theorem w_c21 : (Jvm.Cond.code ({ cls := "java/util/Arrays", name := "copyOf", desc := "([BI)[B" } : Jvm.MethodName) jdk_65_method_121_code (3 : Nat) (Option.some (Jvm.ClassFile.FieldType.array Jvm.ClassFile.FieldType.byte))).before args0 about1 = true := code_word (m := ⟨12, 3⟩) (meth := k12m3) (c := k12c3) (by decide +kernel) rfl rfl rfl (by decide +kernel)
set_option maxRecDepth 65536 in
theorem w_c22 : (Jvm.Cond.code ({ cls := "com/example/deft_nets/deftnets/MarkingStore", name := "decode", desc := "(I[J[I)V" } : Jvm.MethodName) prog_31_method_7_code (6 : Nat) (Option.none : Option Jvm.ClassFile.FieldType)).before args0 about1 = true := code_word (m := ⟨3, 3⟩) (meth := k3m3) (c := k3c3) (by decide +kernel) rfl rfl rfl (by decide +kernel)
set_option maxRecDepth 65536 in
theorem w_c23 : (Jvm.Cond.code ({ cls := "com/example/deft_nets/deftnets/MarkingStore$Entries", name := "<init>", desc := "(Lcom/example/deft_nets/deftnets/MarkingStore;I)V" } : Jvm.MethodName) prog_32_method_1_code (3 : Nat) (Option.none : Option Jvm.ClassFile.FieldType)).before args0 about1 = true := code_word (m := ⟨13, 0⟩) (meth := k13m0) (c := k13c0) (by decide +kernel) rfl rfl rfl (by decide +kernel)
set_option maxRecDepth 65536 in
theorem w_c24 : (Jvm.Cond.code ({ cls := "com/example/deft_nets/deftnets/MarkingStore$Entries", name := "next", desc := "()Z" } : Jvm.MethodName) prog_32_method_2_code (3 : Nat) (Option.some Jvm.ClassFile.FieldType.boolean)).before args0 about1 = true := code_word (m := ⟨13, 1⟩) (meth := k13m1) (c := k13c1) (by decide +kernel) rfl rfl rfl (by decide +kernel)
set_option maxRecDepth 65536 in
theorem w_c25 : (Jvm.Cond.code ({ cls := "com/example/deft_nets/deftnets/MarkingStore$Entries", name := "readNumber", desc := "()J" } : Jvm.MethodName) prog_32_method_3_code (5 : Nat) (Option.some Jvm.ClassFile.FieldType.long)).before args0 about1 = true := code_word (m := ⟨13, 2⟩) (meth := k13m2) (c := k13c2) (by decide +kernel) rfl rfl rfl (by decide +kernel)
set_option maxRecDepth 65536 in
theorem w_c26 : (Jvm.Cond.code ({ cls := "java/util/Arrays", name := "equals", desc := "([BII[BII)Z" } : Jvm.MethodName) jdk_65_method_90_code (8 : Nat) (Option.some Jvm.ClassFile.FieldType.boolean)).before args0 about1 = true := code_word (m := ⟨12, 2⟩) (meth := k12m2) (c := k12c2) (by decide +kernel) rfl rfl rfl (by decide +kernel)
set_option maxRecDepth 65536 in
theorem w_c27 : (Jvm.Cond.code ({ cls := "java/util/Arrays", name := "rangeCheck", desc := "(III)V" } : Jvm.MethodName) jdk_65_method_30_code (3 : Nat) (Option.none : Option Jvm.ClassFile.FieldType)).before args0 about1 = true := code_word (m := ⟨12, 1⟩) (meth := k12m1) (c := k12c1) (by decide +kernel) rfl rfl rfl (by decide +kernel)
set_option maxRecDepth 65536 in
theorem w_c28 : (Jvm.Cond.code ({ cls := "jdk/internal/util/ArraysSupport", name := "mismatch", desc := "([BI[BII)I" } : Jvm.MethodName) jdk_48_method_14_code (8 : Nat) (Option.some Jvm.ClassFile.FieldType.int)).before args0 about1 = true := code_word (m := ⟨14, 1⟩) (meth := k14m1) (c := k14c1) (by decide +kernel) rfl rfl rfl (by decide +kernel)
def codes1 : List Jvm.Cond := [Jvm.Cond.code x code maxLocals ret, Jvm.Cond.code ({ cls := "java/lang/Math", name := "max", desc := "(II)I" } : Jvm.MethodName) jdk_29_method_65_code (2 : Nat) (Option.some Jvm.ClassFile.FieldType.int), Jvm.Cond.code ({ cls := "com/example/deft_nets/deftnets/MemoryBudget", name := "<init>", desc := "(JLjava/lang/String;)V" } : Jvm.MethodName) prog_34_method_1_code (4 : Nat) (Option.none : Option Jvm.ClassFile.FieldType), Jvm.Cond.code ({ cls := "java/lang/Object", name := "<init>", desc := "()V" } : Jvm.MethodName) object_method_1_code (1 : Nat) (Option.none : Option Jvm.ClassFile.FieldType), Jvm.Cond.code ({ cls := "com/example/deft_nets/deftnets/MarkingStore", name := "<init>", desc := "(Lcom/example/deft_nets/deftnets/MemoryBudget;)V" } : Jvm.MethodName) prog_31_method_1_code (2 : Nat) (Option.none : Option Jvm.ClassFile.FieldType), Jvm.Cond.code ({ cls := "com/example/deft_nets/deftnets/MarkingStore", name := "add", desc := "([J[II)I" } : Jvm.MethodName) prog_31_method_4_code (5 : Nat) (Option.some Jvm.ClassFile.FieldType.int), Jvm.Cond.code ({ cls := "com/example/deft_nets/deftnets/MarkingStore", name := "startEncoding", desc := "(I)V" } : Jvm.MethodName) prog_31_method_11_code (2 : Nat) (Option.none : Option Jvm.ClassFile.FieldType), Jvm.Cond.code ({ cls := "com/example/deft_nets/deftnets/MarkingStore", name := "addEncoded", desc := "()I" } : Jvm.MethodName) prog_31_method_5_code (5 : Nat) (Option.some Jvm.ClassFile.FieldType.int), Jvm.Cond.code ({ cls := "com/example/deft_nets/deftnets/MarkingStore", name := "hashOfEncoded", desc := "()I" } : Jvm.MethodName) prog_31_method_14_code (3 : Nat) (Option.some Jvm.ClassFile.FieldType.int), Jvm.Cond.code ({ cls := "com/example/deft_nets/deftnets/MarkingStore", name := "rehash", desc := "()V" } : Jvm.MethodName) prog_31_method_15_code (5 : Nat) (Option.none : Option Jvm.ClassFile.FieldType), Jvm.Cond.code ({ cls := "java/lang/Math", name := "max", desc := "(JJ)J" } : Jvm.MethodName) jdk_29_method_66_code (4 : Nat) (Option.some Jvm.ClassFile.FieldType.long), Jvm.Cond.code ({ cls := "com/example/deft_nets/deftnets/MemoryBudget", name := "replace", desc := "([IJ)[I" } : Jvm.MethodName) prog_34_method_6_code (4 : Nat) (Option.some (Jvm.ClassFile.FieldType.array Jvm.ClassFile.FieldType.int)), Jvm.Cond.code ({ cls := "com/example/deft_nets/deftnets/MemoryBudget", name := "grow", desc := "([BJ)[B" } : Jvm.MethodName) prog_34_method_5_code (4 : Nat) (Option.some (Jvm.ClassFile.FieldType.array Jvm.ClassFile.FieldType.byte)), Jvm.Cond.code ({ cls := "com/example/deft_nets/deftnets/MemoryBudget", name := "grow", desc := "([IJ)[I" } : Jvm.MethodName) prog_34_method_3_code (4 : Nat) (Option.some (Jvm.ClassFile.FieldType.array Jvm.ClassFile.FieldType.int)), Jvm.Cond.code ({ cls := "com/example/deft_nets/deftnets/MemoryBudget", name := "take", desc := "(IJI)I" } : Jvm.MethodName) prog_34_method_9_code (9 : Nat) (Option.some Jvm.ClassFile.FieldType.int), Jvm.Cond.code ({ cls := "java/lang/Math", name := "min", desc := "(JJ)J" } : Jvm.MethodName) jdk_29_method_70_code (4 : Nat) (Option.some Jvm.ClassFile.FieldType.long), Jvm.Cond.code ({ cls := "java/util/Arrays", name := "copyOf", desc := "([II)[I" } : Jvm.MethodName) jdk_65_method_123_code (3 : Nat) (Option.some (Jvm.ClassFile.FieldType.array Jvm.ClassFile.FieldType.int)), Jvm.Cond.code ({ cls := "java/lang/Math", name := "min", desc := "(II)I" } : Jvm.MethodName) jdk_29_method_69_code (2 : Nat) (Option.some Jvm.ClassFile.FieldType.int), Jvm.Cond.code ({ cls := "java/lang/Math", name := "toIntExact", desc := "(J)I" } : Jvm.MethodName) jdk_29_method_43_code (2 : Nat) (Option.some Jvm.ClassFile.FieldType.int), Jvm.Cond.code ({ cls := "com/example/deft_nets/deftnets/MarkingStore", name := "encodeEntry", desc := "(JI)V" } : Jvm.MethodName) prog_31_method_12_code (4 : Nat) (Option.none : Option Jvm.ClassFile.FieldType), Jvm.Cond.code ({ cls := "com/example/deft_nets/deftnets/MarkingStore", name := "writeNumber", desc := "(JI)I" } : Jvm.MethodName) prog_31_method_13_code (6 : Nat) (Option.some Jvm.ClassFile.FieldType.int), Jvm.Cond.code ({ cls := "java/util/Arrays", name := "copyOf", desc := "([BI)[B" } : Jvm.MethodName) jdk_65_method_121_code (3 : Nat) (Option.some (Jvm.ClassFile.FieldType.array Jvm.ClassFile.FieldType.byte)), Jvm.Cond.code ({ cls := "com/example/deft_nets/deftnets/MarkingStore", name := "decode", desc := "(I[J[I)V" } : Jvm.MethodName) prog_31_method_7_code (6 : Nat) (Option.none : Option Jvm.ClassFile.FieldType), Jvm.Cond.code ({ cls := "com/example/deft_nets/deftnets/MarkingStore$Entries", name := "<init>", desc := "(Lcom/example/deft_nets/deftnets/MarkingStore;I)V" } : Jvm.MethodName) prog_32_method_1_code (3 : Nat) (Option.none : Option Jvm.ClassFile.FieldType), Jvm.Cond.code ({ cls := "com/example/deft_nets/deftnets/MarkingStore$Entries", name := "next", desc := "()Z" } : Jvm.MethodName) prog_32_method_2_code (3 : Nat) (Option.some Jvm.ClassFile.FieldType.boolean), Jvm.Cond.code ({ cls := "com/example/deft_nets/deftnets/MarkingStore$Entries", name := "readNumber", desc := "()J" } : Jvm.MethodName) prog_32_method_3_code (5 : Nat) (Option.some Jvm.ClassFile.FieldType.long), Jvm.Cond.code ({ cls := "java/util/Arrays", name := "equals", desc := "([BII[BII)Z" } : Jvm.MethodName) jdk_65_method_90_code (8 : Nat) (Option.some Jvm.ClassFile.FieldType.boolean), Jvm.Cond.code ({ cls := "java/util/Arrays", name := "rangeCheck", desc := "(III)V" } : Jvm.MethodName) jdk_65_method_30_code (3 : Nat) (Option.none : Option Jvm.ClassFile.FieldType), Jvm.Cond.code ({ cls := "jdk/internal/util/ArraysSupport", name := "mismatch", desc := "([BI[BII)I" } : Jvm.MethodName) jdk_48_method_14_code (8 : Nat) (Option.some Jvm.ClassFile.FieldType.int)]
set_option maxRecDepth 65536 in
theorem codes_eq : words1.filter isCode = codes1 := rfl
theorem w_codes : ∀ c ∈ words1.filter isCode, c.before args0 about1 = true := by
  rw [codes_eq]
  intro c hc
  simp only [codes1, List.mem_cons, List.not_mem_nil, or_false] at hc
  rcases hc with rfl | rfl | rfl | rfl | rfl | rfl | rfl | rfl | rfl | rfl | rfl | rfl | rfl | rfl | rfl | rfl | rfl | rfl | rfl | rfl | rfl | rfl | rfl | rfl | rfl | rfl | rfl | rfl | rfl
  · exact w_c0
  · exact w_c1
  · exact w_c2
  · exact w_c3
  · exact w_c4
  · exact w_c5
  · exact w_c6
  · exact w_c7
  · exact w_c8
  · exact w_c9
  · exact w_c10
  · exact w_c11
  · exact w_c12
  · exact w_c13
  · exact w_c14
  · exact w_c15
  · exact w_c16
  · exact w_c17
  · exact w_c18
  · exact w_c19
  · exact w_c20
  · exact w_c21
  · exact w_c22
  · exact w_c23
  · exact w_c24
  · exact w_c25
  · exact w_c26
  · exact w_c27
  · exact w_c28
set_option maxRecDepth 65536 in
theorem w_t1 : (words1.take 24).all (fun c => isCode c || c.before args0 about1) = true := by decide +kernel
set_option maxRecDepth 65536 in
theorem w_t2 : ((words1.drop 24).take 24).all (fun c => isCode c || c.before args0 about1) = true := by decide +kernel
set_option maxRecDepth 65536 in
theorem w_t3 : (((words1.drop 24).drop 24).take 24).all (fun c => isCode c || c.before args0 about1) = true := by decide +kernel
set_option maxRecDepth 65536 in
theorem w_t4 : ((((words1.drop 24).drop 24).drop 24).take 24).all (fun c => isCode c || c.before args0 about1) = true := by decide +kernel
set_option maxRecDepth 65536 in
theorem w_t5 : (((((words1.drop 24).drop 24).drop 24).drop 24).take 24).all (fun c => isCode c || c.before args0 about1) = true := by decide +kernel
set_option maxRecDepth 65536 in
theorem w_t6 : ((((((words1.drop 24).drop 24).drop 24).drop 24).drop 24).take 24).all (fun c => isCode c || c.before args0 about1) = true := by decide +kernel
set_option maxRecDepth 65536 in
theorem w_t7 : (((((((words1.drop 24).drop 24).drop 24).drop 24).drop 24).drop 24).take 24).all (fun c => isCode c || c.before args0 about1) = true := by decide +kernel
set_option maxRecDepth 65536 in
theorem w_t8 : (((((((words1.drop 24).drop 24).drop 24).drop 24).drop 24).drop 24).drop 24).all (fun c => isCode c || c.before args0 about1) = true := by decide +kernel
theorem w_tables : (allAtoms (Jvm.Cond.code x code maxLocals ret :: tables_1)).before args0 about1 = true := by
  rw [allAtoms_all]
  show words1.all (fun c => c.before args0 about1) = true
  refine all_split ?_ w_codes
  rw [← List.take_append_drop 24 words1, List.all_append, w_t1, ← List.take_append_drop 24 (words1.drop 24), List.all_append, w_t2, ← List.take_append_drop 24 ((words1.drop 24).drop 24), List.all_append, w_t3, ← List.take_append_drop 24 (((words1.drop 24).drop 24).drop 24), List.all_append, w_t4, ← List.take_append_drop 24 ((((words1.drop 24).drop 24).drop 24).drop 24), List.all_append, w_t5, ← List.take_append_drop 24 (((((words1.drop 24).drop 24).drop 24).drop 24).drop 24), List.all_append, w_t6, ← List.take_append_drop 24 ((((((words1.drop 24).drop 24).drop 24).drop 24).drop 24).drop 24), List.all_append, w_t7, w_t8]
  rfl
set_option maxRecDepth 65536 in
theorem w_case : (Jvm.Cond.and given_1 narrow_1).before args0 about1 = true := by decide +kernel
theorem w_applies : (headSpec (Jvm.Cond.code x code maxLocals ret :: tables_1) room_1).applies x e0.platform about1 = true :=
  (Spec.applies_iff w_frames).mpr ⟨w_running, w_runnable, w_alone, w_named, w_hears, w_ripe, w_room, w_tables⟩
theorem atStart : AtStart classFile x code maxLocals ret World_1 tables_1 room_1 Calls_1 rest_1 Pre_1 launch0 p0 e0 about1 theMethod args0 below0 :=
  ⟨lists_1, trivial, launch0.admits_env _ _ _, launch0.least_env, fairChoices_fair.cas, fairChoices_fair.clock, w_frames, w_args, w_heap, w_applies, trivial, trivial, w_case⟩
end start1
theorem witness_1 : WitnessClaimed_1 := ⟨start1.p0, start1.e0, start1.about1, start1.theMethod, start1.args0, start1.below0, start1.atStart⟩
end Jvm.Pilot.@@N@@
