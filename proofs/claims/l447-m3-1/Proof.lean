import JvmDerived
import JvmDerived.Pilot.@@N@@Statement
import JvmDerived.Pilot.@@N@@Code
set_option linter.unusedVariables false
set_option linter.unusedSimpArgs false
namespace Jvm.Pilot.@@N@@
open Jvm Jvm.ClassFile Sem Op Lib Jvm.Free Jvm.Stand Jvm.LawKit Jvm.RoadKit Bundle Jvm.Pilot.@@N@@.Jvm.D
section Own
variable {p : Program} {l : Launch} {e : Env} {R : Room} {s : State} {m : MethodId} {args : Array Value} {below : List Frame} {meth : Method} {c : Code} {T : State} {locs : List Loc} {cells slots : Nat}
/-- from u the walk comes to its return, with what Q says of value, heap and the places written -/
def Ends (p : Program) (e : Env) (below : List Frame) (s : State) (Q : Option Value → Heap → List Loc → Prop) (kc ks : Nat) (u : State) : Prop :=
  ∃ s₂ o, Steps p.tables e below u s₂ ∧ s₂.status = .running ∧ Ended s₂ below o ∧ ∃ v L, o = .returned v ∧ Q v s₂.heap L ∧ FrameEnd s o s₂ L kc ks
variable {Q : Option Value → Heap → List Loc → Prop} {kc ks : Nat} {u u' : State}
theorem Ends.by (k : Ends p e below s Q kc ks u') (h : ∀ t, Steps p.tables e below u' t → Steps p.tables e below u t) : Ends p e below s Q kc ks u := by
  obtain ⟨s₂, o, h1, r⟩ := k
  exact ⟨s₂, o, h _ h1, r⟩
theorem Ends.go (h : Steps p.tables e below u u') (k : Ends p e below s Q kc ks u') : Ends p e below s Q kc ks u := k.by fun _ q => h.trans q
theorem Ends.retN (X : Stand p l e R s m args below meth c T locs cells slots) (hx : p.tables.exec = Jvm.exec) (hlk : meth.locks = false) {t : FieldType} (hret : meth.sig.returnType = some t) (ht : t = .boolean ∨ t = .byte ∨ t = .char ∨ t = .short) {pc : Nat} {Ls : Array Slot} {z w : Int32} {rest : List Value}
    (hd : decode c.code pc = .ok (.ireturn, 1)) (hz : nar t z = w) (hQ : Q (some (.int w)) T.heap locs) (hc : cells ≤ kc) (hs : slots ≤ ks) : Ends p e below s Q kc ks (T.setTop (mkF m pc Ls (.int z :: rest))) := by
  subst hz
  obtain ⟨fs, hr, hrun, hended, hW, hsame⟩ := X.leave (v := some (.int (nar t z))) (fun h => by rw [hret] at h; cases h) hlk
  exact ⟨_, _, Jvm.RoadKit.retN X hx hret ht hd hr, hrun, hended, _, _, rfl, hQ, ⟨_, rfl⟩, hW, hsame.mono hc hs⟩
theorem Ends.retI (X : Stand p l e R s m args below meth c T locs cells slots) (hx : p.tables.exec = Jvm.exec) (hlk : meth.locks = false) (hret : meth.sig.returnType = some .int) {pc : Nat} {Ls : Array Slot} {z : Int32} {rest : List Value}
    (hd : decode c.code pc = .ok (.ireturn, 1)) (hQ : Q (some (.int z)) T.heap locs) (hc : cells ≤ kc) (hs : slots ≤ ks) : Ends p e below s Q kc ks (T.setTop (mkF m pc Ls (.int z :: rest))) := by
  obtain ⟨fs, hr, hrun, hended, hW, hsame⟩ := X.leave (v := some (.int z)) (fun h => by rw [hret] at h; cases h) hlk
  exact ⟨_, _, Jvm.RoadKit.retOut X hx hret rfl (Or.inl ⟨rfl, by simp, z, rfl⟩) hd hr, hrun, hended, _, _, rfl, hQ, ⟨_, rfl⟩, hW, hsame.mono hc hs⟩
theorem Ends.retJ (X : Stand p l e R s m args below meth c T locs cells slots) (hx : p.tables.exec = Jvm.exec) (hlk : meth.locks = false) (hret : meth.sig.returnType = some .long) {pc : Nat} {Ls : Array Slot} {z : Int64} {rest : List Value}
    (hd : decode c.code pc = .ok (.lreturn, 1)) (hQ : Q (some (.long z)) T.heap locs) (hc : cells ≤ kc) (hs : slots ≤ ks) : Ends p e below s Q kc ks (T.setTop (mkF m pc Ls (.long z :: rest))) := by
  obtain ⟨fs, hr, hrun, hended, hW, hsame⟩ := X.leave (v := some (.long z)) (fun h => by rw [hret] at h; cases h) hlk
  exact ⟨_, _, Jvm.RoadKit.retOut X hx hret rfl (Or.inr (Or.inl ⟨rfl, rfl, z, rfl⟩)) hd hr, hrun, hended, _, _, rfl, hQ, ⟨_, rfl⟩, hW, hsame.mono hc hs⟩
theorem Ends.retA (X : Stand p l e R s m args below meth c T locs cells slots) (hx : p.tables.exec = Jvm.exec) (hlk : meth.locks = false) {t : FieldType} (hret : meth.sig.returnType = some t) (ht : t.isReference = true) (hn : ∀ a, narrow t (.ref a) = .ref a) {pc : Nat} {Ls : Array Slot} {a : Addr} {rest : List Value}
    (hd : decode c.code pc = .ok (.areturn, 1)) (hQ : Q (some (.ref a)) T.heap locs) (hc : cells ≤ kc) (hs : slots ≤ ks) : Ends p e below s Q kc ks (T.setTop (mkF m pc Ls (.ref a :: rest))) := by
  obtain ⟨fs, hr, hrun, hended, hW, hsame⟩ := X.leave (v := some (.ref a)) (fun h => by rw [hret] at h; cases h) hlk
  exact ⟨_, _, Jvm.RoadKit.retOut X hx hret (hn a) (Or.inr (Or.inr (Or.inr (Or.inr ⟨rfl, ht, rfl⟩)))) hd hr, hrun, hended, _, _, rfl, hQ, ⟨_, rfl⟩, hW, hsame.mono hc hs⟩
theorem Ends.retV (X : Stand p l e R s m args below meth c T locs cells slots) (hx : p.tables.exec = Jvm.exec) (hlk : meth.locks = false) (hret : meth.sig.returnType = none) {pc : Nat} {Ls : Array Slot}
    (hd : decode c.code pc = .ok (.return_, 1)) (hQ : Q none T.heap locs) (hc : cells ≤ kc) (hs : slots ≤ ks) : Ends p e below s Q kc ks (T.setTop (mkF m pc Ls [])) := by
  obtain ⟨fs, hr, hrun, hended, hW, hsame⟩ := X.leave (v := none) (fun _ => rfl) hlk
  exact ⟨_, _, X.returnOut hx hret hd hr, hrun, hended, _, _, rfl, hQ, ⟨_, rfl⟩, hW, hsame.mono hc hs⟩
theorem lremM {g : JFrame} {target : State} (X : Stand p l e R s m args below meth c T locs cells slots) (hx : p.tables.exec = Jvm.exec) (hg : g.method = m) {x y : Int64} {rest : List Value} (hd : decode c.code g.pc = .ok (.lrem, 1)) (hs : g.stack = .long y :: .long x :: rest) (hy : y ≠ 0)
    (hr : Steps p.tables e below (T.setTop { g with pc := g.pc + 1, stack := .long (x % y) :: rest }) target) : Steps p.tables e below (T.setTop g) target :=
  XS.lrem X.here hx hg hd hs hy (by rw [lrem_mod x y]; exact hr)
/-- a method that writes nothing: what it returns, the heap as it was -/
def QP (V : Option Value) (h0 : Heap) (n0 : Nat) (v : Option Value) (h : Heap) (L : List Loc) : Prop := v = V ∧ Fr n0 L ∧ h = h0
/-- a law: it returns 1; nothing old is written -/
def QL (n0 : Nat) (v : Option Value) (_ : Heap) (L : List Loc) : Prop := v = some (.int 1) ∧ Fr n0 L
end Own
section OwnHeap
variable {p : Program} {l : Launch} {e : Env} {R : Room} {s : State} {m : MethodId} {args : Array Value} {below : List Frame} {meth : Method} {c : Code} {T : State} {locs : List Loc} {cells slots : Nat}
variable {Q : Option Value → Heap → List Loc → Prop} {kc ks : Nat} {Z : State} {a0 : Array Value} {h h' : Heap} {a b : Addr} {ty : FieldType} {n sl : Nat} {g : Nat → Int32} {v : Value} {j x : Int32} {pc : Nat} {Ls : Array Slot} {S : List Value}
/-- an array of n small values: place j holds g j -/
def Ary (Z : State) (h : Heap) (a : Addr) (ty : FieldType) (n : Nat) (g : Nat → Int32) : Prop := ∃ cl : Cell, Arr Z h a cl ty ∧ cl.slots.size = n ∧ n < 2 ^ 31 ∧ ∀ j, j < n → cl.slots[j]? = some (.int (g j))
def upd (g : Nat → Int32) (j : Nat) (x : Int32) : Nat → Int32 := fun i => if i = j then x else g i
theorem Ary.lt (V : Ary Z h a ty n g) : a < h.size := V.elim fun _ q => q.1.lt
theorem Ary.ext (V : Ary Z h a ty n g) (E : Ext h h') : Ary Z h' a ty n g := by obtain ⟨c, A, r⟩ := V; exact ⟨c, A.ext E, r⟩
theorem Ary.other (V : Ary Z h b ty n g) (W : Wr h h' a sl v) (q : b ≠ a) : Ary Z h' b ty n g := by obtain ⟨c, A, r⟩ := V; exact ⟨c, A.other W q, r⟩
theorem Ary.keep {ws : List Addr} (V : Ary Z h a ty n g) (K : Keep h h' ws) (q : a ∉ ws) : Ary Z h' a ty n g := by obtain ⟨c, A, r⟩ := V; exact ⟨c, ⟨K.2.1 a c A.1 q, A.2⟩, r⟩
theorem Ary.set (V : Ary Z h a ty n g) (W : Wr h h' a sl (.int x)) : Ary Z h' a ty n (upd g sl x) := by
  obtain ⟨c, A, S, M, H⟩ := V
  refine ⟨_, A.same W, by rw [sz_set]; exact S, M, fun i hi => ?_⟩
  have hi' : i < c.slots.size := by omega
  simp only [Cell.setSlot, Array.getElem?_setIfInBounds, upd]
  by_cases q : i = sl
  · subst q; simp [hi']
  · have q' : ¬ sl = i := fun e => q e.symm
    simp [q, q']; exact H i hi
theorem Ary.inb {cl : Cell} (S : cl.slots.size = n) (hj : 0 ≤ j.toInt ∧ j.toInt < n) : ¬ (j < 0 ∨ cl.slots.size ≤ j.toNatClampNeg) := by
  have e0 : (0 : Int32).toInt = 0 := rfl
  simp only [Int32.lt_iff_toInt_lt, Int32.toNatClampNeg] at *; omega
theorem Ary.at {cl : Cell} (H : ∀ j, j < n → cl.slots[j]? = some (.int (g j))) (hj : 0 ≤ j.toInt ∧ j.toInt < n) : cl.slots[j.toNatClampNeg]? = some (.int (g j.toNatClampNeg)) :=
  H _ (by simp only [Int32.toNatClampNeg]; omega)
theorem Ends.iald (k : Ends p e below s Q kc ks (T.setTop (mkF m (pc + 1) Ls (.int (g j.toNatClampNeg) :: S)))) (X : Stand p l e R s m args below meth c T locs cells slots) (hx : p.tables.exec = Jvm.exec) (hZ : Z.Warmed39 s.vm) (eT : T.heap = h) (V : Ary Z h a .int n g) (hj : 0 ≤ j.toInt ∧ j.toInt < n)
    (hd : decode c.code pc = .ok (.iaload, 1)) : Ends p e below s Q kc ks (T.setTop (mkF m pc Ls (.int j :: .ref a :: S))) := by
  obtain ⟨cl, A, S1, M, H⟩ := V
  exact k.by fun t q => X.iaload hx (j := j) (by rw [eT]; exact A.1) (State.isArrayOf_alike hZ.alike A.2.1) A.2.2 (Ary.inb S1 hj) (Ary.at H hj) (g := mkF m pc Ls (.int j :: .ref a :: S)) rfl rfl hd t q
theorem Ends.bald (k : Ends p e below s Q kc ks (T.setTop (mkF m (pc + 1) Ls (.int (g j.toNatClampNeg) :: S)))) (X : Stand p l e R s m args below meth c T locs cells slots) (hx : p.tables.exec = Jvm.exec) (hZ : Z.Warmed39 s.vm) (eT : T.heap = h) (V : Ary Z h a .byte n g) (hj : 0 ≤ j.toInt ∧ j.toInt < n)
    (hd : decode c.code pc = .ok (.baload, 1)) : Ends p e below s Q kc ks (T.setTop (mkF m pc Ls (.int j :: .ref a :: S))) := by
  obtain ⟨cl, A, S1, M, H⟩ := V
  exact k.by fun t q => X.baloadBytes hx (j := j) (by rw [eT]; exact A.1) (State.isArrayOf_alike hZ.alike A.2.1) A.2.2 (Ary.inb S1 hj) (Ary.at H hj) (g := mkF m pc Ls (.int j :: .ref a :: S)) rfl rfl hd t q
theorem Ends.alen {z : Int32} (k : Ends p e below s Q kc ks (T.setTop (mkF m (pc + 1) Ls (.int z :: S)))) (X : Stand p l e R s m args below meth c T locs cells slots) (hx : p.tables.exec = Jvm.exec) (hZ : Z.Warmed39 s.vm) (eT : T.heap = h) (V : Ary Z h a ty n g) (hz : z.toInt = n)
    (hd : decode c.code pc = .ok (.arraylength, 1)) : Ends p e below s Q kc ks (T.setTop (mkF m pc Ls (.ref a :: S))) := by
  obtain ⟨cl, A, S1, M, H⟩ := V
  have e1 : cl.slots.size.toInt32 = z := by
    rw [S1]; apply Int32.toInt_inj.mp; rw [hz]; exact len_toInt M
  exact k.by fun t q => X.arraylength hx (by rw [eT]; exact A.1) (State.isArrayOf_alike hZ.alike A.2.1) (g := mkF m pc Ls (.ref a :: S)) rfl rfl hd t (by rw [e1]; exact q)
theorem stIA (X : Stand p l e R s m args below meth c T locs cells slots) (hx : p.tables.exec = Jvm.exec) (hZ : Z.Warmed39 s.vm) (eT : T.heap = h) (V : Ary Z h a .int n g) (hj : 0 ≤ j.toInt ∧ j.toInt < n) (hd : decode c.code pc = .ok (.iastore, 1)) :
    ∃ T' h', Stand p l e R s m args below meth c T' (locs ++ [⟨a, j.toNatClampNeg⟩]) cells slots ∧ T'.heap = h' ∧ Wr h h' a j.toNatClampNeg (.int x) ∧ Ary Z h' a .int n (upd g j.toNatClampNeg x) ∧
      ∀ t, Steps p.tables e below (T'.setTop (mkF m (pc + 1) Ls S)) t → Steps p.tables e below (T.setTop (mkF m pc Ls (.int x :: .int j :: .ref a :: S))) t := by
  have V' := V
  obtain ⟨cl, A, S1, M, H⟩ := V
  obtain ⟨T', h', X', e', W, st⟩ := stI X hx hZ eT A (j := j) (x := x) (Ary.inb S1 hj) (g := mkF m pc Ls (.int x :: .int j :: .ref a :: S)) rfl rfl hd
  exact ⟨T', h', X', e', W, V'.set W, st⟩
theorem stBA (X : Stand p l e R s m args below meth c T locs cells slots) (hx : p.tables.exec = Jvm.exec) (hZ : Z.Warmed39 s.vm) (eT : T.heap = h) (V : Ary Z h a .byte n g) (hj : 0 ≤ j.toInt ∧ j.toInt < n) (hd : decode c.code pc = .ok (.bastore, 1)) :
    ∃ T' h', Stand p l e R s m args below meth c T' (locs ++ [⟨a, j.toNatClampNeg⟩]) cells slots ∧ T'.heap = h' ∧ Wr h h' a j.toNatClampNeg (.int x.toInt8.toInt32) ∧ Ary Z h' a .byte n (upd g j.toNatClampNeg x.toInt8.toInt32) ∧
      ∀ t, Steps p.tables e below (T'.setTop (mkF m (pc + 1) Ls S)) t → Steps p.tables e below (T.setTop (mkF m pc Ls (.int x :: .int j :: .ref a :: S))) t := by
  have V' := V
  obtain ⟨cl, A, S1, M, H⟩ := V
  obtain ⟨T', h', X', e', W, st⟩ := stB X hx hZ eT A (j := j) (x := x) (Ary.inb S1 hj) (g := mkF m pc Ls (.int x :: .int j :: .ref a :: S)) rfl rfl hd
  exact ⟨T', h', X', e', W, V'.set W, st⟩
theorem newAr (X : Stand p l e R s m args below meth c T locs cells slots) (hx : p.tables.exec = Jvm.exec) (hZ : Z.Warmed39 s.vm) {aty : ArrayType} (w : (Cond.arrayClass (newarray.typeOf aty)).before a0 Z = true) (hty : defaultValue (newarray.typeOf aty) = .int 0) (eT : T.heap = h) {z : Int32} {cap : Nat} (hz : z.toInt = n) (hcap : n ≤ cap)
    (hb : cap * 8 ≤ 536870912) (hc : cells + 1 ≤ R.cells) (hl : slots + cap ≤ R.slots) (hd : decode c.code pc = .ok (.newarray aty, 2)) :
    ∃ T' h', Stand p l e R s m args below meth c T' locs (cells + 1) (slots + cap) ∧ T'.heap = h' ∧ Ext h h' ∧ Ary Z h' h.size (newarray.typeOf aty) n (fun _ => 0) ∧
      ∀ t, Steps p.tables e below (T'.setTop (mkF m (pc + 2) Ls (.ref h.size :: S))) t → Steps p.tables e below (T.setTop (mkF m pc Ls (.int z :: S))) t := by
  have e0 : (0 : Int32).toInt = 0 := rfl
  have hz2 : z.toNatClampNeg = n := by simp only [Int32.toNatClampNeg]; omega
  have rz := rng32 z
  obtain ⟨T', h', cA, X', e', E, A, st⟩ := newP X hx hZ w eT (g := mkF m pc Ls (.int z :: S)) rfl hd rfl (by rw [Int32.lt_iff_toInt_lt]; omega) (cap := cap) (by omega) hb hc hl
  refine ⟨T', h', X', e', E, ⟨_, A, by rw [sz_new]; exact hz2, by omega, fun j hj => ?_⟩, st⟩
  simp only [newA, hz2, hty]
  simp [hj]
end OwnHeap
/-- a method that writes into ws alone: what it returns, the rest kept, what P says of the heap that it leaves -/
def QK (V : Option Value) (h0 : Heap) (ws : List Addr) (n0 : Nat) (P : Heap → Prop) (v : Option Value) (h : Heap) (L : List Loc) : Prop := v = V ∧ Fr n0 L ∧ Keep h0 h ws ∧ P h

/-- v >>> q -/
def sh (v : Int64) (q : Int32) : Int64 := ((v.toUInt64 >>> (q &&& 0x3f).toInt64.toUInt64).toInt64)
/-- what bastore leaves of (byte) x -/
def nb (x : Int32) : Int32 := x.toInt8.toInt32.toInt8.toInt32
theorem nb_eq (x : Int32) : nb x = x.toInt8.toInt32 := by simp [nb]
theorem sh_nat (v : Int64) (q : Int32) (k : Nat) (hk : q = Int32.ofNat k) (h : k < 64) : (sh v q).toBitVec = v.toBitVec >>> k := by
  subst hk
  have key : ∀ k : Fin 64, ((Int32.ofNat k.1 &&& 0x3f).toInt64.toUInt64 % 64).toBitVec = BitVec.ofNat 64 k.1 := by decide +kernel
  have e := key ⟨k, h⟩
  show (v.toUInt64.toBitVec >>> ((Int32.ofNat k &&& 0x3f).toInt64.toUInt64 % 64).toBitVec) = _
  rw [e]
  show v.toBitVec >>> (BitVec.ofNat 64 k) = _
  show v.toBitVec >>> (BitVec.ofNat 64 k).toNat = _
  congr 1
  simp; omega
theorem eq64 {a b : Int64} (h : a.toBitVec = b.toBitVec) : a = b := Int64.toBitVec_inj.mp h
theorem sh_sh (v : Int64) (i : Nat) (h : 7 * (i + 1) < 64) : sh (sh v (Int32.ofNat (7 * i))) 7 = sh v (Int32.ofNat (7 * (i + 1))) := by
  apply eq64
  rw [sh_nat _ 7 7 rfl (by omega), sh_nat _ _ _ rfl (by omega), sh_nat _ _ _ rfl h]
  apply BitVec.eq_of_toNat_eq
  simp [BitVec.toNat_ushiftRight, ← Nat.shiftRight_add]
  congr 1
/-- no bit above the seventh -/
theorem small_iff (r : Int64) : r &&& (-128 : Int64) = 0 ↔ r.toBitVec.toNat < 128 := by
  rw [← Int64.toBitVec_inj]
  have e : (r &&& (-128 : Int64)).toBitVec = r.toBitVec &&& (BitVec.allOnes 64 <<< 7) := by
    simp only [Int64.toBitVec_and]; congr 1
  rw [e]
  generalize r.toBitVec = b
  constructor
  · intro h
    have h2 : b >>> 7 = 0#64 := by
      apply BitVec.eq_of_getLsbD_eq
      intro i hi
      have q := congrArg (fun z => z.getLsbD (7 + i)) h
      simp only [BitVec.getLsbD_and, BitVec.getLsbD_shiftLeft, BitVec.getLsbD_allOnes, BitVec.getLsbD_ushiftRight] at q ⊢
      by_cases hh : 7 + i < 64
      · have h7 : ¬ (7 + i < 7) := by omega
        have h8 : 7 + i - 7 < 64 := by omega
        simp only [hh, h7, h8, decide_true, decide_false, Bool.not_false, Bool.and_true] at q
        rw [q]; simp
      · rw [BitVec.getLsbD_of_ge _ _ (by omega)]; simp
    have h3 := congrArg BitVec.toNat h2
    simp [BitVec.toNat_ushiftRight, Nat.shiftRight_eq_div_pow] at h3
    omega
  · intro h
    apply BitVec.eq_of_getLsbD_eq
    intro i hi
    have q : i < 7 ∨ b.getLsbD i = false := by
      by_cases hh : i < 7
      · exact Or.inl hh
      · right
        rw [BitVec.getLsbD]
        apply Nat.testBit_lt_two_pow
        exact Nat.lt_of_lt_of_le h (by have := Nat.pow_le_pow_right (n := 2) (by omega) (show 7 ≤ i by omega); omega)
    simp only [BitVec.getLsbD_and, BitVec.getLsbD_shiftLeft]
    rcases q with q | q
    · simp [q]
    · rw [q]; simp
theorem sh_zero_iff (r : Int64) : sh r 7 = 0 ↔ r &&& (-128 : Int64) = 0 := by
  rw [small_iff, ← Int64.toBitVec_inj, sh_nat r 7 7 rfl (by omega), ← BitVec.toNat_inj]
  simp [BitVec.toNat_ushiftRight, Nat.shiftRight_eq_div_pow]
theorem b8 (r : Int64) (x : Int32) (h : x = r.toInt32) : x.toInt8.toBitVec = r.toBitVec.setWidth 8 := by
  subst h
  show BitVec.signExtend 8 (BitVec.signExtend 32 r.toBitVec) = _
  apply BitVec.eq_of_getLsbD_eq
  intro i hi
  have h1 : i < 32 := by omega
  have h2 : i < 64 := by omega
  simp only [BitVec.getLsbD_signExtend, BitVec.getLsbD_setWidth, hi, h1, h2, decide_true, Bool.true_and, if_true]

theorem eq32of8 {x y : Int32} (h : x.toInt8.toBitVec = y.toInt8.toBitVec) : x.toInt8.toInt32 = y.toInt8.toInt32 := by
  rw [Int8.toBitVec_inj.mp h]
theorem or8 (x y : Int32) : (x ||| y).toInt8.toBitVec = x.toInt8.toBitVec ||| y.toInt8.toBitVec := by simp
theorem byte_more (r : Int64) : nb ((r ||| (128 : Int64)).toInt32) = ((r &&& (127 : Int64)).toInt32 ||| (128 : Int32)).toInt8.toInt32 := by
  rw [nb_eq]
  apply eq32of8
  rw [or8, b8 _ _ rfl, b8 _ _ rfl]
  simp only [Int64.toBitVec_or, Int64.toBitVec_and, BitVec.setWidth_or, BitVec.setWidth_and]
  generalize BitVec.setWidth 8 r.toBitVec = b
  revert b
  decide +kernel
theorem byte_last (r : Int64) (h : r &&& (-128 : Int64) = 0) : nb r.toInt32 = ((r &&& (127 : Int64)).toInt32).toInt8.toInt32 := by
  rw [nb_eq]
  apply eq32of8
  rw [b8 _ _ rfl, b8 _ _ rfl]
  have h2 := congrArg (fun z : Int64 => BitVec.setWidth 8 z.toBitVec) h
  simp only [Int64.toBitVec_and, BitVec.setWidth_and] at h2 ⊢
  generalize BitVec.setWidth 8 r.toBitVec = b at *
  revert b
  decide +kernel
/-- the bytes written from the place 'at' on, at most k + 1 of them -/
def wrA : Nat → (Nat → Int32) → Nat → Int64 → (Nat → Int32)
  | 0, g, i, r => upd g i (nb r.toInt32)
  | k + 1, g, i, r => if r &&& (-128 : Int64) = 0 then upd g i (nb r.toInt32) else wrA k (upd g i (nb (r ||| (128 : Int64)).toInt32)) (i + 1) (sh r 7)
def wrE : Nat → Nat → Int64 → Nat
  | 0, i, _ => i + 1
  | k + 1, i, r => if r &&& (-128 : Int64) = 0 then i + 1 else wrE k (i + 1) (sh r 7)
/-- v >>> 7 i -/
def R7 (v : Int64) (i : Nat) : Int64 := sh v (Int32.ofNat (7 * i))
/-- n bytes are wanted for v -/
def Len (v : Int64) (n : Nat) : Prop := 1 ≤ n ∧ n ≤ 10 ∧ (∀ i, i + 1 < n → R7 v (i + 1) ≠ 0) ∧ (n ≤ 9 → R7 v n = 0)
theorem R7_zero (v : Int64) : R7 v 0 = v := by
  apply eq64; rw [R7, sh_nat _ _ 0 rfl (by omega)]; simp
theorem R7_small {v : Int64} {n i : Nat} (h : Len v n) (hi : i < n) : R7 v i &&& (-128 : Int64) = 0 ↔ i + 1 = n := by
  obtain ⟨h1, h2, h3, h4⟩ := h
  by_cases q : i ≤ 8
  · rw [← sh_zero_iff]
    have e : sh (R7 v i) 7 = R7 v (i + 1) := sh_sh v i (by omega)
    rw [e]
    constructor
    · intro z
      by_cases w : i + 1 = n
      · exact w
      · exact absurd z (h3 i (by omega))
    · intro z; subst z; exact h4 (by omega)
  · have e9 : i = 9 := by omega
    subst e9
    constructor
    · intro _; omega
    · intro _
      rw [small_iff, R7, sh_nat _ _ (7 * 9) rfl (by omega), BitVec.toNat_ushiftRight, Nat.shiftRight_eq_div_pow]
      have := v.toBitVec.isLt
      omega
def bt (v : Int64) (n t : Nat) : Int32 := if t + 1 < n then nb ((R7 v t ||| (128 : Int64)).toInt32) else nb ((R7 v t).toInt32)
theorem wr_spec {v : Int64} {n : Nat} (h : Len v n) : ∀ (k i : Nat) (g : Nat → Int32) (a : Nat), i < n → n - 1 - i ≤ k →
    (∀ x, wrA k g a (R7 v i) x = if a ≤ x ∧ x < a + (n - i) then bt v n (x - a + i) else g x) ∧ wrE k a (R7 v i) = a + (n - i) := by
  intro k
  induction k with
  | zero =>
    intro i g a hi hk
    have e : i + 1 = n := by omega
    refine ⟨fun x => ?_, by simp only [wrE]; omega⟩
    simp only [wrA, upd]
    by_cases q : x = a
    · subst q
      have e2 : x - x + i = i := by omega
      rw [if_pos rfl, if_pos (by omega), e2, bt, if_neg (by omega)]
    · rw [if_neg q, if_neg (by omega)]
  | succ k ih =>
    intro i g a hi hk
    by_cases c : R7 v i &&& (-128 : Int64) = 0
    · have e := (R7_small h hi).mp c
      refine ⟨fun x => ?_, by simp only [wrE, if_pos c]; omega⟩
      simp only [wrA, if_pos c, upd]
      by_cases q : x = a
      · subst q
        have e2 : x - x + i = i := by omega
        rw [if_pos rfl, if_pos (by omega), e2, bt, if_neg (by omega)]
      · rw [if_neg q, if_neg (by omega)]
    · have e : i + 1 < n := by
        have := mt (R7_small h hi).mpr c
        omega
      have hn := h.2.1
      have es : sh (R7 v i) 7 = R7 v (i + 1) := sh_sh v i (by omega)
      obtain ⟨i1, i2⟩ := ih (i + 1) (upd g a (nb (R7 v i ||| (128 : Int64)).toInt32)) (a + 1) e (by omega)
      refine ⟨fun x => ?_, ?_⟩
      · simp only [wrA, if_neg c, es]
        rw [i1 x]
        by_cases q : a + 1 ≤ x ∧ x < a + 1 + (n - (i + 1))
        · have e2 : x - (a + 1) + (i + 1) = x - a + i := by omega
          rw [if_pos q, if_pos (by omega), e2]
        · rw [if_neg q, upd]
          by_cases w : x = a
          · subst w
            have e2 : x - x + i = i := by omega
            rw [if_pos rfl, if_pos (by omega), e2, bt, if_pos e]
          · rw [if_neg w, if_neg (by omega)]
      · simp only [wrE, if_neg c, es]
        rw [i2]; omega

theorem shl_bv (y : Int64) (k : Nat) (h : k < 64) : (y <<< (Int32.ofNat k &&& 0x3f).toInt64).toBitVec = y.toBitVec <<< k := by
  have key : ∀ k : Fin 64, (((Int32.ofNat k.1 &&& 0x3f).toInt64).toBitVec.smod 64#64) = BitVec.ofNat 64 k.1 := by decide +kernel
  have e := key ⟨k, h⟩
  show y.toBitVec <<< ((Int32.ofNat k &&& 0x3f).toInt64.toBitVec.smod 64#64) = _
  rw [e]
  show y.toBitVec <<< (BitVec.ofNat 64 k).toNat = _
  congr 1
  simp; omega
def acc1 (g : Nat → Int32) (a : Nat) (q : Int32) (acc : Int64) : Int64 := (acc ||| ((g a &&& (127 : Int32)).toInt64 <<< (q &&& 0x3f).toInt64))
def vaA : Nat → (Nat → Int32) → Nat → Int32 → Int64 → Int64
  | 0, g, a, q, acc => acc1 g a q acc
  | k + 1, g, a, q, acc => if g a &&& (128 : Int32) = 0 then acc1 g a q acc else vaA k g (a + 1) (q + (7 : Int32)) (acc1 g a q acc)
theorem eq32 {a b : Int32} (h : a.toBitVec = b.toBitVec) : a = b := Int32.toBitVec_inj.mp h
theorem nb_bv (x : Int32) : (nb x).toBitVec = x.toInt8.toBitVec.signExtend 32 := by rw [nb_eq]; rfl
theorem low7 (r : Int64) : (r &&& (127 : Int64)).toBitVec = ((r.toBitVec.setWidth 8) &&& 127#8).setWidth 64 := by
  apply BitVec.eq_of_getLsbD_eq
  intro i hi
  have e : (127 : Int64).toBitVec = BitVec.setWidth 64 (BitVec.setWidth 8 (127#64)) := by decide
  have e2 : (127#8) = BitVec.setWidth 8 (127#64) := by decide
  rw [Int64.toBitVec_and, e, e2]
  simp only [BitVec.getLsbD_and, BitVec.getLsbD_setWidth, hi, decide_true, Bool.true_and]
  by_cases h : i < 8 <;> simp [h]
theorem read_more (r : Int64) : (nb ((r ||| (128 : Int64)).toInt32) &&& (127 : Int32)).toInt64 = r &&& (127 : Int64) := by
  apply eq64
  rw [low7]
  show BitVec.signExtend 64 ((nb ((r ||| (128 : Int64)).toInt32) &&& (127 : Int32)).toBitVec) = _
  rw [Int32.toBitVec_and, nb_bv, b8 _ _ rfl, Int64.toBitVec_or, BitVec.setWidth_or]
  generalize BitVec.setWidth 8 r.toBitVec = b
  revert b
  decide +kernel
theorem read_last (r : Int64) : (nb (r.toInt32) &&& (127 : Int32)).toInt64 = r &&& (127 : Int64) := by
  apply eq64
  rw [low7]
  show BitVec.signExtend 64 ((nb (r.toInt32) &&& (127 : Int32)).toBitVec) = _
  rw [Int32.toBitVec_and, nb_bv, b8 _ _ rfl]
  generalize BitVec.setWidth 8 r.toBitVec = b
  revert b
  decide +kernel
theorem bit_more (r : Int64) : ¬ (nb ((r ||| (128 : Int64)).toInt32) &&& (128 : Int32)) = 0 := by
  intro h
  have h := congrArg Int32.toBitVec h
  rw [Int32.toBitVec_and, nb_bv, b8 _ _ rfl, Int64.toBitVec_or, BitVec.setWidth_or] at h
  generalize BitVec.setWidth 8 r.toBitVec = b at h
  revert b
  decide +kernel
theorem bit_last (r : Int64) (h : r &&& (-128 : Int64) = 0) : (nb (r.toInt32) &&& (128 : Int32)) = 0 := by
  apply eq32
  rw [Int32.toBitVec_and, nb_bv, b8 _ _ rfl]
  have h2 := congrArg (fun z : Int64 => BitVec.setWidth 8 z.toBitVec) h
  simp only [Int64.toBitVec_and, BitVec.setWidth_and] at h2 ⊢
  generalize BitVec.setWidth 8 r.toBitVec = b at *
  revert b
  decide +kernel
/-- the first m bits of v -/
def Low (v : Int64) (m : Nat) (acc : Int64) : Prop := ∀ b, acc.toBitVec.getLsbD b = (decide (b < m) && v.toBitVec.getLsbD b)
theorem Low.zero (v : Int64) : Low v 0 0 := fun b => by simp
theorem Low.step {v acc : Int64} {i : Nat} (hi : i ≤ 9) (h : Low v (7 * i) acc) {y : Int64} (hy : y = R7 v i &&& (127 : Int64)) : Low v (7 * (i + 1)) (acc ||| (y <<< (Int32.ofNat (7 * i) &&& 0x3f).toInt64)) := by
  intro b
  rw [Int64.toBitVec_or, BitVec.getLsbD_or, h b, shl_bv y (7 * i) (by omega), BitVec.getLsbD_shiftLeft, hy, Int64.toBitVec_and, BitVec.getLsbD_and, R7, sh_nat _ _ _ rfl (by omega), BitVec.getLsbD_ushiftRight]
  by_cases hb : b < 64
  · by_cases h1 : b < 7 * i
    · have : b < 7 * (i + 1) := by omega
      simp [h1, this]
    · have e : 7 * i + (b - 7 * i) = b := by omega
      have key : ∀ t : Fin 64, ((127 : Int64).toBitVec).getLsbD t.1 = decide (t.1 < 7) := by decide +kernel
      have k2 := key ⟨b - 7 * i, by omega⟩
      simp only at k2
      rw [e, k2]
      by_cases h2 : b < 7 * (i + 1)
      · have h3 : b - 7 * i < 7 := by omega
        simp [h1, h2, h3, hb]
      · have h3 : ¬ (b - 7 * i < 7) := by omega
        simp [h1, h2, h3]
  · rw [BitVec.getLsbD_of_ge _ b (by omega)]; simp [hb]
theorem Low.all {v acc : Int64} {n : Nat} (hL : Len v n) (h : Low v (7 * n) acc) : acc = v := by
  apply eq64
  apply BitVec.eq_of_getLsbD_eq
  intro b hb
  rw [h b]
  by_cases q : b < 7 * n
  · simp [q]
  · have hz := hL.2.2.2 (by omega)
    have hz2 := congrArg (fun z : Int64 => z.toBitVec.getLsbD (b - 7 * n)) hz
    simp only [R7] at hz2
    rw [sh_nat _ _ _ rfl (by omega), BitVec.getLsbD_ushiftRight, show 7 * n + (b - 7 * n) = b by omega] at hz2
    simp [q]
    simpa using hz2
theorem ofNat_add7 (i : Nat) : Int32.ofNat (7 * i) + (7 : Int32) = Int32.ofNat (7 * (i + 1)) := by
  show Int32.ofNat (7 * i) + Int32.ofNat 7 = _
  rw [← Int32.ofNat_add]
  rfl
theorem bt_read (v : Int64) (n i : Nat) : (bt v n i &&& (127 : Int32)).toInt64 = R7 v i &&& (127 : Int64) := by
  unfold bt; split
  · exact read_more _
  · exact read_last _
theorem bt_bit {v : Int64} {n i : Nat} (h : Len v n) (hi : i < n) : (bt v n i &&& (128 : Int32)) = 0 ↔ i + 1 = n := by
  unfold bt; split
  · constructor
    · intro q; exact absurd q (bit_more _)
    · intro q; omega
  · constructor
    · intro _; omega
    · intro _; exact bit_last _ ((R7_small h hi).mpr (by omega))
theorem va_spec {v : Int64} {n : Nat} (h : Len v n) (g : Nat → Int32) (a : Nat) (hg : ∀ t, t < n → g (a + t) = bt v n t) : ∀ (k i : Nat) (acc : Int64), i < n → n - 1 - i ≤ k → Low v (7 * i) acc → vaA k g (a + i) (Int32.ofNat (7 * i)) acc = v := by
  have hn := h.2.1
  intro k
  induction k with
  | zero =>
    intro i acc hi hk hl
    have e : i + 1 = n := by omega
    have s := hl.step (by omega) (y := (g (a + i) &&& (127 : Int32)).toInt64) (by rw [hg i hi, bt_read])
    rw [e] at s
    exact Low.all h s
  | succ k ih =>
    intro i acc hi hk hl
    have s := hl.step (by omega) (y := (g (a + i) &&& (127 : Int32)).toInt64) (by rw [hg i hi, bt_read])
    simp only [vaA]
    by_cases c : g (a + i) &&& (128 : Int32) = 0
    · rw [if_pos c]
      have e := (bt_bit h hi).mp (by rw [← hg i hi]; exact c)
      rw [e] at s
      exact Low.all h s
    · rw [if_neg c, ofNat_add7]
      have e : i + 1 ≠ n := fun e => c (by rw [hg i hi]; exact (bt_bit h hi).mpr e)
      exact ih (i + 1) _ (by omega) (by omega) s

theorem Ary.congr {Z : State} {h : Heap} {a : Addr} {ty : FieldType} {n : Nat} {g g' : Nat → Int32} (V : Ary Z h a ty n g) (q : ∀ j, j < n → g j = g' j) : Ary Z h a ty n g' := by
  obtain ⟨c, A, S, M, H⟩ := V
  exact ⟨c, A, S, M, fun j hj => by rw [← q j hj]; exact H j hj⟩
theorem own_clamp {z : Int32} {i : Nat} (h : z.toInt = i) : z.toNatClampNeg = i := by simp only [Int32.toNatClampNeg]; omega
theorem own_in {z : Int32} {i n : Nat} (h : z.toInt = i) (q : i < n) : 0 ≤ z.toInt ∧ z.toInt < n := by omega
theorem own_up {z : Int32} {i n : Nat} (h : z.toInt = i) (q : i < n) (hn : n ≤ 100) : (z + (1 : Int32)).toInt = ((i + 1 : Nat) : Int) := by
  have q1 := c_iadd z 1
  have q2 := rng32 (z + 1)
  have e1 : (1 : Int32).toInt = 1 := rfl
  omega
theorem own_ofNat {z : Int32} {i : Nat} (h : z.toInt = i) (q : i < 100) : z = Int32.ofNat i := by
  apply Int32.toInt_inj.mp; rw [h, Int32.toInt_ofNat_small (by omega)]
theorem own_hr {z : Int64} {k : Nat} (h : z.toBitVec.toNat < 2 ^ (7 * (k + 1 + 1))) : (sh z 7).toBitVec.toNat < 2 ^ (7 * (k + 1)) := by
  rw [sh_nat z 7 7 rfl (by omega), BitVec.toNat_ushiftRight, Nat.shiftRight_eq_div_pow]
  rw [show 7 * (k + 1 + 1) = 7 * (k + 1) + 7 by omega, Nat.pow_add] at h
  exact Nat.div_lt_of_lt_mul (by rw [Nat.mul_comm]; exact h)
def fill (x : Int32) (k : Nat) : Nat → Int32 := fun j => if j < k then x else 0
theorem own_fill0 {Z : State} {h : Heap} {a : Addr} {n : Nat} (x : Int32) (V : Ary Z h a .byte n (fun _ => (0 : Int32))) : Ary Z h a .byte n (fill x 0) := V.congr fun j _ => by simp [fill]
theorem own_fill {Z : State} {h : Heap} {a : Addr} {n k : Nat} {x y : Int32} (V : Ary Z h a .byte n (upd (fill x k) k y)) (hy : y = x) : Ary Z h a .byte n (fill x (k + 1)) := V.congr fun j _ => by
  subst hy
  simp only [upd, fill]
  by_cases q : j = k
  · subst q; simp
  · rw [if_neg q]
    by_cases q2 : j < k
    · rw [if_pos q2, if_pos (by omega)]
    · rw [if_neg q2, if_neg (by omega)]
theorem own_full {Z : State} {h : Heap} {a : Addr} {n : Nat} {x : Int32} (V : Ary Z h a .byte n (fill x n)) : Ary Z h a .byte n (fun _ => x) := V.congr fun j hj => by simp [fill, hj]
theorem d1_6 : decode prog_38_method_3_code 6 = .ok (.lload 5, 2) := by decide +kernel
theorem d1_8 : decode prog_38_method_3_code 8 = .ok (.ldc2_w 19, 3) := by decide +kernel
theorem d1_11 : decode prog_38_method_3_code 11 = .ok (.land, 1) := by decide +kernel
theorem d1_12 : decode prog_38_method_3_code 12 = .ok (.lconst 0, 1) := by decide +kernel
theorem d1_13 : decode prog_38_method_3_code 13 = .ok (.lcmp, 1) := by decide +kernel
theorem d1_14 : decode prog_38_method_3_code 14 = .ok (.ifCond .eq 28, 3) := by decide +kernel
theorem d1_42 : decode prog_38_method_3_code 42 = .ok (.aload_n 0, 1) := by decide +kernel
theorem d1_43 : decode prog_38_method_3_code 43 = .ok (.iload 4, 2) := by decide +kernel
theorem d1_45 : decode prog_38_method_3_code 45 = .ok (.iinc 4 1, 3) := by decide +kernel
theorem d1_48 : decode prog_38_method_3_code 48 = .ok (.lload 5, 2) := by decide +kernel
theorem d1_50 : decode prog_38_method_3_code 50 = .ok (.l2i, 1) := by decide +kernel
theorem d1_51 : decode prog_38_method_3_code 51 = .ok (.i2b, 1) := by decide +kernel
theorem d1_52 : decode prog_38_method_3_code 52 = .ok (.bastore, 1) := by decide +kernel
theorem d1_53 : decode prog_38_method_3_code 53 = .ok (.iload 4, 2) := by decide +kernel
theorem d1_55 : decode prog_38_method_3_code 55 = .ok (.ireturn, 1) := by decide +kernel
theorem d1_17 : decode prog_38_method_3_code 17 = .ok (.aload_n 0, 1) := by decide +kernel
theorem d1_18 : decode prog_38_method_3_code 18 = .ok (.iload 4, 2) := by decide +kernel
theorem d1_20 : decode prog_38_method_3_code 20 = .ok (.iinc 4 1, 3) := by decide +kernel
theorem d1_23 : decode prog_38_method_3_code 23 = .ok (.lload 5, 2) := by decide +kernel
theorem d1_25 : decode prog_38_method_3_code 25 = .ok (.ldc2_w 21, 3) := by decide +kernel
theorem d1_28 : decode prog_38_method_3_code 28 = .ok (.lor, 1) := by decide +kernel
theorem d1_29 : decode prog_38_method_3_code 29 = .ok (.l2i, 1) := by decide +kernel
theorem d1_30 : decode prog_38_method_3_code 30 = .ok (.i2b, 1) := by decide +kernel
theorem d1_31 : decode prog_38_method_3_code 31 = .ok (.bastore, 1) := by decide +kernel
theorem d1_32 : decode prog_38_method_3_code 32 = .ok (.lload 5, 2) := by decide +kernel
theorem d1_34 : decode prog_38_method_3_code 34 = .ok (.bipush 7, 2) := by decide +kernel
theorem d1_36 : decode prog_38_method_3_code 36 = .ok (.lushr, 1) := by decide +kernel
theorem d1_37 : decode prog_38_method_3_code 37 = .ok (.lstore 5, 2) := by decide +kernel
theorem d1_39 : decode prog_38_method_3_code 39 = .ok (.goto (-33), 3) := by decide +kernel
set_option maxRecDepth 65536 in
set_option maxHeartbeats 40000000 in
theorem wloop {p : Program} {l : Launch} {e : Env} {R : Room} {s : State} {m : MethodId} {args : Array Value} {below : List Frame} {meth : Method} {c : Code} {Z : State} {a0 : Array Value} {kc ks : Nat} (hx : p.tables.exec = Jvm.exec) (hZ : Z.Warmed39 s.vm) (hw : ∀ d ∈ tables_1, d.before a0 Z = true) (hby : c.code = prog_38_method_3_code) (hml : c.maxLocals = 7) (hown : s.vm.findClass "com/example/moraine/moraine/format/codec/Varint" = some m.cls) (hlk : meth.locks = false) (hret : meth.sig.returnType = some .int) {h0 : Heap} {n0 : Nat} {x0 : Addr} (x1 : Int32) (x2 : Int64) (g0 : n0 ≤ x0) (k : Nat) :
    ∀ {T : State} {locs : List Loc} {h : Heap} {g : Nat → Int32} (i : Nat) (z4 : Int32) (z5 : Int64) (X : Stand p l e R s m args below meth c T locs 0 0) (eT : T.heap = h) (N0 : Fr n0 locs) (V0 : Ary Z h x0 .byte 20 g) (K0 : Keep h0 h [x0]) (hz4 : z4.toInt = i) (hin : i + k < 20) (hr : z5.toBitVec.toNat < 2 ^ (7 * (k + 1))), Ends p e below s (QK (some (.int (Int32.ofNat (wrE k i z5)))) h0 [x0] n0 (fun h => Ary Z h x0 .byte 20 (wrA k g i z5))) kc ks (T.setTop (mkF m 6 #[.val (.ref x0), .val (.int x1), .val (.long x2), .second, .val (.int z4), .val (.long z5), .second] [])) := by
  induction k with
  | zero =>
    intro T locs h g i z4 z5 X eT N0 V0 K0 hz4 hin hr
    have hsm : (z5 &&& (-128 : Int64)) = (0 : Int64) := (small_iff z5).mpr (by simpa using hr)
    show Ends p e below s _ _ _ (T.setTop (mkF m 6 #[.val (.ref x0), .val (.int x1), .val (.long x2), .second, .val (.int z4), .val (.long z5), .second] []))
    refine Ends.by ?_ (fun _ k => XS.lload X.here hx rfl (hb hby d1_6) rfl k)
    show Ends p e below s _ _ _ (T.setTop (mkF m 8 #[.val (.ref x0), .val (.int x1), .val (.long x2), .second, .val (.int z4), .val (.long z5), .second] [(.long z5)]))
    refine Ends.by ?_ (X.ldc2Long hx hown (mvT hZ (hw _ (List.mem_of_getElem? (i := 5) rfl))) (g := (mkF m 8 #[.val (.ref x0), .val (.int x1), .val (.long x2), .second, .val (.int z4), .val (.long z5), .second] [(.long z5)])) rfl (hb hby d1_8))
    show Ends p e below s _ _ _ (T.setTop (mkF m 11 #[.val (.ref x0), .val (.int x1), .val (.long x2), .second, .val (.int z4), .val (.long z5), .second] [(.long (-128 : Int64)), (.long z5)]))
    refine Ends.by ?_ (fun _ k => XS.land X.here hx rfl (hb hby d1_11) rfl k)
    show Ends p e below s _ _ _ (T.setTop (mkF m 12 #[.val (.ref x0), .val (.int x1), .val (.long x2), .second, .val (.int z4), .val (.long z5), .second] [(.long (z5 &&& (-128 : Int64)))]))
    refine Ends.by ?_ (fun _ k => XS.lconst X.here hx rfl (hb hby d1_12) k)
    show Ends p e below s _ _ _ (T.setTop (mkF m 13 #[.val (.ref x0), .val (.int x1), .val (.long x2), .second, .val (.int z4), .val (.long z5), .second] [(.long (0 : Int64)), (.long (z5 &&& (-128 : Int64)))]))
    refine Ends.by ?_ (fun _ k => XS.lcmp X.here hx rfl (hb hby d1_13) rfl k)
    show Ends p e below s _ _ _ (T.setTop (mkF m 14 #[.val (.ref x0), .val (.int x1), .val (.long x2), .second, .val (.int z4), .val (.long z5), .second] [(.int (XT.cmpL (z5 &&& (-128 : Int64)) (0 : Int64)))]))
    refine Ends.by ?_ (fun _ k => XS.ifYes X.here hx rfl (pc0 := 14) (pc' := 42) rfl (hb hby d1_14) rfl (XT.ll_eq_t hsm) (by decide) (by decide) k)
    show Ends p e below s _ _ _ (T.setTop (mkF m 42 #[.val (.ref x0), .val (.int x1), .val (.long x2), .second, .val (.int z4), .val (.long z5), .second] []))
    refine Ends.by ?_ (fun _ k => XS.aloadN X.here hx rfl (hb hby d1_42) rfl rfl k)
    show Ends p e below s _ _ _ (T.setTop (mkF m 43 #[.val (.ref x0), .val (.int x1), .val (.long x2), .second, .val (.int z4), .val (.long z5), .second] [(.ref x0)]))
    refine Ends.by ?_ (fun _ k => XS.iload X.here hx rfl (hb hby d1_43) rfl k)
    show Ends p e below s _ _ _ (T.setTop (mkF m 45 #[.val (.ref x0), .val (.int x1), .val (.long x2), .second, .val (.int z4), .val (.long z5), .second] [(.int z4), (.ref x0)]))
    refine Ends.by ?_ (fun _ k => XS.iinc X.here hx rfl (hb hby d1_45) rfl (l' := #[.val (.ref x0), .val (.int x1), .val (.long x2), .second, .val (.int (z4 + (1 : Int32))), .val (.long z5), .second]) rfl k)
    show Ends p e below s _ _ _ (T.setTop (mkF m 48 #[.val (.ref x0), .val (.int x1), .val (.long x2), .second, .val (.int (z4 + (1 : Int32))), .val (.long z5), .second] [(.int z4), (.ref x0)]))
    refine Ends.by ?_ (fun _ k => XS.lload X.here hx rfl (hb hby d1_48) rfl k)
    show Ends p e below s _ _ _ (T.setTop (mkF m 50 #[.val (.ref x0), .val (.int x1), .val (.long x2), .second, .val (.int (z4 + (1 : Int32))), .val (.long z5), .second] [(.long z5), (.int z4), (.ref x0)]))
    refine Ends.by ?_ (fun _ k => XS.l2i X.here hx rfl (hb hby d1_50) rfl k)
    show Ends p e below s _ _ _ (T.setTop (mkF m 51 #[.val (.ref x0), .val (.int x1), .val (.long x2), .second, .val (.int (z4 + (1 : Int32))), .val (.long z5), .second] [(.int (z5.toInt32)), (.int z4), (.ref x0)]))
    refine Ends.by ?_ (fun _ k => XS.i2b X.here hx rfl (hb hby d1_51) rfl k)
    show Ends p e below s _ _ _ (T.setTop (mkF m 52 #[.val (.ref x0), .val (.int x1), .val (.long x2), .second, .val (.int (z4 + (1 : Int32))), .val (.long z5), .second] [(.int ((z5.toInt32).toInt8.toInt32)), (.int z4), (.ref x0)]))
    obtain ⟨T1, h1, X1, e1, W1, V1, st1⟩ := stBA X hx hZ eT V0 (j := z4) (x := ((z5.toInt32).toInt8.toInt32)) (own_in hz4 (by omega)) (Ls := #[.val (.ref x0), .val (.int x1), .val (.long x2), .second, .val (.int (z4 + (1 : Int32))), .val (.long z5), .second]) (S := []) (hb hby d1_52)
    have K3 := K0.wr W1 (Or.inl (by simp))
    have N1 := Fr.snoc X1 N0 g0
    refine Ends.by ?_ st1
    show Ends p e below s _ _ _ (T1.setTop (mkF m 53 #[.val (.ref x0), .val (.int x1), .val (.long x2), .second, .val (.int (z4 + (1 : Int32))), .val (.long z5), .second] []))
    refine Ends.by ?_ (fun _ k => XS.iload X1.here hx rfl (hb hby d1_53) rfl k)
    show Ends p e below s _ _ _ (T1.setTop (mkF m 55 #[.val (.ref x0), .val (.int x1), .val (.long x2), .second, .val (.int (z4 + (1 : Int32))), .val (.long z5), .second] [(.int (z4 + (1 : Int32)))]))
    rw [own_clamp hz4] at V1
    exact Ends.retI X1 hx hlk hret (hb hby d1_55) (by rw [e1]; exact ⟨by simp only [wrE]; rw [own_ofNat (own_up hz4 (n := 20) (by omega) (by omega)) (by omega)], N1, K3, by simp only [wrA]; exact V1⟩) (Nat.zero_le _) (Nat.zero_le _)
  | succ k ih =>
    intro T locs h g i z4 z5 X eT N0 V0 K0 hz4 hin hr
    show Ends p e below s _ _ _ (T.setTop (mkF m 6 #[.val (.ref x0), .val (.int x1), .val (.long x2), .second, .val (.int z4), .val (.long z5), .second] []))
    refine Ends.by ?_ (fun _ k => XS.lload X.here hx rfl (hb hby d1_6) rfl k)
    show Ends p e below s _ _ _ (T.setTop (mkF m 8 #[.val (.ref x0), .val (.int x1), .val (.long x2), .second, .val (.int z4), .val (.long z5), .second] [(.long z5)]))
    refine Ends.by ?_ (X.ldc2Long hx hown (mvT hZ (hw _ (List.mem_of_getElem? (i := 5) rfl))) (g := (mkF m 8 #[.val (.ref x0), .val (.int x1), .val (.long x2), .second, .val (.int z4), .val (.long z5), .second] [(.long z5)])) rfl (hb hby d1_8))
    show Ends p e below s _ _ _ (T.setTop (mkF m 11 #[.val (.ref x0), .val (.int x1), .val (.long x2), .second, .val (.int z4), .val (.long z5), .second] [(.long (-128 : Int64)), (.long z5)]))
    refine Ends.by ?_ (fun _ k => XS.land X.here hx rfl (hb hby d1_11) rfl k)
    show Ends p e below s _ _ _ (T.setTop (mkF m 12 #[.val (.ref x0), .val (.int x1), .val (.long x2), .second, .val (.int z4), .val (.long z5), .second] [(.long (z5 &&& (-128 : Int64)))]))
    refine Ends.by ?_ (fun _ k => XS.lconst X.here hx rfl (hb hby d1_12) k)
    show Ends p e below s _ _ _ (T.setTop (mkF m 13 #[.val (.ref x0), .val (.int x1), .val (.long x2), .second, .val (.int z4), .val (.long z5), .second] [(.long (0 : Int64)), (.long (z5 &&& (-128 : Int64)))]))
    refine Ends.by ?_ (fun _ k => XS.lcmp X.here hx rfl (hb hby d1_13) rfl k)
    show Ends p e below s _ _ _ (T.setTop (mkF m 14 #[.val (.ref x0), .val (.int x1), .val (.long x2), .second, .val (.int z4), .val (.long z5), .second] [(.int (XT.cmpL (z5 &&& (-128 : Int64)) (0 : Int64)))]))
    by_cases hc4 : (z5 &&& (-128 : Int64)) = (0 : Int64)
    · refine Ends.by ?_ (fun _ k => XS.ifYes X.here hx rfl (pc0 := 14) (pc' := 42) rfl (hb hby d1_14) rfl (XT.ll_eq_t hc4) (by decide) (by decide) k)
      show Ends p e below s _ _ _ (T.setTop (mkF m 42 #[.val (.ref x0), .val (.int x1), .val (.long x2), .second, .val (.int z4), .val (.long z5), .second] []))
      refine Ends.by ?_ (fun _ k => XS.aloadN X.here hx rfl (hb hby d1_42) rfl rfl k)
      show Ends p e below s _ _ _ (T.setTop (mkF m 43 #[.val (.ref x0), .val (.int x1), .val (.long x2), .second, .val (.int z4), .val (.long z5), .second] [(.ref x0)]))
      refine Ends.by ?_ (fun _ k => XS.iload X.here hx rfl (hb hby d1_43) rfl k)
      show Ends p e below s _ _ _ (T.setTop (mkF m 45 #[.val (.ref x0), .val (.int x1), .val (.long x2), .second, .val (.int z4), .val (.long z5), .second] [(.int z4), (.ref x0)]))
      refine Ends.by ?_ (fun _ k => XS.iinc X.here hx rfl (hb hby d1_45) rfl (l' := #[.val (.ref x0), .val (.int x1), .val (.long x2), .second, .val (.int (z4 + (1 : Int32))), .val (.long z5), .second]) rfl k)
      show Ends p e below s _ _ _ (T.setTop (mkF m 48 #[.val (.ref x0), .val (.int x1), .val (.long x2), .second, .val (.int (z4 + (1 : Int32))), .val (.long z5), .second] [(.int z4), (.ref x0)]))
      refine Ends.by ?_ (fun _ k => XS.lload X.here hx rfl (hb hby d1_48) rfl k)
      show Ends p e below s _ _ _ (T.setTop (mkF m 50 #[.val (.ref x0), .val (.int x1), .val (.long x2), .second, .val (.int (z4 + (1 : Int32))), .val (.long z5), .second] [(.long z5), (.int z4), (.ref x0)]))
      refine Ends.by ?_ (fun _ k => XS.l2i X.here hx rfl (hb hby d1_50) rfl k)
      show Ends p e below s _ _ _ (T.setTop (mkF m 51 #[.val (.ref x0), .val (.int x1), .val (.long x2), .second, .val (.int (z4 + (1 : Int32))), .val (.long z5), .second] [(.int (z5.toInt32)), (.int z4), (.ref x0)]))
      refine Ends.by ?_ (fun _ k => XS.i2b X.here hx rfl (hb hby d1_51) rfl k)
      show Ends p e below s _ _ _ (T.setTop (mkF m 52 #[.val (.ref x0), .val (.int x1), .val (.long x2), .second, .val (.int (z4 + (1 : Int32))), .val (.long z5), .second] [(.int ((z5.toInt32).toInt8.toInt32)), (.int z4), (.ref x0)]))
      obtain ⟨T5, h5, X5, e5, W5, V5, st5⟩ := stBA X hx hZ eT V0 (j := z4) (x := ((z5.toInt32).toInt8.toInt32)) (own_in hz4 (by omega)) (Ls := #[.val (.ref x0), .val (.int x1), .val (.long x2), .second, .val (.int (z4 + (1 : Int32))), .val (.long z5), .second]) (S := []) (hb hby d1_52)
      have K7 := K0.wr W5 (Or.inl (by simp))
      have N5 := Fr.snoc X5 N0 g0
      refine Ends.by ?_ st5
      show Ends p e below s _ _ _ (T5.setTop (mkF m 53 #[.val (.ref x0), .val (.int x1), .val (.long x2), .second, .val (.int (z4 + (1 : Int32))), .val (.long z5), .second] []))
      refine Ends.by ?_ (fun _ k => XS.iload X5.here hx rfl (hb hby d1_53) rfl k)
      show Ends p e below s _ _ _ (T5.setTop (mkF m 55 #[.val (.ref x0), .val (.int x1), .val (.long x2), .second, .val (.int (z4 + (1 : Int32))), .val (.long z5), .second] [(.int (z4 + (1 : Int32)))]))
      rw [own_clamp hz4] at V5
      exact Ends.retI X5 hx hlk hret (hb hby d1_55) (by rw [e5]; exact ⟨by simp only [wrE, if_pos hc4]; rw [own_ofNat (own_up hz4 (n := 20) (by omega) (by omega)) (by omega)], N5, K7, by simp only [wrA, if_pos hc4]; exact V5⟩) (Nat.zero_le _) (Nat.zero_le _)
    · refine Ends.by ?_ (fun _ k => XS.ifNo X.here hx rfl (hb hby d1_14) rfl (XT.ll_eq_f hc4) k)
      show Ends p e below s _ _ _ (T.setTop (mkF m 17 #[.val (.ref x0), .val (.int x1), .val (.long x2), .second, .val (.int z4), .val (.long z5), .second] []))
      refine Ends.by ?_ (fun _ k => XS.aloadN X.here hx rfl (hb hby d1_17) rfl rfl k)
      show Ends p e below s _ _ _ (T.setTop (mkF m 18 #[.val (.ref x0), .val (.int x1), .val (.long x2), .second, .val (.int z4), .val (.long z5), .second] [(.ref x0)]))
      refine Ends.by ?_ (fun _ k => XS.iload X.here hx rfl (hb hby d1_18) rfl k)
      show Ends p e below s _ _ _ (T.setTop (mkF m 20 #[.val (.ref x0), .val (.int x1), .val (.long x2), .second, .val (.int z4), .val (.long z5), .second] [(.int z4), (.ref x0)]))
      refine Ends.by ?_ (fun _ k => XS.iinc X.here hx rfl (hb hby d1_20) rfl (l' := #[.val (.ref x0), .val (.int x1), .val (.long x2), .second, .val (.int (z4 + (1 : Int32))), .val (.long z5), .second]) rfl k)
      show Ends p e below s _ _ _ (T.setTop (mkF m 23 #[.val (.ref x0), .val (.int x1), .val (.long x2), .second, .val (.int (z4 + (1 : Int32))), .val (.long z5), .second] [(.int z4), (.ref x0)]))
      refine Ends.by ?_ (fun _ k => XS.lload X.here hx rfl (hb hby d1_23) rfl k)
      show Ends p e below s _ _ _ (T.setTop (mkF m 25 #[.val (.ref x0), .val (.int x1), .val (.long x2), .second, .val (.int (z4 + (1 : Int32))), .val (.long z5), .second] [(.long z5), (.int z4), (.ref x0)]))
      refine Ends.by ?_ (X.ldc2Long hx hown (mvT hZ (hw _ (List.mem_of_getElem? (i := 9) rfl))) (g := (mkF m 25 #[.val (.ref x0), .val (.int x1), .val (.long x2), .second, .val (.int (z4 + (1 : Int32))), .val (.long z5), .second] [(.long z5), (.int z4), (.ref x0)])) rfl (hb hby d1_25))
      show Ends p e below s _ _ _ (T.setTop (mkF m 28 #[.val (.ref x0), .val (.int x1), .val (.long x2), .second, .val (.int (z4 + (1 : Int32))), .val (.long z5), .second] [(.long (128 : Int64)), (.long z5), (.int z4), (.ref x0)]))
      refine Ends.by ?_ (fun _ k => XS.lor X.here hx rfl (hb hby d1_28) rfl k)
      show Ends p e below s _ _ _ (T.setTop (mkF m 29 #[.val (.ref x0), .val (.int x1), .val (.long x2), .second, .val (.int (z4 + (1 : Int32))), .val (.long z5), .second] [(.long (z5 ||| (128 : Int64))), (.int z4), (.ref x0)]))
      refine Ends.by ?_ (fun _ k => XS.l2i X.here hx rfl (hb hby d1_29) rfl k)
      show Ends p e below s _ _ _ (T.setTop (mkF m 30 #[.val (.ref x0), .val (.int x1), .val (.long x2), .second, .val (.int (z4 + (1 : Int32))), .val (.long z5), .second] [(.int ((z5 ||| (128 : Int64)).toInt32)), (.int z4), (.ref x0)]))
      refine Ends.by ?_ (fun _ k => XS.i2b X.here hx rfl (hb hby d1_30) rfl k)
      show Ends p e below s _ _ _ (T.setTop (mkF m 31 #[.val (.ref x0), .val (.int x1), .val (.long x2), .second, .val (.int (z4 + (1 : Int32))), .val (.long z5), .second] [(.int (((z5 ||| (128 : Int64)).toInt32).toInt8.toInt32)), (.int z4), (.ref x0)]))
      obtain ⟨T8, h8, X8, e8, W8, V8, st8⟩ := stBA X hx hZ eT V0 (j := z4) (x := (((z5 ||| (128 : Int64)).toInt32).toInt8.toInt32)) (own_in hz4 (by omega)) (Ls := #[.val (.ref x0), .val (.int x1), .val (.long x2), .second, .val (.int (z4 + (1 : Int32))), .val (.long z5), .second]) (S := []) (hb hby d1_31)
      have K10 := K0.wr W8 (Or.inl (by simp))
      have N8 := Fr.snoc X8 N0 g0
      refine Ends.by ?_ st8
      show Ends p e below s _ _ _ (T8.setTop (mkF m 32 #[.val (.ref x0), .val (.int x1), .val (.long x2), .second, .val (.int (z4 + (1 : Int32))), .val (.long z5), .second] []))
      refine Ends.by ?_ (fun _ k => XS.lload X8.here hx rfl (hb hby d1_32) rfl k)
      show Ends p e below s _ _ _ (T8.setTop (mkF m 34 #[.val (.ref x0), .val (.int x1), .val (.long x2), .second, .val (.int (z4 + (1 : Int32))), .val (.long z5), .second] [(.long z5)]))
      refine Ends.by ?_ (fun _ k => XS.bipush X8.here hx rfl (hb hby d1_34) k)
      show Ends p e below s _ _ _ (T8.setTop (mkF m 36 #[.val (.ref x0), .val (.int x1), .val (.long x2), .second, .val (.int (z4 + (1 : Int32))), .val (.long z5), .second] [(.int (7 : Int32)), (.long z5)]))
      refine Ends.by ?_ (fun _ k => XS.lushr X8.here hx rfl (hb hby d1_36) rfl k)
      show Ends p e below s _ _ _ (T8.setTop (mkF m 37 #[.val (.ref x0), .val (.int x1), .val (.long x2), .second, .val (.int (z4 + (1 : Int32))), .val (.long z5), .second] [(.long ((z5.toUInt64 >>> ((7 : Int32) &&& 0x3f).toInt64.toUInt64).toInt64))]))
      refine Ends.by ?_ (fun _ k => XS.lstore X8.here hx rfl (hb hby d1_37) rfl (l' := #[.val (.ref x0), .val (.int x1), .val (.long x2), .second, .val (.int (z4 + (1 : Int32))), .val (.long ((z5.toUInt64 >>> ((7 : Int32) &&& 0x3f).toInt64.toUInt64).toInt64)), .second]) rfl k)
      show Ends p e below s _ _ _ (T8.setTop (mkF m 39 #[.val (.ref x0), .val (.int x1), .val (.long x2), .second, .val (.int (z4 + (1 : Int32))), .val (.long ((z5.toUInt64 >>> ((7 : Int32) &&& 0x3f).toInt64.toUInt64).toInt64)), .second] []))
      refine Ends.by ?_ (fun _ k => XS.goto X8.here hx rfl (pc0 := 39) (pc' := 6) rfl (hb hby d1_39) (by decide) (by decide) k)
      show Ends p e below s _ _ _ (T8.setTop (mkF m 6 #[.val (.ref x0), .val (.int x1), .val (.long x2), .second, .val (.int (z4 + (1 : Int32))), .val (.long ((z5.toUInt64 >>> ((7 : Int32) &&& 0x3f).toInt64.toUInt64).toInt64)), .second] []))
      rw [own_clamp hz4] at V8
      rw [show wrE (k + 1) i z5 = wrE k (i + 1) (sh z5 7) from if_neg hc4, show wrA (k + 1) g i z5 = wrA k (upd g i (nb (z5 ||| (128 : Int64)).toInt32)) (i + 1) (sh z5 7) from if_neg hc4]
      exact ih (i + 1) (z4 + (1 : Int32)) (sh z5 7) X8 e8 N8 V8 K10 (own_up hz4 (n := 20) (by omega) (by omega)) (by omega) (own_hr hr)

theorem d1_0 : decode prog_38_method_3_code 0 = .ok (.iload_n 1, 1) := by decide +kernel
theorem d1_1 : decode prog_38_method_3_code 1 = .ok (.istore 4, 2) := by decide +kernel
theorem d1_3 : decode prog_38_method_3_code 3 = .ok (.lload_n 2, 1) := by decide +kernel
theorem d1_4 : decode prog_38_method_3_code 4 = .ok (.lstore 5, 2) := by decide +kernel
theorem ef_rm1 (m : MethodId) (x0 : Addr) (x1 : Int32) (x2 : Int64) : entryFrame m #[(.ref x0), (.int x1), (.long x2)] 7 = mkF m 0 #[.val (.ref x0), .val (.int x1), .val (.long x2), .second, .unset, .unset, .unset] [] := by first | (simp [entryFrame, mkF, argsToLocals, Value.category]; done) | rfl
theorem pn_0 : plainName "com/example/moraine/moraine/format/codec/Varint" = true := by first | (simp [plainName, overriddenIn]; done) | decide +kernel
set_option maxRecDepth 65536 in
set_option maxHeartbeats 40000000 in
theorem rm1 (l : Launch) (Z : State) (a0 : Array Value) (hw : ∀ d ∈ tables_1, d.before a0 Z = true) (ws : List Jvm.Cond) (x0 : Addr) (x1 : Int32) (x2 : Int64) (oi : Nat) (g : Nat → Int32) (h0 : Heap) (n0 : Nat) (Z0 : n0 ≤ h0.size) (V0 : Ary Z h0 x0 .byte 20 g) (g0 : n0 ≤ x0) (ho : x1.toInt = oi) (hin : oi + 9 < 20) :
    MetFree l (⟨"com/example/moraine/moraine/format/codec/Varint", "write", "([BIJ)I"⟩ : MethodName) (head1 (Jvm.Cond.code (⟨"com/example/moraine/moraine/format/codec/Varint", "write", "([BIJ)I"⟩ : MethodName) prog_38_method_3_code 7 (some .int) :: ws) ({ frames := 0, cells := 0, slots := 0, locals := 0 } : Room)) (fun a U => a = #[(.ref x0), (.int x1), (.long x2)] ∧ Z.Warmed39 U.vm ∧ U.heap = h0) (fun _ _ _ _ _ => True) (fun _ U o U' => ∃ v L, o = .returned v ∧ (QK (some (.int (Int32.ofNat (wrE 9 oi x2)))) h0 [x0] n0 (fun h => Ary Z h x0 .byte 20 (wrA 9 g oi x2))) v U'.heap L ∧ FrameEnd U o U' L ({ frames := 0, cells := 0, slots := 0, locals := 0 } : Room).cells ({ frames := 0, cells := 0, slots := 0, locals := 0 } : Room).slots) := by
  refine MetFree.of_bodySF (plainFor_of_name pn_0) hisR ?_
  intro p e s m args below meth c s₁ Bd hml0 hP hK
  obtain ⟨rfl, hZ, hh⟩ := hP
  have hx := Bd.exec
  have hby := Bd.bytes
  have hml : c.maxLocals = 7 := hml0
  have hown : s.vm.findClass "com/example/moraine/moraine/format/codec/Varint" = some m.cls := findClass_of_methodNamed Bd.named
  have hnm := (name_of_methodNamed Bd.named Bd.method).1
  have X0 : Stand p l e ({ frames := 0, cells := 0, slots := 0, locals := 0 } : Room) s m #[(.ref x0), (.int x1), (.long x2)] below meth c s₁ [] 0 0 := Stand.of_body Bd
  have e0 : s₁.heap = h0 := by rw [← hh, Bd.state]; rfl
  have N0 := Fr.nil n0
  show Ends p e below s (QK (some (.int (Int32.ofNat (wrE 9 oi x2)))) h0 [x0] n0 (fun h => Ary Z h x0 .byte 20 (wrA 9 g oi x2))) ({ frames := 0, cells := 0, slots := 0, locals := 0 } : Room).cells ({ frames := 0, cells := 0, slots := 0, locals := 0 } : Room).slots (s₁.setTop (entryFrame m #[(.ref x0), (.int x1), (.long x2)] 7))
  rw [ef_rm1 m x0 x1 x2]
  show Ends p e below s _ _ _ (s₁.setTop (mkF m 0 #[.val (.ref x0), .val (.int x1), .val (.long x2), .second, .unset, .unset, .unset] []))
  refine Ends.by ?_ (fun _ k => XS.iloadN X0.here hx rfl (hb hby d1_0) rfl k)
  show Ends p e below s _ _ _ (s₁.setTop (mkF m 1 #[.val (.ref x0), .val (.int x1), .val (.long x2), .second, .unset, .unset, .unset] [(.int x1)]))
  refine Ends.by ?_ (fun _ k => XS.istore X0.here hx rfl (hb hby d1_1) rfl (l' := #[.val (.ref x0), .val (.int x1), .val (.long x2), .second, .val (.int x1), .unset, .unset]) rfl k)
  show Ends p e below s _ _ _ (s₁.setTop (mkF m 3 #[.val (.ref x0), .val (.int x1), .val (.long x2), .second, .val (.int x1), .unset, .unset] []))
  refine Ends.by ?_ (fun _ k => XS.lloadN X0.here hx rfl (hb hby d1_3) rfl k)
  show Ends p e below s _ _ _ (s₁.setTop (mkF m 4 #[.val (.ref x0), .val (.int x1), .val (.long x2), .second, .val (.int x1), .unset, .unset] [(.long x2)]))
  refine Ends.by ?_ (fun _ k => XS.lstore X0.here hx rfl (hb hby d1_4) rfl (l' := #[.val (.ref x0), .val (.int x1), .val (.long x2), .second, .val (.int x1), .val (.long x2), .second]) rfl k)
  show Ends p e below s _ _ _ (s₁.setTop (mkF m 6 #[.val (.ref x0), .val (.int x1), .val (.long x2), .second, .val (.int x1), .val (.long x2), .second] []))
  exact wloop hx hZ hw hby hml hown Bd.notSynchronized Bd.returns x1 x2 g0 9 oi x1 x2 X0 e0 N0 V0 (Keep.refl _ _) ho hin (Nat.lt_trans x2.toBitVec.isLt (by decide))

theorem d2_8 : decode prog_38_method_4_code 8 = .ok (.lload_n 2, 1) := by decide +kernel
theorem d2_9 : decode prog_38_method_4_code 9 = .ok (.aload_n 0, 1) := by decide +kernel
theorem d2_10 : decode prog_38_method_4_code 10 = .ok (.iload 4, 2) := by decide +kernel
theorem d2_12 : decode prog_38_method_4_code 12 = .ok (.baload, 1) := by decide +kernel
theorem d2_13 : decode prog_38_method_4_code 13 = .ok (.bipush 127, 2) := by decide +kernel
theorem d2_15 : decode prog_38_method_4_code 15 = .ok (.iand, 1) := by decide +kernel
theorem d2_16 : decode prog_38_method_4_code 16 = .ok (.i2l, 1) := by decide +kernel
theorem d2_17 : decode prog_38_method_4_code 17 = .ok (.iload 5, 2) := by decide +kernel
theorem d2_19 : decode prog_38_method_4_code 19 = .ok (.lshl, 1) := by decide +kernel
theorem d2_20 : decode prog_38_method_4_code 20 = .ok (.lor, 1) := by decide +kernel
theorem d2_21 : decode prog_38_method_4_code 21 = .ok (.lstore_n 2, 1) := by decide +kernel
theorem d2_22 : decode prog_38_method_4_code 22 = .ok (.aload_n 0, 1) := by decide +kernel
theorem d2_23 : decode prog_38_method_4_code 23 = .ok (.iload 4, 2) := by decide +kernel
theorem d2_25 : decode prog_38_method_4_code 25 = .ok (.iinc 4 1, 3) := by decide +kernel
theorem d2_28 : decode prog_38_method_4_code 28 = .ok (.baload, 1) := by decide +kernel
theorem d2_29 : decode prog_38_method_4_code 29 = .ok (.sipush 128, 3) := by decide +kernel
theorem d2_32 : decode prog_38_method_4_code 32 = .ok (.iand, 1) := by decide +kernel
theorem d2_33 : decode prog_38_method_4_code 33 = .ok (.ifCond .ne 5, 3) := by decide +kernel
theorem d2_36 : decode prog_38_method_4_code 36 = .ok (.lload_n 2, 1) := by decide +kernel
theorem d2_37 : decode prog_38_method_4_code 37 = .ok (.lreturn, 1) := by decide +kernel
theorem d2_38 : decode prog_38_method_4_code 38 = .ok (.iinc 5 7, 3) := by decide +kernel
theorem d2_41 : decode prog_38_method_4_code 41 = .ok (.goto (-33), 3) := by decide +kernel
set_option maxRecDepth 65536 in
set_option maxHeartbeats 40000000 in
theorem vloop {p : Program} {l : Launch} {e : Env} {R : Room} {s : State} {m : MethodId} {args : Array Value} {below : List Frame} {meth : Method} {c : Code} {Z : State} {a0 : Array Value} {kc ks : Nat} (hx : p.tables.exec = Jvm.exec) (hZ : Z.Warmed39 s.vm) (hw : ∀ d ∈ tables_1, d.before a0 Z = true) (hby : c.code = prog_38_method_4_code) (hml : c.maxLocals = 6) (hown : s.vm.findClass "com/example/moraine/moraine/format/codec/Varint" = some m.cls) (hlk : meth.locks = false) (hret : meth.sig.returnType = some .long) {h0 : Heap} {n0 : Nat} {x0 : Addr} (x1 : Int32) (k : Nat) :
    ∀ {T : State} {locs : List Loc} {g : Nat → Int32} (i : Nat) (z4 z5 : Int32) (z2 : Int64) (X : Stand p l e R s m args below meth c T locs 0 0) (eT : T.heap = h0) (N0 : Fr n0 locs) (V0 : Ary Z h0 x0 .byte 20 g) (hz4 : z4.toInt = i) (hin : i + k < 20) (hend : ∃ t, t ≤ k ∧ g (i + t) &&& (128 : Int32) = 0), Ends p e below s (QP (some (.long (vaA k g i z5 z2))) h0 n0) kc ks (T.setTop (mkF m 8 #[.val (.ref x0), .val (.int x1), .val (.long z2), .second, .val (.int z4), .val (.int z5)] [])) := by
  induction k with
  | zero =>
    intro T locs g i z4 z5 z2 X eT N0 V0 hz4 hin hend
    have hsm : ((g i) &&& (128 : Int32)) = (0 : Int32) := by
      obtain ⟨t, ht, hb⟩ := hend
      rw [show t = 0 by omega] at hb
      exact hb
    show Ends p e below s _ _ _ (T.setTop (mkF m 8 #[.val (.ref x0), .val (.int x1), .val (.long z2), .second, .val (.int z4), .val (.int z5)] []))
    refine Ends.by ?_ (fun _ k => XS.lloadN X.here hx rfl (hb hby d2_8) rfl k)
    show Ends p e below s _ _ _ (T.setTop (mkF m 9 #[.val (.ref x0), .val (.int x1), .val (.long z2), .second, .val (.int z4), .val (.int z5)] [(.long z2)]))
    refine Ends.by ?_ (fun _ k => XS.aloadN X.here hx rfl (hb hby d2_9) rfl rfl k)
    show Ends p e below s _ _ _ (T.setTop (mkF m 10 #[.val (.ref x0), .val (.int x1), .val (.long z2), .second, .val (.int z4), .val (.int z5)] [(.ref x0), (.long z2)]))
    refine Ends.by ?_ (fun _ k => XS.iload X.here hx rfl (hb hby d2_10) rfl k)
    show Ends p e below s _ _ _ (T.setTop (mkF m 12 #[.val (.ref x0), .val (.int x1), .val (.long z2), .second, .val (.int z4), .val (.int z5)] [(.int z4), (.ref x0), (.long z2)]))
    refine Ends.bald ?_ X hx hZ eT V0 (own_in hz4 (by omega)) (hb hby d2_12)
    show Ends p e below s _ _ _ (T.setTop (mkF m 13 #[.val (.ref x0), .val (.int x1), .val (.long z2), .second, .val (.int z4), .val (.int z5)] [(.int (g (z4).toNatClampNeg)), (.long z2)]))
    rw [own_clamp hz4]
    show Ends p e below s _ _ _ (T.setTop (mkF m 13 #[.val (.ref x0), .val (.int x1), .val (.long z2), .second, .val (.int z4), .val (.int z5)] [(.int (g i)), (.long z2)]))
    refine Ends.by ?_ (fun _ k => XS.bipush X.here hx rfl (hb hby d2_13) k)
    show Ends p e below s _ _ _ (T.setTop (mkF m 15 #[.val (.ref x0), .val (.int x1), .val (.long z2), .second, .val (.int z4), .val (.int z5)] [(.int (127 : Int32)), (.int (g i)), (.long z2)]))
    refine Ends.by ?_ (fun _ k => XS.iand X.here hx rfl (hb hby d2_15) rfl k)
    show Ends p e below s _ _ _ (T.setTop (mkF m 16 #[.val (.ref x0), .val (.int x1), .val (.long z2), .second, .val (.int z4), .val (.int z5)] [(.int ((g i) &&& (127 : Int32))), (.long z2)]))
    refine Ends.by ?_ (fun _ k => XS.i2l X.here hx rfl (hb hby d2_16) rfl k)
    show Ends p e below s _ _ _ (T.setTop (mkF m 17 #[.val (.ref x0), .val (.int x1), .val (.long z2), .second, .val (.int z4), .val (.int z5)] [(.long (((g i) &&& (127 : Int32)).toInt64)), (.long z2)]))
    refine Ends.by ?_ (fun _ k => XS.iload X.here hx rfl (hb hby d2_17) rfl k)
    show Ends p e below s _ _ _ (T.setTop (mkF m 19 #[.val (.ref x0), .val (.int x1), .val (.long z2), .second, .val (.int z4), .val (.int z5)] [(.int z5), (.long (((g i) &&& (127 : Int32)).toInt64)), (.long z2)]))
    refine Ends.by ?_ (fun _ k => XS.lshl X.here hx rfl (hb hby d2_19) rfl k)
    show Ends p e below s _ _ _ (T.setTop (mkF m 20 #[.val (.ref x0), .val (.int x1), .val (.long z2), .second, .val (.int z4), .val (.int z5)] [(.long ((((g i) &&& (127 : Int32)).toInt64) <<< (z5 &&& 0x3f).toInt64)), (.long z2)]))
    refine Ends.by ?_ (fun _ k => XS.lor X.here hx rfl (hb hby d2_20) rfl k)
    show Ends p e below s _ _ _ (T.setTop (mkF m 21 #[.val (.ref x0), .val (.int x1), .val (.long z2), .second, .val (.int z4), .val (.int z5)] [(.long (z2 ||| ((((g i) &&& (127 : Int32)).toInt64) <<< (z5 &&& 0x3f).toInt64)))]))
    refine Ends.by ?_ (fun _ k => XS.lstoreN X.here hx rfl (hb hby d2_21) rfl (l' := #[.val (.ref x0), .val (.int x1), .val (.long (z2 ||| ((((g i) &&& (127 : Int32)).toInt64) <<< (z5 &&& 0x3f).toInt64))), .second, .val (.int z4), .val (.int z5)]) rfl k)
    show Ends p e below s _ _ _ (T.setTop (mkF m 22 #[.val (.ref x0), .val (.int x1), .val (.long (z2 ||| ((((g i) &&& (127 : Int32)).toInt64) <<< (z5 &&& 0x3f).toInt64))), .second, .val (.int z4), .val (.int z5)] []))
    refine Ends.by ?_ (fun _ k => XS.aloadN X.here hx rfl (hb hby d2_22) rfl rfl k)
    show Ends p e below s _ _ _ (T.setTop (mkF m 23 #[.val (.ref x0), .val (.int x1), .val (.long (z2 ||| ((((g i) &&& (127 : Int32)).toInt64) <<< (z5 &&& 0x3f).toInt64))), .second, .val (.int z4), .val (.int z5)] [(.ref x0)]))
    refine Ends.by ?_ (fun _ k => XS.iload X.here hx rfl (hb hby d2_23) rfl k)
    show Ends p e below s _ _ _ (T.setTop (mkF m 25 #[.val (.ref x0), .val (.int x1), .val (.long (z2 ||| ((((g i) &&& (127 : Int32)).toInt64) <<< (z5 &&& 0x3f).toInt64))), .second, .val (.int z4), .val (.int z5)] [(.int z4), (.ref x0)]))
    refine Ends.by ?_ (fun _ k => XS.iinc X.here hx rfl (hb hby d2_25) rfl (l' := #[.val (.ref x0), .val (.int x1), .val (.long (z2 ||| ((((g i) &&& (127 : Int32)).toInt64) <<< (z5 &&& 0x3f).toInt64))), .second, .val (.int (z4 + (1 : Int32))), .val (.int z5)]) rfl k)
    show Ends p e below s _ _ _ (T.setTop (mkF m 28 #[.val (.ref x0), .val (.int x1), .val (.long (z2 ||| ((((g i) &&& (127 : Int32)).toInt64) <<< (z5 &&& 0x3f).toInt64))), .second, .val (.int (z4 + (1 : Int32))), .val (.int z5)] [(.int z4), (.ref x0)]))
    refine Ends.bald ?_ X hx hZ eT V0 (own_in hz4 (by omega)) (hb hby d2_28)
    show Ends p e below s _ _ _ (T.setTop (mkF m 29 #[.val (.ref x0), .val (.int x1), .val (.long (z2 ||| ((((g i) &&& (127 : Int32)).toInt64) <<< (z5 &&& 0x3f).toInt64))), .second, .val (.int (z4 + (1 : Int32))), .val (.int z5)] [(.int (g (z4).toNatClampNeg))]))
    rw [own_clamp hz4]
    show Ends p e below s _ _ _ (T.setTop (mkF m 29 #[.val (.ref x0), .val (.int x1), .val (.long (z2 ||| ((((g i) &&& (127 : Int32)).toInt64) <<< (z5 &&& 0x3f).toInt64))), .second, .val (.int (z4 + (1 : Int32))), .val (.int z5)] [(.int (g i))]))
    refine Ends.by ?_ (fun _ k => XS.sipush X.here hx rfl (hb hby d2_29) k)
    show Ends p e below s _ _ _ (T.setTop (mkF m 32 #[.val (.ref x0), .val (.int x1), .val (.long (z2 ||| ((((g i) &&& (127 : Int32)).toInt64) <<< (z5 &&& 0x3f).toInt64))), .second, .val (.int (z4 + (1 : Int32))), .val (.int z5)] [(.int (128 : Int32)), (.int (g i))]))
    refine Ends.by ?_ (fun _ k => XS.iand X.here hx rfl (hb hby d2_32) rfl k)
    show Ends p e below s _ _ _ (T.setTop (mkF m 33 #[.val (.ref x0), .val (.int x1), .val (.long (z2 ||| ((((g i) &&& (127 : Int32)).toInt64) <<< (z5 &&& 0x3f).toInt64))), .second, .val (.int (z4 + (1 : Int32))), .val (.int z5)] [(.int ((g i) &&& (128 : Int32)))]))
    refine Ends.by ?_ (fun _ k => XS.ifNo X.here hx rfl (hb hby d2_33) rfl (XT.i0_ne_f hsm) k)
    show Ends p e below s _ _ _ (T.setTop (mkF m 36 #[.val (.ref x0), .val (.int x1), .val (.long (z2 ||| ((((g i) &&& (127 : Int32)).toInt64) <<< (z5 &&& 0x3f).toInt64))), .second, .val (.int (z4 + (1 : Int32))), .val (.int z5)] []))
    refine Ends.by ?_ (fun _ k => XS.lloadN X.here hx rfl (hb hby d2_36) rfl k)
    show Ends p e below s _ _ _ (T.setTop (mkF m 37 #[.val (.ref x0), .val (.int x1), .val (.long (z2 ||| ((((g i) &&& (127 : Int32)).toInt64) <<< (z5 &&& 0x3f).toInt64))), .second, .val (.int (z4 + (1 : Int32))), .val (.int z5)] [(.long (z2 ||| ((((g i) &&& (127 : Int32)).toInt64) <<< (z5 &&& 0x3f).toInt64)))]))
    exact Ends.retJ X hx hlk hret (hb hby d2_37) (by rw [eT]; exact ⟨by simp only [vaA]; rfl, N0, rfl⟩) (Nat.zero_le _) (Nat.zero_le _)
  | succ k ih =>
    intro T locs g i z4 z5 z2 X eT N0 V0 hz4 hin hend
    show Ends p e below s _ _ _ (T.setTop (mkF m 8 #[.val (.ref x0), .val (.int x1), .val (.long z2), .second, .val (.int z4), .val (.int z5)] []))
    refine Ends.by ?_ (fun _ k => XS.lloadN X.here hx rfl (hb hby d2_8) rfl k)
    show Ends p e below s _ _ _ (T.setTop (mkF m 9 #[.val (.ref x0), .val (.int x1), .val (.long z2), .second, .val (.int z4), .val (.int z5)] [(.long z2)]))
    refine Ends.by ?_ (fun _ k => XS.aloadN X.here hx rfl (hb hby d2_9) rfl rfl k)
    show Ends p e below s _ _ _ (T.setTop (mkF m 10 #[.val (.ref x0), .val (.int x1), .val (.long z2), .second, .val (.int z4), .val (.int z5)] [(.ref x0), (.long z2)]))
    refine Ends.by ?_ (fun _ k => XS.iload X.here hx rfl (hb hby d2_10) rfl k)
    show Ends p e below s _ _ _ (T.setTop (mkF m 12 #[.val (.ref x0), .val (.int x1), .val (.long z2), .second, .val (.int z4), .val (.int z5)] [(.int z4), (.ref x0), (.long z2)]))
    refine Ends.bald ?_ X hx hZ eT V0 (own_in hz4 (by omega)) (hb hby d2_12)
    show Ends p e below s _ _ _ (T.setTop (mkF m 13 #[.val (.ref x0), .val (.int x1), .val (.long z2), .second, .val (.int z4), .val (.int z5)] [(.int (g (z4).toNatClampNeg)), (.long z2)]))
    rw [own_clamp hz4]
    show Ends p e below s _ _ _ (T.setTop (mkF m 13 #[.val (.ref x0), .val (.int x1), .val (.long z2), .second, .val (.int z4), .val (.int z5)] [(.int (g i)), (.long z2)]))
    refine Ends.by ?_ (fun _ k => XS.bipush X.here hx rfl (hb hby d2_13) k)
    show Ends p e below s _ _ _ (T.setTop (mkF m 15 #[.val (.ref x0), .val (.int x1), .val (.long z2), .second, .val (.int z4), .val (.int z5)] [(.int (127 : Int32)), (.int (g i)), (.long z2)]))
    refine Ends.by ?_ (fun _ k => XS.iand X.here hx rfl (hb hby d2_15) rfl k)
    show Ends p e below s _ _ _ (T.setTop (mkF m 16 #[.val (.ref x0), .val (.int x1), .val (.long z2), .second, .val (.int z4), .val (.int z5)] [(.int ((g i) &&& (127 : Int32))), (.long z2)]))
    refine Ends.by ?_ (fun _ k => XS.i2l X.here hx rfl (hb hby d2_16) rfl k)
    show Ends p e below s _ _ _ (T.setTop (mkF m 17 #[.val (.ref x0), .val (.int x1), .val (.long z2), .second, .val (.int z4), .val (.int z5)] [(.long (((g i) &&& (127 : Int32)).toInt64)), (.long z2)]))
    refine Ends.by ?_ (fun _ k => XS.iload X.here hx rfl (hb hby d2_17) rfl k)
    show Ends p e below s _ _ _ (T.setTop (mkF m 19 #[.val (.ref x0), .val (.int x1), .val (.long z2), .second, .val (.int z4), .val (.int z5)] [(.int z5), (.long (((g i) &&& (127 : Int32)).toInt64)), (.long z2)]))
    refine Ends.by ?_ (fun _ k => XS.lshl X.here hx rfl (hb hby d2_19) rfl k)
    show Ends p e below s _ _ _ (T.setTop (mkF m 20 #[.val (.ref x0), .val (.int x1), .val (.long z2), .second, .val (.int z4), .val (.int z5)] [(.long ((((g i) &&& (127 : Int32)).toInt64) <<< (z5 &&& 0x3f).toInt64)), (.long z2)]))
    refine Ends.by ?_ (fun _ k => XS.lor X.here hx rfl (hb hby d2_20) rfl k)
    show Ends p e below s _ _ _ (T.setTop (mkF m 21 #[.val (.ref x0), .val (.int x1), .val (.long z2), .second, .val (.int z4), .val (.int z5)] [(.long (z2 ||| ((((g i) &&& (127 : Int32)).toInt64) <<< (z5 &&& 0x3f).toInt64)))]))
    refine Ends.by ?_ (fun _ k => XS.lstoreN X.here hx rfl (hb hby d2_21) rfl (l' := #[.val (.ref x0), .val (.int x1), .val (.long (z2 ||| ((((g i) &&& (127 : Int32)).toInt64) <<< (z5 &&& 0x3f).toInt64))), .second, .val (.int z4), .val (.int z5)]) rfl k)
    show Ends p e below s _ _ _ (T.setTop (mkF m 22 #[.val (.ref x0), .val (.int x1), .val (.long (z2 ||| ((((g i) &&& (127 : Int32)).toInt64) <<< (z5 &&& 0x3f).toInt64))), .second, .val (.int z4), .val (.int z5)] []))
    refine Ends.by ?_ (fun _ k => XS.aloadN X.here hx rfl (hb hby d2_22) rfl rfl k)
    show Ends p e below s _ _ _ (T.setTop (mkF m 23 #[.val (.ref x0), .val (.int x1), .val (.long (z2 ||| ((((g i) &&& (127 : Int32)).toInt64) <<< (z5 &&& 0x3f).toInt64))), .second, .val (.int z4), .val (.int z5)] [(.ref x0)]))
    refine Ends.by ?_ (fun _ k => XS.iload X.here hx rfl (hb hby d2_23) rfl k)
    show Ends p e below s _ _ _ (T.setTop (mkF m 25 #[.val (.ref x0), .val (.int x1), .val (.long (z2 ||| ((((g i) &&& (127 : Int32)).toInt64) <<< (z5 &&& 0x3f).toInt64))), .second, .val (.int z4), .val (.int z5)] [(.int z4), (.ref x0)]))
    refine Ends.by ?_ (fun _ k => XS.iinc X.here hx rfl (hb hby d2_25) rfl (l' := #[.val (.ref x0), .val (.int x1), .val (.long (z2 ||| ((((g i) &&& (127 : Int32)).toInt64) <<< (z5 &&& 0x3f).toInt64))), .second, .val (.int (z4 + (1 : Int32))), .val (.int z5)]) rfl k)
    show Ends p e below s _ _ _ (T.setTop (mkF m 28 #[.val (.ref x0), .val (.int x1), .val (.long (z2 ||| ((((g i) &&& (127 : Int32)).toInt64) <<< (z5 &&& 0x3f).toInt64))), .second, .val (.int (z4 + (1 : Int32))), .val (.int z5)] [(.int z4), (.ref x0)]))
    refine Ends.bald ?_ X hx hZ eT V0 (own_in hz4 (by omega)) (hb hby d2_28)
    show Ends p e below s _ _ _ (T.setTop (mkF m 29 #[.val (.ref x0), .val (.int x1), .val (.long (z2 ||| ((((g i) &&& (127 : Int32)).toInt64) <<< (z5 &&& 0x3f).toInt64))), .second, .val (.int (z4 + (1 : Int32))), .val (.int z5)] [(.int (g (z4).toNatClampNeg))]))
    rw [own_clamp hz4]
    show Ends p e below s _ _ _ (T.setTop (mkF m 29 #[.val (.ref x0), .val (.int x1), .val (.long (z2 ||| ((((g i) &&& (127 : Int32)).toInt64) <<< (z5 &&& 0x3f).toInt64))), .second, .val (.int (z4 + (1 : Int32))), .val (.int z5)] [(.int (g i))]))
    refine Ends.by ?_ (fun _ k => XS.sipush X.here hx rfl (hb hby d2_29) k)
    show Ends p e below s _ _ _ (T.setTop (mkF m 32 #[.val (.ref x0), .val (.int x1), .val (.long (z2 ||| ((((g i) &&& (127 : Int32)).toInt64) <<< (z5 &&& 0x3f).toInt64))), .second, .val (.int (z4 + (1 : Int32))), .val (.int z5)] [(.int (128 : Int32)), (.int (g i))]))
    refine Ends.by ?_ (fun _ k => XS.iand X.here hx rfl (hb hby d2_32) rfl k)
    show Ends p e below s _ _ _ (T.setTop (mkF m 33 #[.val (.ref x0), .val (.int x1), .val (.long (z2 ||| ((((g i) &&& (127 : Int32)).toInt64) <<< (z5 &&& 0x3f).toInt64))), .second, .val (.int (z4 + (1 : Int32))), .val (.int z5)] [(.int ((g i) &&& (128 : Int32)))]))
    by_cases hc1 : ((g i) &&& (128 : Int32)) = (0 : Int32)
    · refine Ends.by ?_ (fun _ k => XS.ifNo X.here hx rfl (hb hby d2_33) rfl (XT.i0_ne_f hc1) k)
      show Ends p e below s _ _ _ (T.setTop (mkF m 36 #[.val (.ref x0), .val (.int x1), .val (.long (z2 ||| ((((g i) &&& (127 : Int32)).toInt64) <<< (z5 &&& 0x3f).toInt64))), .second, .val (.int (z4 + (1 : Int32))), .val (.int z5)] []))
      refine Ends.by ?_ (fun _ k => XS.lloadN X.here hx rfl (hb hby d2_36) rfl k)
      show Ends p e below s _ _ _ (T.setTop (mkF m 37 #[.val (.ref x0), .val (.int x1), .val (.long (z2 ||| ((((g i) &&& (127 : Int32)).toInt64) <<< (z5 &&& 0x3f).toInt64))), .second, .val (.int (z4 + (1 : Int32))), .val (.int z5)] [(.long (z2 ||| ((((g i) &&& (127 : Int32)).toInt64) <<< (z5 &&& 0x3f).toInt64)))]))
      exact Ends.retJ X hx hlk hret (hb hby d2_37) (by rw [eT]; exact ⟨by simp only [vaA, if_pos hc1]; rfl, N0, rfl⟩) (Nat.zero_le _) (Nat.zero_le _)
    · refine Ends.by ?_ (fun _ k => XS.ifYes X.here hx rfl (pc0 := 33) (pc' := 38) rfl (hb hby d2_33) rfl (XT.i0_ne_t hc1) (by decide) (by decide) k)
      show Ends p e below s _ _ _ (T.setTop (mkF m 38 #[.val (.ref x0), .val (.int x1), .val (.long (z2 ||| ((((g i) &&& (127 : Int32)).toInt64) <<< (z5 &&& 0x3f).toInt64))), .second, .val (.int (z4 + (1 : Int32))), .val (.int z5)] []))
      refine Ends.by ?_ (fun _ k => XS.iinc X.here hx rfl (hb hby d2_38) rfl (l' := #[.val (.ref x0), .val (.int x1), .val (.long (z2 ||| ((((g i) &&& (127 : Int32)).toInt64) <<< (z5 &&& 0x3f).toInt64))), .second, .val (.int (z4 + (1 : Int32))), .val (.int (z5 + (7 : Int32)))]) rfl k)
      show Ends p e below s _ _ _ (T.setTop (mkF m 41 #[.val (.ref x0), .val (.int x1), .val (.long (z2 ||| ((((g i) &&& (127 : Int32)).toInt64) <<< (z5 &&& 0x3f).toInt64))), .second, .val (.int (z4 + (1 : Int32))), .val (.int (z5 + (7 : Int32)))] []))
      refine Ends.by ?_ (fun _ k => XS.goto X.here hx rfl (pc0 := 41) (pc' := 8) rfl (hb hby d2_41) (by decide) (by decide) k)
      show Ends p e below s _ _ _ (T.setTop (mkF m 8 #[.val (.ref x0), .val (.int x1), .val (.long (z2 ||| ((((g i) &&& (127 : Int32)).toInt64) <<< (z5 &&& 0x3f).toInt64))), .second, .val (.int (z4 + (1 : Int32))), .val (.int (z5 + (7 : Int32)))] []))
      rw [show vaA (k + 1) g i z5 z2 = vaA k g (i + 1) (z5 + (7 : Int32)) (acc1 g i z5 z2) from if_neg hc1]
      exact ih (i + 1) (z4 + (1 : Int32)) (z5 + (7 : Int32)) (acc1 g i z5 z2) X eT N0 V0 (own_up hz4 (n := 20) (by omega) (by omega)) (by omega) (by obtain ⟨t, ht, hb⟩ := hend; rcases Nat.eq_zero_or_pos t with rfl | ht0; exact absurd hb hc1; exact ⟨t - 1, by omega, by rw [show i + 1 + (t - 1) = i + t by omega]; exact hb⟩)

theorem d2_0 : decode prog_38_method_4_code 0 = .ok (.lconst 0, 1) := by decide +kernel
theorem d2_1 : decode prog_38_method_4_code 1 = .ok (.lstore_n 2, 1) := by decide +kernel
theorem d2_2 : decode prog_38_method_4_code 2 = .ok (.iload_n 1, 1) := by decide +kernel
theorem d2_3 : decode prog_38_method_4_code 3 = .ok (.istore 4, 2) := by decide +kernel
theorem d2_5 : decode prog_38_method_4_code 5 = .ok (.iconst 0, 1) := by decide +kernel
theorem d2_6 : decode prog_38_method_4_code 6 = .ok (.istore 5, 2) := by decide +kernel
theorem ef_rm2 (m : MethodId) (x0 : Addr) (x1 : Int32) : entryFrame m #[(.ref x0), (.int x1)] 6 = mkF m 0 #[.val (.ref x0), .val (.int x1), .unset, .unset, .unset, .unset] [] := by first | (simp [entryFrame, mkF, argsToLocals, Value.category]; done) | rfl
set_option maxRecDepth 65536 in
set_option maxHeartbeats 40000000 in
theorem rm2 (l : Launch) (Z : State) (a0 : Array Value) (hw : ∀ d ∈ tables_1, d.before a0 Z = true) (ws : List Jvm.Cond) (x0 : Addr) (x1 : Int32) (oi : Nat) (g : Nat → Int32) (h0 : Heap) (n0 : Nat) (Z0 : n0 ≤ h0.size) (V0 : Ary Z h0 x0 .byte 20 g) (ho : x1.toInt = oi) (hin : oi + 9 < 20) (hend : ∃ t, t ≤ 9 ∧ g (oi + t) &&& (128 : Int32) = 0) :
    MetFree l (⟨"com/example/moraine/moraine/format/codec/Varint", "valueAt", "([BI)J"⟩ : MethodName) (head1 (Jvm.Cond.code (⟨"com/example/moraine/moraine/format/codec/Varint", "valueAt", "([BI)J"⟩ : MethodName) prog_38_method_4_code 6 (some .long) :: ws) ({ frames := 0, cells := 0, slots := 0, locals := 0 } : Room)) (fun a U => a = #[(.ref x0), (.int x1)] ∧ Z.Warmed39 U.vm ∧ U.heap = h0) (fun _ _ _ _ _ => True) (fun _ U o U' => ∃ v L, o = .returned v ∧ (QP (some (.long (vaA 9 g oi 0 0))) h0 n0) v U'.heap L ∧ FrameEnd U o U' L ({ frames := 0, cells := 0, slots := 0, locals := 0 } : Room).cells ({ frames := 0, cells := 0, slots := 0, locals := 0 } : Room).slots) := by
  refine MetFree.of_bodySF (plainFor_of_name pn_0) hisR ?_
  intro p e s m args below meth c s₁ Bd hml0 hP hK
  obtain ⟨rfl, hZ, hh⟩ := hP
  have hx := Bd.exec
  have hby := Bd.bytes
  have hml : c.maxLocals = 6 := hml0
  have hown : s.vm.findClass "com/example/moraine/moraine/format/codec/Varint" = some m.cls := findClass_of_methodNamed Bd.named
  have hnm := (name_of_methodNamed Bd.named Bd.method).1
  have X0 : Stand p l e ({ frames := 0, cells := 0, slots := 0, locals := 0 } : Room) s m #[(.ref x0), (.int x1)] below meth c s₁ [] 0 0 := Stand.of_body Bd
  have e0 : s₁.heap = h0 := by rw [← hh, Bd.state]; rfl
  have N0 := Fr.nil n0
  show Ends p e below s (QP (some (.long (vaA 9 g oi 0 0))) h0 n0) ({ frames := 0, cells := 0, slots := 0, locals := 0 } : Room).cells ({ frames := 0, cells := 0, slots := 0, locals := 0 } : Room).slots (s₁.setTop (entryFrame m #[(.ref x0), (.int x1)] 6))
  rw [ef_rm2 m x0 x1]
  show Ends p e below s _ _ _ (s₁.setTop (mkF m 0 #[.val (.ref x0), .val (.int x1), .unset, .unset, .unset, .unset] []))
  refine Ends.by ?_ (fun _ k => XS.lconst X0.here hx rfl (hb hby d2_0) k)
  show Ends p e below s _ _ _ (s₁.setTop (mkF m 1 #[.val (.ref x0), .val (.int x1), .unset, .unset, .unset, .unset] [(.long (0 : Int64))]))
  refine Ends.by ?_ (fun _ k => XS.lstoreN X0.here hx rfl (hb hby d2_1) rfl (l' := #[.val (.ref x0), .val (.int x1), .val (.long (0 : Int64)), .second, .unset, .unset]) rfl k)
  show Ends p e below s _ _ _ (s₁.setTop (mkF m 2 #[.val (.ref x0), .val (.int x1), .val (.long (0 : Int64)), .second, .unset, .unset] []))
  refine Ends.by ?_ (fun _ k => XS.iloadN X0.here hx rfl (hb hby d2_2) rfl k)
  show Ends p e below s _ _ _ (s₁.setTop (mkF m 3 #[.val (.ref x0), .val (.int x1), .val (.long (0 : Int64)), .second, .unset, .unset] [(.int x1)]))
  refine Ends.by ?_ (fun _ k => XS.istore X0.here hx rfl (hb hby d2_3) rfl (l' := #[.val (.ref x0), .val (.int x1), .val (.long (0 : Int64)), .second, .val (.int x1), .unset]) rfl k)
  show Ends p e below s _ _ _ (s₁.setTop (mkF m 5 #[.val (.ref x0), .val (.int x1), .val (.long (0 : Int64)), .second, .val (.int x1), .unset] []))
  refine Ends.by ?_ (fun _ k => XS.iconst X0.here hx rfl (hb hby d2_5) k)
  show Ends p e below s _ _ _ (s₁.setTop (mkF m 6 #[.val (.ref x0), .val (.int x1), .val (.long (0 : Int64)), .second, .val (.int x1), .unset] [(.int (0 : Int32))]))
  refine Ends.by ?_ (fun _ k => XS.istore X0.here hx rfl (hb hby d2_6) rfl (l' := #[.val (.ref x0), .val (.int x1), .val (.long (0 : Int64)), .second, .val (.int x1), .val (.int (0 : Int32))]) rfl k)
  show Ends p e below s _ _ _ (s₁.setTop (mkF m 8 #[.val (.ref x0), .val (.int x1), .val (.long (0 : Int64)), .second, .val (.int x1), .val (.int (0 : Int32))] []))
  exact vloop hx hZ hw hby hml hown Bd.notSynchronized Bd.returns x1 9 oi x1 0 0 X0 e0 N0 V0 ho hin hend

theorem own_off (x : Int32) : ∃ (o : Nat) (of : Int32), of = (x &&& (7 : Int32)) ∧ of.toInt = o ∧ o + 9 < 20 := by
  have h := c_mask x 7 3 (by decide) (by decide)
  exact ⟨((x &&& (7 : Int32)).toInt).toNat, _, rfl, by omega, by omega⟩
theorem own_len (v : Int64) : ∃ n : Nat, Len v n := by
  by_cases h1 : R7 v 1 = 0
  · exact ⟨1, by omega, by omega, fun i hi => by omega, fun _ => h1⟩
  by_cases h2 : R7 v 2 = 0
  · exact ⟨2, by omega, by omega, fun i hi => by rcases (by omega : i = 0) with rfl <;> assumption, fun _ => h2⟩
  by_cases h3 : R7 v 3 = 0
  · exact ⟨3, by omega, by omega, fun i hi => by rcases (by omega : i = 0 ∨ i = 1) with rfl | rfl <;> assumption, fun _ => h3⟩
  by_cases h4 : R7 v 4 = 0
  · exact ⟨4, by omega, by omega, fun i hi => by rcases (by omega : i = 0 ∨ i = 1 ∨ i = 2) with rfl | rfl | rfl <;> assumption, fun _ => h4⟩
  by_cases h5 : R7 v 5 = 0
  · exact ⟨5, by omega, by omega, fun i hi => by rcases (by omega : i = 0 ∨ i = 1 ∨ i = 2 ∨ i = 3) with rfl | rfl | rfl | rfl <;> assumption, fun _ => h5⟩
  by_cases h6 : R7 v 6 = 0
  · exact ⟨6, by omega, by omega, fun i hi => by rcases (by omega : i = 0 ∨ i = 1 ∨ i = 2 ∨ i = 3 ∨ i = 4) with rfl | rfl | rfl | rfl | rfl <;> assumption, fun _ => h6⟩
  by_cases h7 : R7 v 7 = 0
  · exact ⟨7, by omega, by omega, fun i hi => by rcases (by omega : i = 0 ∨ i = 1 ∨ i = 2 ∨ i = 3 ∨ i = 4 ∨ i = 5) with rfl | rfl | rfl | rfl | rfl | rfl <;> assumption, fun _ => h7⟩
  by_cases h8 : R7 v 8 = 0
  · exact ⟨8, by omega, by omega, fun i hi => by rcases (by omega : i = 0 ∨ i = 1 ∨ i = 2 ∨ i = 3 ∨ i = 4 ∨ i = 5 ∨ i = 6) with rfl | rfl | rfl | rfl | rfl | rfl | rfl <;> assumption, fun _ => h8⟩
  by_cases h9 : R7 v 9 = 0
  · exact ⟨9, by omega, by omega, fun i hi => by rcases (by omega : i = 0 ∨ i = 1 ∨ i = 2 ∨ i = 3 ∨ i = 4 ∨ i = 5 ∨ i = 6 ∨ i = 7) with rfl | rfl | rfl | rfl | rfl | rfl | rfl | rfl <;> assumption, fun _ => h9⟩
  exact ⟨10, by omega, by omega, fun i hi => by rcases (by omega : i = 0 ∨ i = 1 ∨ i = 2 ∨ i = 3 ∨ i = 4 ∨ i = 5 ∨ i = 6 ∨ i = 7 ∨ i = 8) with rfl | rfl | rfl | rfl | rfl | rfl | rfl | rfl | rfl <;> assumption, fun q => by omega⟩
theorem own_bytes {v : Int64} {n : Nat} (hL : Len v n) (g : Nat → Int32) (o : Nat) : ∀ t, t < n → wrA 9 g o v (o + t) = bt v n t := fun t ht => by
  obtain ⟨hs, -⟩ := wr_spec hL 9 0 g o (by have := hL.1; omega) (by have := hL.2.1; omega)
  rw [R7_zero] at hs
  rw [hs, if_pos (by omega), show o + t - o + 0 = t by omega]
theorem own_end (v : Int64) (o : Nat) (fb : Int32) : ∃ t, t ≤ 9 ∧ wrA 9 (fun _ => fb) o v (o + t) &&& (128 : Int32) = 0 := by
  obtain ⟨n, hL⟩ := own_len v
  have h1 := hL.1
  have h2 := hL.2.1
  exact ⟨n - 1, by omega, by rw [own_bytes hL _ _ _ (by omega)]; exact (bt_bit hL (by omega)).mpr (by omega)⟩
theorem own_got (v : Int64) (o : Nat) (fb : Int32) : vaA 9 (wrA 9 (fun _ => fb) o v) o 0 0 = v := by
  obtain ⟨n, hL⟩ := own_len v
  have h1 := hL.1
  have h2 := hL.2.1
  exact va_spec hL _ o (own_bytes hL _ o) 9 0 0 (by omega) (by omega) (Low.zero v)
theorem pd_0 : parseMethodDescriptor "([BIJ)I" = some ⟨[(.array .byte), .int, .long], some .int⟩ := by decide +kernel
theorem pd_1 : parseMethodDescriptor "([BI)J" = some ⟨[(.array .byte), .int], some .long⟩ := by decide +kernel
set_option maxRecDepth 65536 in
set_option maxHeartbeats 40000000 in
theorem sg0_139 {p : Program} {l : Launch} {e : Env} {s : State} {m : MethodId} {args : Array Value} {below : List Frame} {meth : Method} {c : Code} {Z : State} {a0 : Array Value} (hx : p.tables.exec = Jvm.exec) (hZ : Z.Warmed39 s.vm) (hw : ∀ d ∈ tables_1, d.before a0 Z = true) (hby : c.code = code) (hml : c.maxLocals = 12) (hown : s.vm.findClass "com/example/moraine/moraine/format/codec/VarintValueAtPinLaw" = some m.cls) (hlk : meth.locks = false) (hret : meth.sig.returnType = some .boolean) {T : State} {locs : List Loc} {h : Heap} {n0 : Nat} (x0 : Int64) (x1 : Int32) (x2 : Int32) (x3 : Int32) (vv : Int64) (oo : Nat) (of : Int32) (fb : Int32) (b1 : Addr) (X : Stand p l e room_1 s m args below meth c T locs 1 20) (eT : T.heap = h) (N : Fr n0 locs) (Zs : n0 ≤ h.size) (q0 : Ary Z h b1 .byte 20 (fun _ => fb)) (old0_ : n0 ≤ b1) (hoo1 : of.toInt = oo) (hoo2 : oo + 9 < 20) :
    Ends p e below s (QL n0) room_1.cells room_1.slots (T.setTop (mkF m 139 #[.val (.long x0), .second, .val (.int x1), .val (.int x2), .val (.int x3), .val (.long vv), .second, .val (.int of), .val (.int fb), .val (.ref b1), .unset, .unset] [])) := by
  show Ends p e below s _ _ _ (T.setTop (mkF m 139 #[.val (.long x0), .second, .val (.int x1), .val (.int x2), .val (.int x3), .val (.long vv), .second, .val (.int of), .val (.int fb), .val (.ref b1), .unset, .unset] []))
  refine Ends.by ?_ (fun _ k => XS.aload X.here hx rfl (hb hby at_139) rfl rfl k)
  show Ends p e below s _ _ _ (T.setTop (mkF m 141 #[.val (.long x0), .second, .val (.int x1), .val (.int x2), .val (.int x3), .val (.long vv), .second, .val (.int of), .val (.int fb), .val (.ref b1), .unset, .unset] [(.ref b1)]))
  refine Ends.by ?_ (fun _ k => XS.iload X.here hx rfl (hb hby at_141) rfl k)
  show Ends p e below s _ _ _ (T.setTop (mkF m 143 #[.val (.long x0), .second, .val (.int x1), .val (.int x2), .val (.int x3), .val (.long vv), .second, .val (.int of), .val (.int fb), .val (.ref b1), .unset, .unset] [(.int of), (.ref b1)]))
  refine Ends.by ?_ (fun _ k => XS.lload X.here hx rfl (hb hby at_143) rfl k)
  show Ends p e below s _ _ _ (T.setTop (mkF m 145 #[.val (.long x0), .second, .val (.int x1), .val (.int x2), .val (.int x3), .val (.long vv), .second, .val (.int of), .val (.int fb), .val (.ref b1), .unset, .unset] [(.long vv), (.int of), (.ref b1)]))
  obtain ⟨v63, _, ⟨T63, L63, k63, n63⟩, -, X63, ⟨Lc63, hQ63, l63, y63, z63⟩, st63⟩ := Jvm.LawKit.callS X hx (y := (⟨"com/example/moraine/moraine/format/codec/Varint", "write", "([BIJ)I"⟩ : MethodName)) hown (mvT hZ (hw _ (List.mem_of_getElem? (i := 1) rfl))) (mvT hZ (hw _ (List.mem_of_getElem? (i := 2) rfl))) (mvT hZ (hw _ (List.mem_of_getElem? (i := 3) rfl))) (mvT hZ (hw _ (List.mem_of_getElem? (i := 4) rfl))) (by decide) (backOf (W := 0) (rm1 l Z a0 hw [] b1 of vv oo (fun _ => fb) h n0 Zs q0 old0_ hoo1 hoo2) hZ (hw _ (List.mem_of_getElem? (i := 4) rfl)) (hw _ (List.mem_of_getElem? (i := 3) rfl)) (by decide) (by decide)) (g := (mkF m 145 #[.val (.long x0), .second, .val (.int x1), .val (.int x2), .val (.int x3), .val (.long vv), .second, .val (.int of), .val (.int fb), .val (.ref b1), .unset, .unset] [(.long vv), (.int of), (.ref b1)])) rfl (by rw [hml]; rfl) (argsL := [(.ref b1), (.int of), (.long vv)]) (rest := []) (lenOf pd_0 rfl) rfl (by show 2 * 0 + _ ≤ _; exact Nat.le_of_eq rfl) (hb hby at_145) (fun _ _ => ⟨rfl, eT, (by decide : 1 + 0 ≤ _), (by decide : 20 + 0 ≤ _)⟩)
  dsimp only [Pt.U, Pt.locs, Pt.cells, Pt.slots] at X63 l63 y63 z63 st63 hQ63
  subst l63 y63 z63
  obtain ⟨rfl, N63q, K63, Va63⟩ := hQ63
  have N63 := Fr.app N N63q
  have Zs65 : n0 ≤ T63.heap.size := Nat.le_trans Zs K63.1
  refine Ends.by ?_ st63
  show Ends p e below s _ _ _ (T63.setTop (mkF m 148 #[.val (.long x0), .second, .val (.int x1), .val (.int x2), .val (.int x3), .val (.long vv), .second, .val (.int of), .val (.int fb), .val (.ref b1), .unset, .unset] [(.int (Int32.ofNat (wrE 9 oo vv)))]))
  refine Ends.by ?_ (fun _ k => XS.pop X63.here hx rfl (hb hby at_148) rfl rfl k)
  show Ends p e below s _ _ _ (T63.setTop (mkF m 149 #[.val (.long x0), .second, .val (.int x1), .val (.int x2), .val (.int x3), .val (.long vv), .second, .val (.int of), .val (.int fb), .val (.ref b1), .unset, .unset] []))
  refine Ends.by ?_ (fun _ k => XS.aload X63.here hx rfl (hb hby at_149) rfl rfl k)
  show Ends p e below s _ _ _ (T63.setTop (mkF m 151 #[.val (.long x0), .second, .val (.int x1), .val (.int x2), .val (.int x3), .val (.long vv), .second, .val (.int of), .val (.int fb), .val (.ref b1), .unset, .unset] [(.ref b1)]))
  refine Ends.by ?_ (fun _ k => XS.iload X63.here hx rfl (hb hby at_151) rfl k)
  show Ends p e below s _ _ _ (T63.setTop (mkF m 153 #[.val (.long x0), .second, .val (.int x1), .val (.int x2), .val (.int x3), .val (.long vv), .second, .val (.int of), .val (.int fb), .val (.ref b1), .unset, .unset] [(.int of), (.ref b1)]))
  obtain ⟨v66, _, ⟨T66, L66, k66, n66⟩, -, X66, ⟨Lc66, hQ66, l66, y66, z66⟩, st66⟩ := Jvm.LawKit.callS X63 hx (y := (⟨"com/example/moraine/moraine/format/codec/Varint", "valueAt", "([BI)J"⟩ : MethodName)) hown (mvT hZ (hw _ (List.mem_of_getElem? (i := 6) rfl))) (mvT hZ (hw _ (List.mem_of_getElem? (i := 7) rfl))) (mvT hZ (hw _ (List.mem_of_getElem? (i := 3) rfl))) (mvT hZ (hw _ (List.mem_of_getElem? (i := 8) rfl))) (by decide) (backOf (W := 0) (rm2 l Z a0 hw [] b1 of oo (wrA 9 (fun _ => fb) oo vv) T63.heap n0 Zs65 Va63 hoo1 hoo2 (own_end vv oo fb)) hZ (hw _ (List.mem_of_getElem? (i := 8) rfl)) (hw _ (List.mem_of_getElem? (i := 3) rfl)) (by decide) (by decide)) (g := (mkF m 153 #[.val (.long x0), .second, .val (.int x1), .val (.int x2), .val (.int x3), .val (.long vv), .second, .val (.int of), .val (.int fb), .val (.ref b1), .unset, .unset] [(.int of), (.ref b1)])) rfl (by rw [hml]; rfl) (argsL := [(.ref b1), (.int of)]) (rest := []) (lenOf pd_1 rfl) rfl (by show 2 * 0 + _ ≤ _; exact Nat.le_of_eq rfl) (hb hby at_153) (fun _ _ => ⟨rfl, rfl, (by decide : 1 + 0 ≤ _), (by decide : 20 + 0 ≤ _)⟩)
  dsimp only [Pt.U, Pt.locs, Pt.cells, Pt.slots] at X66 l66 y66 z66 st66 hQ66
  subst l66 y66 z66
  obtain ⟨rfl, N66q, e66⟩ := hQ66
  have N66 := Fr.app N63 N66q
  refine Ends.by ?_ st66
  show Ends p e below s _ _ _ (T66.setTop (mkF m 156 #[.val (.long x0), .second, .val (.int x1), .val (.int x2), .val (.int x3), .val (.long vv), .second, .val (.int of), .val (.int fb), .val (.ref b1), .unset, .unset] [(.long (vaA 9 (wrA 9 (fun _ => fb) oo vv) oo 0 0))]))
  refine Ends.by ?_ (fun _ k => XS.lstore X66.here hx rfl (hb hby at_156) rfl (l' := #[.val (.long x0), .second, .val (.int x1), .val (.int x2), .val (.int x3), .val (.long vv), .second, .val (.int of), .val (.int fb), .val (.ref b1), .val (.long (vaA 9 (wrA 9 (fun _ => fb) oo vv) oo 0 0)), .second]) rfl k)
  show Ends p e below s _ _ _ (T66.setTop (mkF m 158 #[.val (.long x0), .second, .val (.int x1), .val (.int x2), .val (.int x3), .val (.long vv), .second, .val (.int of), .val (.int fb), .val (.ref b1), .val (.long (vaA 9 (wrA 9 (fun _ => fb) oo vv) oo 0 0)), .second] []))
  refine Ends.by ?_ (fun _ k => XS.lload X66.here hx rfl (hb hby at_158) rfl k)
  show Ends p e below s _ _ _ (T66.setTop (mkF m 160 #[.val (.long x0), .second, .val (.int x1), .val (.int x2), .val (.int x3), .val (.long vv), .second, .val (.int of), .val (.int fb), .val (.ref b1), .val (.long (vaA 9 (wrA 9 (fun _ => fb) oo vv) oo 0 0)), .second] [(.long (vaA 9 (wrA 9 (fun _ => fb) oo vv) oo 0 0))]))
  refine Ends.by ?_ (fun _ k => XS.lload X66.here hx rfl (hb hby at_160) rfl k)
  show Ends p e below s _ _ _ (T66.setTop (mkF m 162 #[.val (.long x0), .second, .val (.int x1), .val (.int x2), .val (.int x3), .val (.long vv), .second, .val (.int of), .val (.int fb), .val (.ref b1), .val (.long (vaA 9 (wrA 9 (fun _ => fb) oo vv) oo 0 0)), .second] [(.long vv), (.long (vaA 9 (wrA 9 (fun _ => fb) oo vv) oo 0 0))]))
  refine Ends.by ?_ (fun _ k => XS.lcmp X66.here hx rfl (hb hby at_162) rfl k)
  show Ends p e below s _ _ _ (T66.setTop (mkF m 163 #[.val (.long x0), .second, .val (.int x1), .val (.int x2), .val (.int x3), .val (.long vv), .second, .val (.int of), .val (.int fb), .val (.ref b1), .val (.long (vaA 9 (wrA 9 (fun _ => fb) oo vv) oo 0 0)), .second] [(.int (XT.cmpL (vaA 9 (wrA 9 (fun _ => fb) oo vv) oo 0 0) vv))]))
  refine Ends.by ?_ (fun _ k => XS.ifNo X66.here hx rfl (hb hby at_163) rfl (XT.ll_ne_f (own_got vv oo fb : (vaA 9 (wrA 9 (fun _ => fb) oo vv) oo 0 0) = vv)) k)
  show Ends p e below s _ _ _ (T66.setTop (mkF m 166 #[.val (.long x0), .second, .val (.int x1), .val (.int x2), .val (.int x3), .val (.long vv), .second, .val (.int of), .val (.int fb), .val (.ref b1), .val (.long (vaA 9 (wrA 9 (fun _ => fb) oo vv) oo 0 0)), .second] []))
  refine Ends.by ?_ (fun _ k => XS.iconst X66.here hx rfl (hb hby at_166) k)
  show Ends p e below s _ _ _ (T66.setTop (mkF m 167 #[.val (.long x0), .second, .val (.int x1), .val (.int x2), .val (.int x3), .val (.long vv), .second, .val (.int of), .val (.int fb), .val (.ref b1), .val (.long (vaA 9 (wrA 9 (fun _ => fb) oo vv) oo 0 0)), .second] [(.int (1 : Int32))]))
  refine Ends.by ?_ (fun _ k => XS.goto X66.here hx rfl (pc0 := 167) (pc' := 171) rfl (hb hby at_167) (by decide) (by decide) k)
  show Ends p e below s _ _ _ (T66.setTop (mkF m 171 #[.val (.long x0), .second, .val (.int x1), .val (.int x2), .val (.int x3), .val (.long vv), .second, .val (.int of), .val (.int fb), .val (.ref b1), .val (.long (vaA 9 (wrA 9 (fun _ => fb) oo vv) oo 0 0)), .second] [(.int (1 : Int32))]))
  exact Ends.retN X66 hx hlk hret (t := .boolean) (by simp) (hb hby at_171) (w := 1) rfl ⟨rfl, N66⟩ (by decide) (by decide)

theorem ef_rm0 (m : MethodId) (x0 : Int64) (x1 : Int32) (x2 : Int32) (x3 : Int32) : entryFrame m #[(.long x0), (.int x1), (.int x2), (.int x3)] maxLocals = mkF m 0 #[.val (.long x0), .second, .val (.int x1), .val (.int x2), .val (.int x3), .unset, .unset, .unset, .unset, .unset, .unset, .unset] [] := by first | (simp [entryFrame, mkF, argsToLocals, Value.category, maxLocals]; done) | rfl
theorem pn_1 : plainName "com/example/moraine/moraine/format/codec/VarintValueAtPinLaw" = true := by first | (simp [plainName, overriddenIn]; done) | decide +kernel
set_option maxRecDepth 65536 in
set_option maxHeartbeats 40000000 in
theorem rm0 (l : Launch) (Z : State) (a0 : Array Value) (hw : ∀ d ∈ tables_1, d.before a0 Z = true) (ws : List Jvm.Cond) (x0 : Int64) (x1 : Int32) (x2 : Int32) (x3 : Int32) (h0 : Heap) (n0 : Nat) (Z0 : n0 ≤ h0.size) :
    MetFree l x (head1 (Jvm.Cond.code x code maxLocals ret :: ws) room_1) (fun a U => a = #[(.long x0), (.int x1), (.int x2), (.int x3)] ∧ Z.Warmed39 U.vm ∧ U.heap = h0) (fun _ _ _ _ _ => True) (fun _ U o U' => ∃ v L, o = .returned v ∧ (QL n0) v U'.heap L ∧ FrameEnd U o U' L room_1.cells room_1.slots) := by
  refine MetFree.of_bodySF (plainFor_of_name pn_1) hisR ?_
  intro p e s m args below meth c s₁ Bd hml0 hP hK
  obtain ⟨rfl, hZ, hh⟩ := hP
  have hx := Bd.exec
  have hby := Bd.bytes
  have hml : c.maxLocals = 12 := hml0
  have hown : s.vm.findClass "com/example/moraine/moraine/format/codec/VarintValueAtPinLaw" = some m.cls := findClass_of_methodNamed Bd.named
  have hnm := (name_of_methodNamed Bd.named Bd.method).1
  have X0 : Stand p l e room_1 s m #[(.long x0), (.int x1), (.int x2), (.int x3)] below meth c s₁ [] 0 0 := Stand.of_body Bd
  have e0 : s₁.heap = h0 := by rw [← hh, Bd.state]; rfl
  have N0 := Fr.nil n0
  show Ends p e below s (QL n0) room_1.cells room_1.slots (s₁.setTop (entryFrame m #[(.long x0), (.int x1), (.int x2), (.int x3)] maxLocals))
  rw [ef_rm0 m x0 x1 x2 x3]
  show Ends p e below s _ _ _ (s₁.setTop (mkF m 0 #[.val (.long x0), .second, .val (.int x1), .val (.int x2), .val (.int x3), .unset, .unset, .unset, .unset, .unset, .unset, .unset] []))
  refine Ends.by ?_ (fun _ k => XS.lloadN X0.here hx rfl (hb hby at_0) rfl k)
  show Ends p e below s _ _ _ (s₁.setTop (mkF m 1 #[.val (.long x0), .second, .val (.int x1), .val (.int x2), .val (.int x3), .unset, .unset, .unset, .unset, .unset, .unset, .unset] [(.long x0)]))
  refine Ends.by ?_ (fun _ k => XS.iloadN X0.here hx rfl (hb hby at_1) rfl k)
  show Ends p e below s _ _ _ (s₁.setTop (mkF m 2 #[.val (.long x0), .second, .val (.int x1), .val (.int x2), .val (.int x3), .unset, .unset, .unset, .unset, .unset, .unset, .unset] [(.int x1), (.long x0)]))
  refine Ends.by ?_ (fun _ k => XS.bipush X0.here hx rfl (hb hby at_2) k)
  show Ends p e below s _ _ _ (s₁.setTop (mkF m 4 #[.val (.long x0), .second, .val (.int x1), .val (.int x2), .val (.int x3), .unset, .unset, .unset, .unset, .unset, .unset, .unset] [(.int (63 : Int32)), (.int x1), (.long x0)]))
  refine Ends.by ?_ (fun _ k => XS.iand X0.here hx rfl (hb hby at_4) rfl k)
  show Ends p e below s _ _ _ (s₁.setTop (mkF m 5 #[.val (.long x0), .second, .val (.int x1), .val (.int x2), .val (.int x3), .unset, .unset, .unset, .unset, .unset, .unset, .unset] [(.int (x1 &&& (63 : Int32))), (.long x0)]))
  refine Ends.by ?_ (fun _ k => XS.lushr X0.here hx rfl (hb hby at_5) rfl k)
  show Ends p e below s _ _ _ (s₁.setTop (mkF m 6 #[.val (.long x0), .second, .val (.int x1), .val (.int x2), .val (.int x3), .unset, .unset, .unset, .unset, .unset, .unset, .unset] [(.long ((x0.toUInt64 >>> ((x1 &&& (63 : Int32)) &&& 0x3f).toInt64.toUInt64).toInt64))]))
  obtain ⟨vv, hvv⟩ : ∃ z : Int64, z = ((x0.toUInt64 >>> ((x1 &&& (63 : Int32)) &&& 0x3f).toInt64.toUInt64).toInt64) := ⟨_, rfl⟩
  rw [← hvv]
  show Ends p e below s _ _ _ (s₁.setTop (mkF m 6 #[.val (.long x0), .second, .val (.int x1), .val (.int x2), .val (.int x3), .unset, .unset, .unset, .unset, .unset, .unset, .unset] [(.long vv)]))
  refine Ends.by ?_ (fun _ k => XS.lstore X0.here hx rfl (hb hby at_6) rfl (l' := #[.val (.long x0), .second, .val (.int x1), .val (.int x2), .val (.int x3), .val (.long vv), .second, .unset, .unset, .unset, .unset, .unset]) rfl k)
  show Ends p e below s _ _ _ (s₁.setTop (mkF m 8 #[.val (.long x0), .second, .val (.int x1), .val (.int x2), .val (.int x3), .val (.long vv), .second, .unset, .unset, .unset, .unset, .unset] []))
  refine Ends.by ?_ (fun _ k => XS.iloadN X0.here hx rfl (hb hby at_8) rfl k)
  show Ends p e below s _ _ _ (s₁.setTop (mkF m 9 #[.val (.long x0), .second, .val (.int x1), .val (.int x2), .val (.int x3), .val (.long vv), .second, .unset, .unset, .unset, .unset, .unset] [(.int x2)]))
  refine Ends.by ?_ (fun _ k => XS.bipush X0.here hx rfl (hb hby at_9) k)
  show Ends p e below s _ _ _ (s₁.setTop (mkF m 11 #[.val (.long x0), .second, .val (.int x1), .val (.int x2), .val (.int x3), .val (.long vv), .second, .unset, .unset, .unset, .unset, .unset] [(.int (7 : Int32)), (.int x2)]))
  refine Ends.by ?_ (fun _ k => XS.iand X0.here hx rfl (hb hby at_11) rfl k)
  show Ends p e below s _ _ _ (s₁.setTop (mkF m 12 #[.val (.long x0), .second, .val (.int x1), .val (.int x2), .val (.int x3), .val (.long vv), .second, .unset, .unset, .unset, .unset, .unset] [(.int (x2 &&& (7 : Int32)))]))
  obtain ⟨oo, of, hof, hoo1, hoo2⟩ := own_off x2
  rw [← hof]
  show Ends p e below s _ _ _ (s₁.setTop (mkF m 12 #[.val (.long x0), .second, .val (.int x1), .val (.int x2), .val (.int x3), .val (.long vv), .second, .unset, .unset, .unset, .unset, .unset] [(.int of)]))
  refine Ends.by ?_ (fun _ k => XS.istore X0.here hx rfl (hb hby at_12) rfl (l' := #[.val (.long x0), .second, .val (.int x1), .val (.int x2), .val (.int x3), .val (.long vv), .second, .val (.int of), .unset, .unset, .unset, .unset]) rfl k)
  show Ends p e below s _ _ _ (s₁.setTop (mkF m 14 #[.val (.long x0), .second, .val (.int x1), .val (.int x2), .val (.int x3), .val (.long vv), .second, .val (.int of), .unset, .unset, .unset, .unset] []))
  refine Ends.by ?_ (fun _ k => XS.iload X0.here hx rfl (hb hby at_14) rfl k)
  show Ends p e below s _ _ _ (s₁.setTop (mkF m 16 #[.val (.long x0), .second, .val (.int x1), .val (.int x2), .val (.int x3), .val (.long vv), .second, .val (.int of), .unset, .unset, .unset, .unset] [(.int x3)]))
  refine Ends.by ?_ (fun _ k => XS.i2b X0.here hx rfl (hb hby at_16) rfl k)
  show Ends p e below s _ _ _ (s₁.setTop (mkF m 17 #[.val (.long x0), .second, .val (.int x1), .val (.int x2), .val (.int x3), .val (.long vv), .second, .val (.int of), .unset, .unset, .unset, .unset] [(.int (x3.toInt8.toInt32))]))
  obtain ⟨fb, hfb⟩ : ∃ z : Int32, z = (x3.toInt8.toInt32) := ⟨_, rfl⟩
  rw [← hfb]
  show Ends p e below s _ _ _ (s₁.setTop (mkF m 17 #[.val (.long x0), .second, .val (.int x1), .val (.int x2), .val (.int x3), .val (.long vv), .second, .val (.int of), .unset, .unset, .unset, .unset] [(.int fb)]))
  refine Ends.by ?_ (fun _ k => XS.istore X0.here hx rfl (hb hby at_17) rfl (l' := #[.val (.long x0), .second, .val (.int x1), .val (.int x2), .val (.int x3), .val (.long vv), .second, .val (.int of), .val (.int fb), .unset, .unset, .unset]) rfl k)
  show Ends p e below s _ _ _ (s₁.setTop (mkF m 19 #[.val (.long x0), .second, .val (.int x1), .val (.int x2), .val (.int x3), .val (.long vv), .second, .val (.int of), .val (.int fb), .unset, .unset, .unset] []))
  refine Ends.by ?_ (fun _ k => XS.bipush X0.here hx rfl (hb hby at_19) k)
  show Ends p e below s _ _ _ (s₁.setTop (mkF m 21 #[.val (.long x0), .second, .val (.int x1), .val (.int x2), .val (.int x3), .val (.long vv), .second, .val (.int of), .val (.int fb), .unset, .unset, .unset] [(.int (20 : Int32))]))
  obtain ⟨T1, h1, X1, e1, E1, V1, st1⟩ := newAr X0 hx hZ (hw _ (List.mem_of_getElem? (i := 0) rfl)) rfl e0 (n := 20) (z := (20 : Int32)) (cap := 20) (by decide) (by decide) (by decide) (by decide) (by decide) (Ls := #[.val (.long x0), .second, .val (.int x1), .val (.int x2), .val (.int x3), .val (.long vv), .second, .val (.int of), .val (.int fb), .unset, .unset, .unset]) (S := []) (hb hby at_21)
  obtain ⟨b1, g1⟩ : ∃ z, z = h0.size := ⟨_, rfl⟩
  rw [← g1] at V1 st1
  have gn1 : n0 ≤ b1 := Nat.le_trans Z0 (Nat.le_of_eq g1.symm)
  have Zs2 : n0 ≤ h1.size := Nat.le_trans Z0 E1.1
  refine Ends.by ?_ st1
  show Ends p e below s _ _ _ (T1.setTop (mkF m 23 #[.val (.long x0), .second, .val (.int x1), .val (.int x2), .val (.int x3), .val (.long vv), .second, .val (.int of), .val (.int fb), .unset, .unset, .unset] [(.ref b1)]))
  have hfb2 : fb.toInt8.toInt32 = fb := by rw [hfb, Int8.toInt8_toInt32]
  have Vf := own_fill0 fb V1
  refine Ends.by ?_ (fun _ k => XS.dup X1.here hx rfl (hb hby at_23) rfl rfl k)
  show Ends p e below s _ _ _ (T1.setTop (mkF m 24 #[.val (.long x0), .second, .val (.int x1), .val (.int x2), .val (.int x3), .val (.long vv), .second, .val (.int of), .val (.int fb), .unset, .unset, .unset] [(.ref b1), (.ref b1)]))
  refine Ends.by ?_ (fun _ k => XS.iconst X1.here hx rfl (hb hby at_24) k)
  show Ends p e below s _ _ _ (T1.setTop (mkF m 25 #[.val (.long x0), .second, .val (.int x1), .val (.int x2), .val (.int x3), .val (.long vv), .second, .val (.int of), .val (.int fb), .unset, .unset, .unset] [(.int (0 : Int32)), (.ref b1), (.ref b1)]))
  refine Ends.by ?_ (fun _ k => XS.iload X1.here hx rfl (hb hby at_25) rfl k)
  show Ends p e below s _ _ _ (T1.setTop (mkF m 27 #[.val (.long x0), .second, .val (.int x1), .val (.int x2), .val (.int x3), .val (.long vv), .second, .val (.int of), .val (.int fb), .unset, .unset, .unset] [(.int fb), (.int (0 : Int32)), (.ref b1), (.ref b1)]))
  obtain ⟨T3, h3, X3, e3, W3, V3, st3⟩ := stBA X1 hx hZ e1 Vf (j := (0 : Int32)) (x := fb) (by decide) (Ls := #[.val (.long x0), .second, .val (.int x1), .val (.int x2), .val (.int x3), .val (.long vv), .second, .val (.int of), .val (.int fb), .unset, .unset, .unset]) (S := [(.ref b1)]) (hb hby at_27)
  have N3 := Fr.snoc X3 N0 gn1
  have Zs5 : n0 ≤ h3.size := Nat.le_trans Zs2 (Keep.of_wr W3).1
  have Vf1 : Ary Z h3 b1 .byte 20 (fill fb 1) := own_fill (k := 0) V3 hfb2
  refine Ends.by ?_ st3
  show Ends p e below s _ _ _ (T3.setTop (mkF m 28 #[.val (.long x0), .second, .val (.int x1), .val (.int x2), .val (.int x3), .val (.long vv), .second, .val (.int of), .val (.int fb), .unset, .unset, .unset] [(.ref b1)]))
  refine Ends.by ?_ (fun _ k => XS.dup X3.here hx rfl (hb hby at_28) rfl rfl k)
  show Ends p e below s _ _ _ (T3.setTop (mkF m 29 #[.val (.long x0), .second, .val (.int x1), .val (.int x2), .val (.int x3), .val (.long vv), .second, .val (.int of), .val (.int fb), .unset, .unset, .unset] [(.ref b1), (.ref b1)]))
  refine Ends.by ?_ (fun _ k => XS.iconst X3.here hx rfl (hb hby at_29) k)
  show Ends p e below s _ _ _ (T3.setTop (mkF m 30 #[.val (.long x0), .second, .val (.int x1), .val (.int x2), .val (.int x3), .val (.long vv), .second, .val (.int of), .val (.int fb), .unset, .unset, .unset] [(.int (1 : Int32)), (.ref b1), (.ref b1)]))
  refine Ends.by ?_ (fun _ k => XS.iload X3.here hx rfl (hb hby at_30) rfl k)
  show Ends p e below s _ _ _ (T3.setTop (mkF m 32 #[.val (.long x0), .second, .val (.int x1), .val (.int x2), .val (.int x3), .val (.long vv), .second, .val (.int of), .val (.int fb), .unset, .unset, .unset] [(.int fb), (.int (1 : Int32)), (.ref b1), (.ref b1)]))
  obtain ⟨T6, h6, X6, e6, W6, V6, st6⟩ := stBA X3 hx hZ e3 Vf1 (j := (1 : Int32)) (x := fb) (by decide) (Ls := #[.val (.long x0), .second, .val (.int x1), .val (.int x2), .val (.int x3), .val (.long vv), .second, .val (.int of), .val (.int fb), .unset, .unset, .unset]) (S := [(.ref b1)]) (hb hby at_32)
  have N6 := Fr.snoc X6 N3 gn1
  have Zs8 : n0 ≤ h6.size := Nat.le_trans Zs5 (Keep.of_wr W6).1
  have Vf2 : Ary Z h6 b1 .byte 20 (fill fb 2) := own_fill (k := 1) V6 hfb2
  refine Ends.by ?_ st6
  show Ends p e below s _ _ _ (T6.setTop (mkF m 33 #[.val (.long x0), .second, .val (.int x1), .val (.int x2), .val (.int x3), .val (.long vv), .second, .val (.int of), .val (.int fb), .unset, .unset, .unset] [(.ref b1)]))
  refine Ends.by ?_ (fun _ k => XS.dup X6.here hx rfl (hb hby at_33) rfl rfl k)
  show Ends p e below s _ _ _ (T6.setTop (mkF m 34 #[.val (.long x0), .second, .val (.int x1), .val (.int x2), .val (.int x3), .val (.long vv), .second, .val (.int of), .val (.int fb), .unset, .unset, .unset] [(.ref b1), (.ref b1)]))
  refine Ends.by ?_ (fun _ k => XS.iconst X6.here hx rfl (hb hby at_34) k)
  show Ends p e below s _ _ _ (T6.setTop (mkF m 35 #[.val (.long x0), .second, .val (.int x1), .val (.int x2), .val (.int x3), .val (.long vv), .second, .val (.int of), .val (.int fb), .unset, .unset, .unset] [(.int (2 : Int32)), (.ref b1), (.ref b1)]))
  refine Ends.by ?_ (fun _ k => XS.iload X6.here hx rfl (hb hby at_35) rfl k)
  show Ends p e below s _ _ _ (T6.setTop (mkF m 37 #[.val (.long x0), .second, .val (.int x1), .val (.int x2), .val (.int x3), .val (.long vv), .second, .val (.int of), .val (.int fb), .unset, .unset, .unset] [(.int fb), (.int (2 : Int32)), (.ref b1), (.ref b1)]))
  obtain ⟨T9, h9, X9, e9, W9, V9, st9⟩ := stBA X6 hx hZ e6 Vf2 (j := (2 : Int32)) (x := fb) (by decide) (Ls := #[.val (.long x0), .second, .val (.int x1), .val (.int x2), .val (.int x3), .val (.long vv), .second, .val (.int of), .val (.int fb), .unset, .unset, .unset]) (S := [(.ref b1)]) (hb hby at_37)
  have N9 := Fr.snoc X9 N6 gn1
  have Zs11 : n0 ≤ h9.size := Nat.le_trans Zs8 (Keep.of_wr W9).1
  have Vf3 : Ary Z h9 b1 .byte 20 (fill fb 3) := own_fill (k := 2) V9 hfb2
  refine Ends.by ?_ st9
  show Ends p e below s _ _ _ (T9.setTop (mkF m 38 #[.val (.long x0), .second, .val (.int x1), .val (.int x2), .val (.int x3), .val (.long vv), .second, .val (.int of), .val (.int fb), .unset, .unset, .unset] [(.ref b1)]))
  refine Ends.by ?_ (fun _ k => XS.dup X9.here hx rfl (hb hby at_38) rfl rfl k)
  show Ends p e below s _ _ _ (T9.setTop (mkF m 39 #[.val (.long x0), .second, .val (.int x1), .val (.int x2), .val (.int x3), .val (.long vv), .second, .val (.int of), .val (.int fb), .unset, .unset, .unset] [(.ref b1), (.ref b1)]))
  refine Ends.by ?_ (fun _ k => XS.iconst X9.here hx rfl (hb hby at_39) k)
  show Ends p e below s _ _ _ (T9.setTop (mkF m 40 #[.val (.long x0), .second, .val (.int x1), .val (.int x2), .val (.int x3), .val (.long vv), .second, .val (.int of), .val (.int fb), .unset, .unset, .unset] [(.int (3 : Int32)), (.ref b1), (.ref b1)]))
  refine Ends.by ?_ (fun _ k => XS.iload X9.here hx rfl (hb hby at_40) rfl k)
  show Ends p e below s _ _ _ (T9.setTop (mkF m 42 #[.val (.long x0), .second, .val (.int x1), .val (.int x2), .val (.int x3), .val (.long vv), .second, .val (.int of), .val (.int fb), .unset, .unset, .unset] [(.int fb), (.int (3 : Int32)), (.ref b1), (.ref b1)]))
  obtain ⟨T12, h12, X12, e12, W12, V12, st12⟩ := stBA X9 hx hZ e9 Vf3 (j := (3 : Int32)) (x := fb) (by decide) (Ls := #[.val (.long x0), .second, .val (.int x1), .val (.int x2), .val (.int x3), .val (.long vv), .second, .val (.int of), .val (.int fb), .unset, .unset, .unset]) (S := [(.ref b1)]) (hb hby at_42)
  have N12 := Fr.snoc X12 N9 gn1
  have Zs14 : n0 ≤ h12.size := Nat.le_trans Zs11 (Keep.of_wr W12).1
  have Vf4 : Ary Z h12 b1 .byte 20 (fill fb 4) := own_fill (k := 3) V12 hfb2
  refine Ends.by ?_ st12
  show Ends p e below s _ _ _ (T12.setTop (mkF m 43 #[.val (.long x0), .second, .val (.int x1), .val (.int x2), .val (.int x3), .val (.long vv), .second, .val (.int of), .val (.int fb), .unset, .unset, .unset] [(.ref b1)]))
  refine Ends.by ?_ (fun _ k => XS.dup X12.here hx rfl (hb hby at_43) rfl rfl k)
  show Ends p e below s _ _ _ (T12.setTop (mkF m 44 #[.val (.long x0), .second, .val (.int x1), .val (.int x2), .val (.int x3), .val (.long vv), .second, .val (.int of), .val (.int fb), .unset, .unset, .unset] [(.ref b1), (.ref b1)]))
  refine Ends.by ?_ (fun _ k => XS.iconst X12.here hx rfl (hb hby at_44) k)
  show Ends p e below s _ _ _ (T12.setTop (mkF m 45 #[.val (.long x0), .second, .val (.int x1), .val (.int x2), .val (.int x3), .val (.long vv), .second, .val (.int of), .val (.int fb), .unset, .unset, .unset] [(.int (4 : Int32)), (.ref b1), (.ref b1)]))
  refine Ends.by ?_ (fun _ k => XS.iload X12.here hx rfl (hb hby at_45) rfl k)
  show Ends p e below s _ _ _ (T12.setTop (mkF m 47 #[.val (.long x0), .second, .val (.int x1), .val (.int x2), .val (.int x3), .val (.long vv), .second, .val (.int of), .val (.int fb), .unset, .unset, .unset] [(.int fb), (.int (4 : Int32)), (.ref b1), (.ref b1)]))
  obtain ⟨T15, h15, X15, e15, W15, V15, st15⟩ := stBA X12 hx hZ e12 Vf4 (j := (4 : Int32)) (x := fb) (by decide) (Ls := #[.val (.long x0), .second, .val (.int x1), .val (.int x2), .val (.int x3), .val (.long vv), .second, .val (.int of), .val (.int fb), .unset, .unset, .unset]) (S := [(.ref b1)]) (hb hby at_47)
  have N15 := Fr.snoc X15 N12 gn1
  have Zs17 : n0 ≤ h15.size := Nat.le_trans Zs14 (Keep.of_wr W15).1
  have Vf5 : Ary Z h15 b1 .byte 20 (fill fb 5) := own_fill (k := 4) V15 hfb2
  refine Ends.by ?_ st15
  show Ends p e below s _ _ _ (T15.setTop (mkF m 48 #[.val (.long x0), .second, .val (.int x1), .val (.int x2), .val (.int x3), .val (.long vv), .second, .val (.int of), .val (.int fb), .unset, .unset, .unset] [(.ref b1)]))
  refine Ends.by ?_ (fun _ k => XS.dup X15.here hx rfl (hb hby at_48) rfl rfl k)
  show Ends p e below s _ _ _ (T15.setTop (mkF m 49 #[.val (.long x0), .second, .val (.int x1), .val (.int x2), .val (.int x3), .val (.long vv), .second, .val (.int of), .val (.int fb), .unset, .unset, .unset] [(.ref b1), (.ref b1)]))
  refine Ends.by ?_ (fun _ k => XS.iconst X15.here hx rfl (hb hby at_49) k)
  show Ends p e below s _ _ _ (T15.setTop (mkF m 50 #[.val (.long x0), .second, .val (.int x1), .val (.int x2), .val (.int x3), .val (.long vv), .second, .val (.int of), .val (.int fb), .unset, .unset, .unset] [(.int (5 : Int32)), (.ref b1), (.ref b1)]))
  refine Ends.by ?_ (fun _ k => XS.iload X15.here hx rfl (hb hby at_50) rfl k)
  show Ends p e below s _ _ _ (T15.setTop (mkF m 52 #[.val (.long x0), .second, .val (.int x1), .val (.int x2), .val (.int x3), .val (.long vv), .second, .val (.int of), .val (.int fb), .unset, .unset, .unset] [(.int fb), (.int (5 : Int32)), (.ref b1), (.ref b1)]))
  obtain ⟨T18, h18, X18, e18, W18, V18, st18⟩ := stBA X15 hx hZ e15 Vf5 (j := (5 : Int32)) (x := fb) (by decide) (Ls := #[.val (.long x0), .second, .val (.int x1), .val (.int x2), .val (.int x3), .val (.long vv), .second, .val (.int of), .val (.int fb), .unset, .unset, .unset]) (S := [(.ref b1)]) (hb hby at_52)
  have N18 := Fr.snoc X18 N15 gn1
  have Zs20 : n0 ≤ h18.size := Nat.le_trans Zs17 (Keep.of_wr W18).1
  have Vf6 : Ary Z h18 b1 .byte 20 (fill fb 6) := own_fill (k := 5) V18 hfb2
  refine Ends.by ?_ st18
  show Ends p e below s _ _ _ (T18.setTop (mkF m 53 #[.val (.long x0), .second, .val (.int x1), .val (.int x2), .val (.int x3), .val (.long vv), .second, .val (.int of), .val (.int fb), .unset, .unset, .unset] [(.ref b1)]))
  refine Ends.by ?_ (fun _ k => XS.dup X18.here hx rfl (hb hby at_53) rfl rfl k)
  show Ends p e below s _ _ _ (T18.setTop (mkF m 54 #[.val (.long x0), .second, .val (.int x1), .val (.int x2), .val (.int x3), .val (.long vv), .second, .val (.int of), .val (.int fb), .unset, .unset, .unset] [(.ref b1), (.ref b1)]))
  refine Ends.by ?_ (fun _ k => XS.bipush X18.here hx rfl (hb hby at_54) k)
  show Ends p e below s _ _ _ (T18.setTop (mkF m 56 #[.val (.long x0), .second, .val (.int x1), .val (.int x2), .val (.int x3), .val (.long vv), .second, .val (.int of), .val (.int fb), .unset, .unset, .unset] [(.int (6 : Int32)), (.ref b1), (.ref b1)]))
  refine Ends.by ?_ (fun _ k => XS.iload X18.here hx rfl (hb hby at_56) rfl k)
  show Ends p e below s _ _ _ (T18.setTop (mkF m 58 #[.val (.long x0), .second, .val (.int x1), .val (.int x2), .val (.int x3), .val (.long vv), .second, .val (.int of), .val (.int fb), .unset, .unset, .unset] [(.int fb), (.int (6 : Int32)), (.ref b1), (.ref b1)]))
  obtain ⟨T21, h21, X21, e21, W21, V21, st21⟩ := stBA X18 hx hZ e18 Vf6 (j := (6 : Int32)) (x := fb) (by decide) (Ls := #[.val (.long x0), .second, .val (.int x1), .val (.int x2), .val (.int x3), .val (.long vv), .second, .val (.int of), .val (.int fb), .unset, .unset, .unset]) (S := [(.ref b1)]) (hb hby at_58)
  have N21 := Fr.snoc X21 N18 gn1
  have Zs23 : n0 ≤ h21.size := Nat.le_trans Zs20 (Keep.of_wr W21).1
  have Vf7 : Ary Z h21 b1 .byte 20 (fill fb 7) := own_fill (k := 6) V21 hfb2
  refine Ends.by ?_ st21
  show Ends p e below s _ _ _ (T21.setTop (mkF m 59 #[.val (.long x0), .second, .val (.int x1), .val (.int x2), .val (.int x3), .val (.long vv), .second, .val (.int of), .val (.int fb), .unset, .unset, .unset] [(.ref b1)]))
  refine Ends.by ?_ (fun _ k => XS.dup X21.here hx rfl (hb hby at_59) rfl rfl k)
  show Ends p e below s _ _ _ (T21.setTop (mkF m 60 #[.val (.long x0), .second, .val (.int x1), .val (.int x2), .val (.int x3), .val (.long vv), .second, .val (.int of), .val (.int fb), .unset, .unset, .unset] [(.ref b1), (.ref b1)]))
  refine Ends.by ?_ (fun _ k => XS.bipush X21.here hx rfl (hb hby at_60) k)
  show Ends p e below s _ _ _ (T21.setTop (mkF m 62 #[.val (.long x0), .second, .val (.int x1), .val (.int x2), .val (.int x3), .val (.long vv), .second, .val (.int of), .val (.int fb), .unset, .unset, .unset] [(.int (7 : Int32)), (.ref b1), (.ref b1)]))
  refine Ends.by ?_ (fun _ k => XS.iload X21.here hx rfl (hb hby at_62) rfl k)
  show Ends p e below s _ _ _ (T21.setTop (mkF m 64 #[.val (.long x0), .second, .val (.int x1), .val (.int x2), .val (.int x3), .val (.long vv), .second, .val (.int of), .val (.int fb), .unset, .unset, .unset] [(.int fb), (.int (7 : Int32)), (.ref b1), (.ref b1)]))
  obtain ⟨T24, h24, X24, e24, W24, V24, st24⟩ := stBA X21 hx hZ e21 Vf7 (j := (7 : Int32)) (x := fb) (by decide) (Ls := #[.val (.long x0), .second, .val (.int x1), .val (.int x2), .val (.int x3), .val (.long vv), .second, .val (.int of), .val (.int fb), .unset, .unset, .unset]) (S := [(.ref b1)]) (hb hby at_64)
  have N24 := Fr.snoc X24 N21 gn1
  have Zs26 : n0 ≤ h24.size := Nat.le_trans Zs23 (Keep.of_wr W24).1
  have Vf8 : Ary Z h24 b1 .byte 20 (fill fb 8) := own_fill (k := 7) V24 hfb2
  refine Ends.by ?_ st24
  show Ends p e below s _ _ _ (T24.setTop (mkF m 65 #[.val (.long x0), .second, .val (.int x1), .val (.int x2), .val (.int x3), .val (.long vv), .second, .val (.int of), .val (.int fb), .unset, .unset, .unset] [(.ref b1)]))
  refine Ends.by ?_ (fun _ k => XS.dup X24.here hx rfl (hb hby at_65) rfl rfl k)
  show Ends p e below s _ _ _ (T24.setTop (mkF m 66 #[.val (.long x0), .second, .val (.int x1), .val (.int x2), .val (.int x3), .val (.long vv), .second, .val (.int of), .val (.int fb), .unset, .unset, .unset] [(.ref b1), (.ref b1)]))
  refine Ends.by ?_ (fun _ k => XS.bipush X24.here hx rfl (hb hby at_66) k)
  show Ends p e below s _ _ _ (T24.setTop (mkF m 68 #[.val (.long x0), .second, .val (.int x1), .val (.int x2), .val (.int x3), .val (.long vv), .second, .val (.int of), .val (.int fb), .unset, .unset, .unset] [(.int (8 : Int32)), (.ref b1), (.ref b1)]))
  refine Ends.by ?_ (fun _ k => XS.iload X24.here hx rfl (hb hby at_68) rfl k)
  show Ends p e below s _ _ _ (T24.setTop (mkF m 70 #[.val (.long x0), .second, .val (.int x1), .val (.int x2), .val (.int x3), .val (.long vv), .second, .val (.int of), .val (.int fb), .unset, .unset, .unset] [(.int fb), (.int (8 : Int32)), (.ref b1), (.ref b1)]))
  obtain ⟨T27, h27, X27, e27, W27, V27, st27⟩ := stBA X24 hx hZ e24 Vf8 (j := (8 : Int32)) (x := fb) (by decide) (Ls := #[.val (.long x0), .second, .val (.int x1), .val (.int x2), .val (.int x3), .val (.long vv), .second, .val (.int of), .val (.int fb), .unset, .unset, .unset]) (S := [(.ref b1)]) (hb hby at_70)
  have N27 := Fr.snoc X27 N24 gn1
  have Zs29 : n0 ≤ h27.size := Nat.le_trans Zs26 (Keep.of_wr W27).1
  have Vf9 : Ary Z h27 b1 .byte 20 (fill fb 9) := own_fill (k := 8) V27 hfb2
  refine Ends.by ?_ st27
  show Ends p e below s _ _ _ (T27.setTop (mkF m 71 #[.val (.long x0), .second, .val (.int x1), .val (.int x2), .val (.int x3), .val (.long vv), .second, .val (.int of), .val (.int fb), .unset, .unset, .unset] [(.ref b1)]))
  refine Ends.by ?_ (fun _ k => XS.dup X27.here hx rfl (hb hby at_71) rfl rfl k)
  show Ends p e below s _ _ _ (T27.setTop (mkF m 72 #[.val (.long x0), .second, .val (.int x1), .val (.int x2), .val (.int x3), .val (.long vv), .second, .val (.int of), .val (.int fb), .unset, .unset, .unset] [(.ref b1), (.ref b1)]))
  refine Ends.by ?_ (fun _ k => XS.bipush X27.here hx rfl (hb hby at_72) k)
  show Ends p e below s _ _ _ (T27.setTop (mkF m 74 #[.val (.long x0), .second, .val (.int x1), .val (.int x2), .val (.int x3), .val (.long vv), .second, .val (.int of), .val (.int fb), .unset, .unset, .unset] [(.int (9 : Int32)), (.ref b1), (.ref b1)]))
  refine Ends.by ?_ (fun _ k => XS.iload X27.here hx rfl (hb hby at_74) rfl k)
  show Ends p e below s _ _ _ (T27.setTop (mkF m 76 #[.val (.long x0), .second, .val (.int x1), .val (.int x2), .val (.int x3), .val (.long vv), .second, .val (.int of), .val (.int fb), .unset, .unset, .unset] [(.int fb), (.int (9 : Int32)), (.ref b1), (.ref b1)]))
  obtain ⟨T30, h30, X30, e30, W30, V30, st30⟩ := stBA X27 hx hZ e27 Vf9 (j := (9 : Int32)) (x := fb) (by decide) (Ls := #[.val (.long x0), .second, .val (.int x1), .val (.int x2), .val (.int x3), .val (.long vv), .second, .val (.int of), .val (.int fb), .unset, .unset, .unset]) (S := [(.ref b1)]) (hb hby at_76)
  have N30 := Fr.snoc X30 N27 gn1
  have Zs32 : n0 ≤ h30.size := Nat.le_trans Zs29 (Keep.of_wr W30).1
  have Vf10 : Ary Z h30 b1 .byte 20 (fill fb 10) := own_fill (k := 9) V30 hfb2
  refine Ends.by ?_ st30
  show Ends p e below s _ _ _ (T30.setTop (mkF m 77 #[.val (.long x0), .second, .val (.int x1), .val (.int x2), .val (.int x3), .val (.long vv), .second, .val (.int of), .val (.int fb), .unset, .unset, .unset] [(.ref b1)]))
  refine Ends.by ?_ (fun _ k => XS.dup X30.here hx rfl (hb hby at_77) rfl rfl k)
  show Ends p e below s _ _ _ (T30.setTop (mkF m 78 #[.val (.long x0), .second, .val (.int x1), .val (.int x2), .val (.int x3), .val (.long vv), .second, .val (.int of), .val (.int fb), .unset, .unset, .unset] [(.ref b1), (.ref b1)]))
  refine Ends.by ?_ (fun _ k => XS.bipush X30.here hx rfl (hb hby at_78) k)
  show Ends p e below s _ _ _ (T30.setTop (mkF m 80 #[.val (.long x0), .second, .val (.int x1), .val (.int x2), .val (.int x3), .val (.long vv), .second, .val (.int of), .val (.int fb), .unset, .unset, .unset] [(.int (10 : Int32)), (.ref b1), (.ref b1)]))
  refine Ends.by ?_ (fun _ k => XS.iload X30.here hx rfl (hb hby at_80) rfl k)
  show Ends p e below s _ _ _ (T30.setTop (mkF m 82 #[.val (.long x0), .second, .val (.int x1), .val (.int x2), .val (.int x3), .val (.long vv), .second, .val (.int of), .val (.int fb), .unset, .unset, .unset] [(.int fb), (.int (10 : Int32)), (.ref b1), (.ref b1)]))
  obtain ⟨T33, h33, X33, e33, W33, V33, st33⟩ := stBA X30 hx hZ e30 Vf10 (j := (10 : Int32)) (x := fb) (by decide) (Ls := #[.val (.long x0), .second, .val (.int x1), .val (.int x2), .val (.int x3), .val (.long vv), .second, .val (.int of), .val (.int fb), .unset, .unset, .unset]) (S := [(.ref b1)]) (hb hby at_82)
  have N33 := Fr.snoc X33 N30 gn1
  have Zs35 : n0 ≤ h33.size := Nat.le_trans Zs32 (Keep.of_wr W33).1
  have Vf11 : Ary Z h33 b1 .byte 20 (fill fb 11) := own_fill (k := 10) V33 hfb2
  refine Ends.by ?_ st33
  show Ends p e below s _ _ _ (T33.setTop (mkF m 83 #[.val (.long x0), .second, .val (.int x1), .val (.int x2), .val (.int x3), .val (.long vv), .second, .val (.int of), .val (.int fb), .unset, .unset, .unset] [(.ref b1)]))
  refine Ends.by ?_ (fun _ k => XS.dup X33.here hx rfl (hb hby at_83) rfl rfl k)
  show Ends p e below s _ _ _ (T33.setTop (mkF m 84 #[.val (.long x0), .second, .val (.int x1), .val (.int x2), .val (.int x3), .val (.long vv), .second, .val (.int of), .val (.int fb), .unset, .unset, .unset] [(.ref b1), (.ref b1)]))
  refine Ends.by ?_ (fun _ k => XS.bipush X33.here hx rfl (hb hby at_84) k)
  show Ends p e below s _ _ _ (T33.setTop (mkF m 86 #[.val (.long x0), .second, .val (.int x1), .val (.int x2), .val (.int x3), .val (.long vv), .second, .val (.int of), .val (.int fb), .unset, .unset, .unset] [(.int (11 : Int32)), (.ref b1), (.ref b1)]))
  refine Ends.by ?_ (fun _ k => XS.iload X33.here hx rfl (hb hby at_86) rfl k)
  show Ends p e below s _ _ _ (T33.setTop (mkF m 88 #[.val (.long x0), .second, .val (.int x1), .val (.int x2), .val (.int x3), .val (.long vv), .second, .val (.int of), .val (.int fb), .unset, .unset, .unset] [(.int fb), (.int (11 : Int32)), (.ref b1), (.ref b1)]))
  obtain ⟨T36, h36, X36, e36, W36, V36, st36⟩ := stBA X33 hx hZ e33 Vf11 (j := (11 : Int32)) (x := fb) (by decide) (Ls := #[.val (.long x0), .second, .val (.int x1), .val (.int x2), .val (.int x3), .val (.long vv), .second, .val (.int of), .val (.int fb), .unset, .unset, .unset]) (S := [(.ref b1)]) (hb hby at_88)
  have N36 := Fr.snoc X36 N33 gn1
  have Zs38 : n0 ≤ h36.size := Nat.le_trans Zs35 (Keep.of_wr W36).1
  have Vf12 : Ary Z h36 b1 .byte 20 (fill fb 12) := own_fill (k := 11) V36 hfb2
  refine Ends.by ?_ st36
  show Ends p e below s _ _ _ (T36.setTop (mkF m 89 #[.val (.long x0), .second, .val (.int x1), .val (.int x2), .val (.int x3), .val (.long vv), .second, .val (.int of), .val (.int fb), .unset, .unset, .unset] [(.ref b1)]))
  refine Ends.by ?_ (fun _ k => XS.dup X36.here hx rfl (hb hby at_89) rfl rfl k)
  show Ends p e below s _ _ _ (T36.setTop (mkF m 90 #[.val (.long x0), .second, .val (.int x1), .val (.int x2), .val (.int x3), .val (.long vv), .second, .val (.int of), .val (.int fb), .unset, .unset, .unset] [(.ref b1), (.ref b1)]))
  refine Ends.by ?_ (fun _ k => XS.bipush X36.here hx rfl (hb hby at_90) k)
  show Ends p e below s _ _ _ (T36.setTop (mkF m 92 #[.val (.long x0), .second, .val (.int x1), .val (.int x2), .val (.int x3), .val (.long vv), .second, .val (.int of), .val (.int fb), .unset, .unset, .unset] [(.int (12 : Int32)), (.ref b1), (.ref b1)]))
  refine Ends.by ?_ (fun _ k => XS.iload X36.here hx rfl (hb hby at_92) rfl k)
  show Ends p e below s _ _ _ (T36.setTop (mkF m 94 #[.val (.long x0), .second, .val (.int x1), .val (.int x2), .val (.int x3), .val (.long vv), .second, .val (.int of), .val (.int fb), .unset, .unset, .unset] [(.int fb), (.int (12 : Int32)), (.ref b1), (.ref b1)]))
  obtain ⟨T39, h39, X39, e39, W39, V39, st39⟩ := stBA X36 hx hZ e36 Vf12 (j := (12 : Int32)) (x := fb) (by decide) (Ls := #[.val (.long x0), .second, .val (.int x1), .val (.int x2), .val (.int x3), .val (.long vv), .second, .val (.int of), .val (.int fb), .unset, .unset, .unset]) (S := [(.ref b1)]) (hb hby at_94)
  have N39 := Fr.snoc X39 N36 gn1
  have Zs41 : n0 ≤ h39.size := Nat.le_trans Zs38 (Keep.of_wr W39).1
  have Vf13 : Ary Z h39 b1 .byte 20 (fill fb 13) := own_fill (k := 12) V39 hfb2
  refine Ends.by ?_ st39
  show Ends p e below s _ _ _ (T39.setTop (mkF m 95 #[.val (.long x0), .second, .val (.int x1), .val (.int x2), .val (.int x3), .val (.long vv), .second, .val (.int of), .val (.int fb), .unset, .unset, .unset] [(.ref b1)]))
  refine Ends.by ?_ (fun _ k => XS.dup X39.here hx rfl (hb hby at_95) rfl rfl k)
  show Ends p e below s _ _ _ (T39.setTop (mkF m 96 #[.val (.long x0), .second, .val (.int x1), .val (.int x2), .val (.int x3), .val (.long vv), .second, .val (.int of), .val (.int fb), .unset, .unset, .unset] [(.ref b1), (.ref b1)]))
  refine Ends.by ?_ (fun _ k => XS.bipush X39.here hx rfl (hb hby at_96) k)
  show Ends p e below s _ _ _ (T39.setTop (mkF m 98 #[.val (.long x0), .second, .val (.int x1), .val (.int x2), .val (.int x3), .val (.long vv), .second, .val (.int of), .val (.int fb), .unset, .unset, .unset] [(.int (13 : Int32)), (.ref b1), (.ref b1)]))
  refine Ends.by ?_ (fun _ k => XS.iload X39.here hx rfl (hb hby at_98) rfl k)
  show Ends p e below s _ _ _ (T39.setTop (mkF m 100 #[.val (.long x0), .second, .val (.int x1), .val (.int x2), .val (.int x3), .val (.long vv), .second, .val (.int of), .val (.int fb), .unset, .unset, .unset] [(.int fb), (.int (13 : Int32)), (.ref b1), (.ref b1)]))
  obtain ⟨T42, h42, X42, e42, W42, V42, st42⟩ := stBA X39 hx hZ e39 Vf13 (j := (13 : Int32)) (x := fb) (by decide) (Ls := #[.val (.long x0), .second, .val (.int x1), .val (.int x2), .val (.int x3), .val (.long vv), .second, .val (.int of), .val (.int fb), .unset, .unset, .unset]) (S := [(.ref b1)]) (hb hby at_100)
  have N42 := Fr.snoc X42 N39 gn1
  have Zs44 : n0 ≤ h42.size := Nat.le_trans Zs41 (Keep.of_wr W42).1
  have Vf14 : Ary Z h42 b1 .byte 20 (fill fb 14) := own_fill (k := 13) V42 hfb2
  refine Ends.by ?_ st42
  show Ends p e below s _ _ _ (T42.setTop (mkF m 101 #[.val (.long x0), .second, .val (.int x1), .val (.int x2), .val (.int x3), .val (.long vv), .second, .val (.int of), .val (.int fb), .unset, .unset, .unset] [(.ref b1)]))
  refine Ends.by ?_ (fun _ k => XS.dup X42.here hx rfl (hb hby at_101) rfl rfl k)
  show Ends p e below s _ _ _ (T42.setTop (mkF m 102 #[.val (.long x0), .second, .val (.int x1), .val (.int x2), .val (.int x3), .val (.long vv), .second, .val (.int of), .val (.int fb), .unset, .unset, .unset] [(.ref b1), (.ref b1)]))
  refine Ends.by ?_ (fun _ k => XS.bipush X42.here hx rfl (hb hby at_102) k)
  show Ends p e below s _ _ _ (T42.setTop (mkF m 104 #[.val (.long x0), .second, .val (.int x1), .val (.int x2), .val (.int x3), .val (.long vv), .second, .val (.int of), .val (.int fb), .unset, .unset, .unset] [(.int (14 : Int32)), (.ref b1), (.ref b1)]))
  refine Ends.by ?_ (fun _ k => XS.iload X42.here hx rfl (hb hby at_104) rfl k)
  show Ends p e below s _ _ _ (T42.setTop (mkF m 106 #[.val (.long x0), .second, .val (.int x1), .val (.int x2), .val (.int x3), .val (.long vv), .second, .val (.int of), .val (.int fb), .unset, .unset, .unset] [(.int fb), (.int (14 : Int32)), (.ref b1), (.ref b1)]))
  obtain ⟨T45, h45, X45, e45, W45, V45, st45⟩ := stBA X42 hx hZ e42 Vf14 (j := (14 : Int32)) (x := fb) (by decide) (Ls := #[.val (.long x0), .second, .val (.int x1), .val (.int x2), .val (.int x3), .val (.long vv), .second, .val (.int of), .val (.int fb), .unset, .unset, .unset]) (S := [(.ref b1)]) (hb hby at_106)
  have N45 := Fr.snoc X45 N42 gn1
  have Zs47 : n0 ≤ h45.size := Nat.le_trans Zs44 (Keep.of_wr W45).1
  have Vf15 : Ary Z h45 b1 .byte 20 (fill fb 15) := own_fill (k := 14) V45 hfb2
  refine Ends.by ?_ st45
  show Ends p e below s _ _ _ (T45.setTop (mkF m 107 #[.val (.long x0), .second, .val (.int x1), .val (.int x2), .val (.int x3), .val (.long vv), .second, .val (.int of), .val (.int fb), .unset, .unset, .unset] [(.ref b1)]))
  refine Ends.by ?_ (fun _ k => XS.dup X45.here hx rfl (hb hby at_107) rfl rfl k)
  show Ends p e below s _ _ _ (T45.setTop (mkF m 108 #[.val (.long x0), .second, .val (.int x1), .val (.int x2), .val (.int x3), .val (.long vv), .second, .val (.int of), .val (.int fb), .unset, .unset, .unset] [(.ref b1), (.ref b1)]))
  refine Ends.by ?_ (fun _ k => XS.bipush X45.here hx rfl (hb hby at_108) k)
  show Ends p e below s _ _ _ (T45.setTop (mkF m 110 #[.val (.long x0), .second, .val (.int x1), .val (.int x2), .val (.int x3), .val (.long vv), .second, .val (.int of), .val (.int fb), .unset, .unset, .unset] [(.int (15 : Int32)), (.ref b1), (.ref b1)]))
  refine Ends.by ?_ (fun _ k => XS.iload X45.here hx rfl (hb hby at_110) rfl k)
  show Ends p e below s _ _ _ (T45.setTop (mkF m 112 #[.val (.long x0), .second, .val (.int x1), .val (.int x2), .val (.int x3), .val (.long vv), .second, .val (.int of), .val (.int fb), .unset, .unset, .unset] [(.int fb), (.int (15 : Int32)), (.ref b1), (.ref b1)]))
  obtain ⟨T48, h48, X48, e48, W48, V48, st48⟩ := stBA X45 hx hZ e45 Vf15 (j := (15 : Int32)) (x := fb) (by decide) (Ls := #[.val (.long x0), .second, .val (.int x1), .val (.int x2), .val (.int x3), .val (.long vv), .second, .val (.int of), .val (.int fb), .unset, .unset, .unset]) (S := [(.ref b1)]) (hb hby at_112)
  have N48 := Fr.snoc X48 N45 gn1
  have Zs50 : n0 ≤ h48.size := Nat.le_trans Zs47 (Keep.of_wr W48).1
  have Vf16 : Ary Z h48 b1 .byte 20 (fill fb 16) := own_fill (k := 15) V48 hfb2
  refine Ends.by ?_ st48
  show Ends p e below s _ _ _ (T48.setTop (mkF m 113 #[.val (.long x0), .second, .val (.int x1), .val (.int x2), .val (.int x3), .val (.long vv), .second, .val (.int of), .val (.int fb), .unset, .unset, .unset] [(.ref b1)]))
  refine Ends.by ?_ (fun _ k => XS.dup X48.here hx rfl (hb hby at_113) rfl rfl k)
  show Ends p e below s _ _ _ (T48.setTop (mkF m 114 #[.val (.long x0), .second, .val (.int x1), .val (.int x2), .val (.int x3), .val (.long vv), .second, .val (.int of), .val (.int fb), .unset, .unset, .unset] [(.ref b1), (.ref b1)]))
  refine Ends.by ?_ (fun _ k => XS.bipush X48.here hx rfl (hb hby at_114) k)
  show Ends p e below s _ _ _ (T48.setTop (mkF m 116 #[.val (.long x0), .second, .val (.int x1), .val (.int x2), .val (.int x3), .val (.long vv), .second, .val (.int of), .val (.int fb), .unset, .unset, .unset] [(.int (16 : Int32)), (.ref b1), (.ref b1)]))
  refine Ends.by ?_ (fun _ k => XS.iload X48.here hx rfl (hb hby at_116) rfl k)
  show Ends p e below s _ _ _ (T48.setTop (mkF m 118 #[.val (.long x0), .second, .val (.int x1), .val (.int x2), .val (.int x3), .val (.long vv), .second, .val (.int of), .val (.int fb), .unset, .unset, .unset] [(.int fb), (.int (16 : Int32)), (.ref b1), (.ref b1)]))
  obtain ⟨T51, h51, X51, e51, W51, V51, st51⟩ := stBA X48 hx hZ e48 Vf16 (j := (16 : Int32)) (x := fb) (by decide) (Ls := #[.val (.long x0), .second, .val (.int x1), .val (.int x2), .val (.int x3), .val (.long vv), .second, .val (.int of), .val (.int fb), .unset, .unset, .unset]) (S := [(.ref b1)]) (hb hby at_118)
  have N51 := Fr.snoc X51 N48 gn1
  have Zs53 : n0 ≤ h51.size := Nat.le_trans Zs50 (Keep.of_wr W51).1
  have Vf17 : Ary Z h51 b1 .byte 20 (fill fb 17) := own_fill (k := 16) V51 hfb2
  refine Ends.by ?_ st51
  show Ends p e below s _ _ _ (T51.setTop (mkF m 119 #[.val (.long x0), .second, .val (.int x1), .val (.int x2), .val (.int x3), .val (.long vv), .second, .val (.int of), .val (.int fb), .unset, .unset, .unset] [(.ref b1)]))
  refine Ends.by ?_ (fun _ k => XS.dup X51.here hx rfl (hb hby at_119) rfl rfl k)
  show Ends p e below s _ _ _ (T51.setTop (mkF m 120 #[.val (.long x0), .second, .val (.int x1), .val (.int x2), .val (.int x3), .val (.long vv), .second, .val (.int of), .val (.int fb), .unset, .unset, .unset] [(.ref b1), (.ref b1)]))
  refine Ends.by ?_ (fun _ k => XS.bipush X51.here hx rfl (hb hby at_120) k)
  show Ends p e below s _ _ _ (T51.setTop (mkF m 122 #[.val (.long x0), .second, .val (.int x1), .val (.int x2), .val (.int x3), .val (.long vv), .second, .val (.int of), .val (.int fb), .unset, .unset, .unset] [(.int (17 : Int32)), (.ref b1), (.ref b1)]))
  refine Ends.by ?_ (fun _ k => XS.iload X51.here hx rfl (hb hby at_122) rfl k)
  show Ends p e below s _ _ _ (T51.setTop (mkF m 124 #[.val (.long x0), .second, .val (.int x1), .val (.int x2), .val (.int x3), .val (.long vv), .second, .val (.int of), .val (.int fb), .unset, .unset, .unset] [(.int fb), (.int (17 : Int32)), (.ref b1), (.ref b1)]))
  obtain ⟨T54, h54, X54, e54, W54, V54, st54⟩ := stBA X51 hx hZ e51 Vf17 (j := (17 : Int32)) (x := fb) (by decide) (Ls := #[.val (.long x0), .second, .val (.int x1), .val (.int x2), .val (.int x3), .val (.long vv), .second, .val (.int of), .val (.int fb), .unset, .unset, .unset]) (S := [(.ref b1)]) (hb hby at_124)
  have N54 := Fr.snoc X54 N51 gn1
  have Zs56 : n0 ≤ h54.size := Nat.le_trans Zs53 (Keep.of_wr W54).1
  have Vf18 : Ary Z h54 b1 .byte 20 (fill fb 18) := own_fill (k := 17) V54 hfb2
  refine Ends.by ?_ st54
  show Ends p e below s _ _ _ (T54.setTop (mkF m 125 #[.val (.long x0), .second, .val (.int x1), .val (.int x2), .val (.int x3), .val (.long vv), .second, .val (.int of), .val (.int fb), .unset, .unset, .unset] [(.ref b1)]))
  refine Ends.by ?_ (fun _ k => XS.dup X54.here hx rfl (hb hby at_125) rfl rfl k)
  show Ends p e below s _ _ _ (T54.setTop (mkF m 126 #[.val (.long x0), .second, .val (.int x1), .val (.int x2), .val (.int x3), .val (.long vv), .second, .val (.int of), .val (.int fb), .unset, .unset, .unset] [(.ref b1), (.ref b1)]))
  refine Ends.by ?_ (fun _ k => XS.bipush X54.here hx rfl (hb hby at_126) k)
  show Ends p e below s _ _ _ (T54.setTop (mkF m 128 #[.val (.long x0), .second, .val (.int x1), .val (.int x2), .val (.int x3), .val (.long vv), .second, .val (.int of), .val (.int fb), .unset, .unset, .unset] [(.int (18 : Int32)), (.ref b1), (.ref b1)]))
  refine Ends.by ?_ (fun _ k => XS.iload X54.here hx rfl (hb hby at_128) rfl k)
  show Ends p e below s _ _ _ (T54.setTop (mkF m 130 #[.val (.long x0), .second, .val (.int x1), .val (.int x2), .val (.int x3), .val (.long vv), .second, .val (.int of), .val (.int fb), .unset, .unset, .unset] [(.int fb), (.int (18 : Int32)), (.ref b1), (.ref b1)]))
  obtain ⟨T57, h57, X57, e57, W57, V57, st57⟩ := stBA X54 hx hZ e54 Vf18 (j := (18 : Int32)) (x := fb) (by decide) (Ls := #[.val (.long x0), .second, .val (.int x1), .val (.int x2), .val (.int x3), .val (.long vv), .second, .val (.int of), .val (.int fb), .unset, .unset, .unset]) (S := [(.ref b1)]) (hb hby at_130)
  have N57 := Fr.snoc X57 N54 gn1
  have Zs59 : n0 ≤ h57.size := Nat.le_trans Zs56 (Keep.of_wr W57).1
  have Vf19 : Ary Z h57 b1 .byte 20 (fill fb 19) := own_fill (k := 18) V57 hfb2
  refine Ends.by ?_ st57
  show Ends p e below s _ _ _ (T57.setTop (mkF m 131 #[.val (.long x0), .second, .val (.int x1), .val (.int x2), .val (.int x3), .val (.long vv), .second, .val (.int of), .val (.int fb), .unset, .unset, .unset] [(.ref b1)]))
  refine Ends.by ?_ (fun _ k => XS.dup X57.here hx rfl (hb hby at_131) rfl rfl k)
  show Ends p e below s _ _ _ (T57.setTop (mkF m 132 #[.val (.long x0), .second, .val (.int x1), .val (.int x2), .val (.int x3), .val (.long vv), .second, .val (.int of), .val (.int fb), .unset, .unset, .unset] [(.ref b1), (.ref b1)]))
  refine Ends.by ?_ (fun _ k => XS.bipush X57.here hx rfl (hb hby at_132) k)
  show Ends p e below s _ _ _ (T57.setTop (mkF m 134 #[.val (.long x0), .second, .val (.int x1), .val (.int x2), .val (.int x3), .val (.long vv), .second, .val (.int of), .val (.int fb), .unset, .unset, .unset] [(.int (19 : Int32)), (.ref b1), (.ref b1)]))
  refine Ends.by ?_ (fun _ k => XS.iload X57.here hx rfl (hb hby at_134) rfl k)
  show Ends p e below s _ _ _ (T57.setTop (mkF m 136 #[.val (.long x0), .second, .val (.int x1), .val (.int x2), .val (.int x3), .val (.long vv), .second, .val (.int of), .val (.int fb), .unset, .unset, .unset] [(.int fb), (.int (19 : Int32)), (.ref b1), (.ref b1)]))
  obtain ⟨T60, h60, X60, e60, W60, V60, st60⟩ := stBA X57 hx hZ e57 Vf19 (j := (19 : Int32)) (x := fb) (by decide) (Ls := #[.val (.long x0), .second, .val (.int x1), .val (.int x2), .val (.int x3), .val (.long vv), .second, .val (.int of), .val (.int fb), .unset, .unset, .unset]) (S := [(.ref b1)]) (hb hby at_136)
  have N60 := Fr.snoc X60 N57 gn1
  have Zs62 : n0 ≤ h60.size := Nat.le_trans Zs59 (Keep.of_wr W60).1
  have Vf20 : Ary Z h60 b1 .byte 20 (fill fb 20) := own_fill (k := 19) V60 hfb2
  refine Ends.by ?_ st60
  show Ends p e below s _ _ _ (T60.setTop (mkF m 137 #[.val (.long x0), .second, .val (.int x1), .val (.int x2), .val (.int x3), .val (.long vv), .second, .val (.int of), .val (.int fb), .unset, .unset, .unset] [(.ref b1)]))
  have Vc : Ary Z h60 b1 .byte 20 (fun _ => fb) := own_full Vf20
  refine Ends.by ?_ (fun _ k => XS.astore X60.here hx rfl (hb hby at_137) rfl rfl (l' := #[.val (.long x0), .second, .val (.int x1), .val (.int x2), .val (.int x3), .val (.long vv), .second, .val (.int of), .val (.int fb), .val (.ref b1), .unset, .unset]) rfl k)
  show Ends p e below s _ _ _ (T60.setTop (mkF m 139 #[.val (.long x0), .second, .val (.int x1), .val (.int x2), .val (.int x3), .val (.long vv), .second, .val (.int of), .val (.int fb), .val (.ref b1), .unset, .unset] []))
  exact sg0_139 hx hZ hw hby hml hown Bd.notSynchronized Bd.returns x0 x1 x2 x3 vv oo of fb b1 X60 e60 N60 Zs62 Vc gn1 hoo1 hoo2

set_option maxRecDepth 65536 in
set_option maxHeartbeats 40000000 in
theorem comes_1 {Post : Tables → Env → Array Value → State → Outcome → State → Prop} (hpost : ∀ tb e args s v u, (limb_1_1.after args s (.returned v) u = true ∧ limb_1_2.after args s (.returned v) u = true ∧ True) → FrameEnd s (.returned v) u (Jvm.fieldLocs frame_1_writes args s ++ Jvm.arrayLocs frame_1_arrays args s ++ Jvm.staticLocs frame_1_statics s) 16 128 → Post tb e args s (.returned v) u) :
    ArmFor flags0 classFile x code maxLocals ret World_1 tables_1 room_1 Calls_1 rest_1 Pre_1 Post := by
  intro l hfl _ _ p e ha hc hk s m args below hf hA hF happ hP
  obtain ⟨hcalls, hrest, hpre⟩ := hP
  obtain ⟨-, -, -, hnamed, -, -, -, hat⟩ := (Spec.applies_iff hf).mp happ
  obtain ⟨hg, hn⟩ := and_e (Cond.before_iff.mp (show (Jvm.Cond.and given_1 narrow_1).before args s = true from hpre))
  obtain ⟨g1, g2⟩ := and_e hg
  obtain ⟨g3, g4⟩ := and_e g2
  obtain ⟨g5, g6⟩ := and_e g4
  obtain ⟨g7, g8⟩ := and_e g6
  obtain ⟨w0, w1, w2, w3, rfl⟩ : ∃ w0 w1 w2 w3 : Value, args = #[w0, w1, w2, w3] := by
    have hs : args.size = 4 := by simpa [Cond.value, given_1] using g1
    obtain ⟨L⟩ := args
    match L, hs with
    | [w0, w1, w2, w3], _ => exact ⟨w0, w1, w2, w3, rfl⟩
  have hw := fun d (hd : d ∈ tables_1) => atoms_spec (ws := Jvm.Cond.code x code maxLocals ret :: tables_1) hat d (List.mem_cons_of_mem _ hd)
  obtain ⟨i0, ei0⟩ := isL_v g3
  obtain rfl : w0 = (.long i0) := Option.some.inj ei0
  obtain ⟨i1, ei1⟩ := is_v g5
  obtain rfl : w1 = (.int i1) := Option.some.inj ei1
  obtain ⟨i2, ei2⟩ := is_v g7
  obtain rfl : w2 = (.int i2) := Option.some.inj ei2
  obtain ⟨i3, ei3⟩ := is_v g8
  obtain rfl : w3 = (.int i3) := Option.some.inj ei3
  obtain ⟨n, o, h1, h2, h3, v, L, rfl, hQ, hq⟩ := rm0 l s _ hw tables_1 i0 i1 i2 i3 s.heap s.heap.size (Nat.le_refl _) p e ha hc hk s m _ below hf ((Spec.applies_iff_loose hf).mp happ).1 ⟨rfl, State.Warmed39.refl s, rfl⟩ trivial
  obtain ⟨rfl, N⟩ := hQ
  refine ⟨n, _, h1, h2, h3, hpost _ _ _ _ _ _ ⟨Cond.after_iff.mpr rfl, Cond.after_iff.mpr (eq_i res_at (Term.int_eval (1)) rfl), trivial⟩ ⟨hq.1, hq.2.1, (hq.2.2.sift fun y hy => Or.inr (N y hy)).mono (by decide) (by decide)⟩⟩
theorem main_1_1 : Claimed_1_1 := comes_1 fun _ _ _ _ _ _ h hF => ⟨h.1, hF⟩
theorem main_1_2 : Claimed_1_2 := comes_1 fun _ _ _ _ _ _ h hF => ⟨h.2.1, hF⟩
end Jvm.Pilot.@@N@@
namespace Jvm.Pilot.@@N@@
open Jvm Jvm.ClassFile Sem Op Lib Jvm.Free Jvm.Stand Jvm.Pilot.@@N@@.Jvm.D
/-! MADE BY PROGRAM (witnessworld.py) out of the Statement's table words and the real class files: 9 classes; the members and pool entries that the words name. The judged class is class 1, her method 1. -/
namespace start1
open Jvm.ClassFile
def u (s : String) : CpInfo := .utf8 (stringToUtf16 s)
/-- a pool by its gaps: so many unusable entries, then the entry; so many at the end -/
def gap : Nat → List CpInfo → List CpInfo
  | 0, r => r
  | n + 1, r => .unusable :: gap n r
def poolList (es : List (Nat × CpInfo)) (last : Nat) : List CpInfo := es.foldr (fun e r => gap e.1 (e.2 :: r)) (gap last [])
def pool (es : List (Nat × CpInfo)) (last : Nat) : Array CpInfo := ⟨poolList es last⟩
def fileOf (pool : Array CpInfo) (this : Nat) (attrs : Array Attribute := #[]) (ms : Array MethodInfo := #[]) (fl : Nat := 33) (sup : Nat := 0) (ifs : Array Nat := #[]) (fds : Array FieldInfo := #[]) : ClassFile where
  minorVersion := 0
  majorVersion := 65
  constantPool := pool
  accessFlags := fl
  thisClass := this
  superClass := sup
  interfaces := ifs
  fields := fds
  methods := ms
  attributes := attrs
def plain (name : String) (sup : Option ClassId) : Class where
  name := name
  kind := .ordinary
  loader := none
  accessFlags := 33
  super := sup
  interfaces := #[]
  cf := none
  fields := #[]
  methods := #[]
  instanceTypes := #[]
  staticTypes := #[]
  resolved := #[]
  callSites := []
  init := .initialized
  statics := none
  mirror := none

def pool0 : Array CpInfo := pool [(5, u "<init>"), (0, u "()V"), (1, .class_ 10), (1, u "java/lang/Object")] 113

def k0m0 : Method := { name := "<init>", desc := "()V", sig := { parameters := [], returnType := none }, accessFlags := 1, code := none }
/-- java/lang/Object -/
def k0 : Class := { plain "java/lang/Object" none with
  accessFlags := 33
  interfaces := #[]
  cf := some (fileOf pool0 8 #[] #[{ accessFlags := 1, nameIndex := 5, descriptorIndex := 6, attributes := #[] }] 33 0 #[] #[])
  fields := #[]
  methods := #[k0m0]
  instanceTypes := #[]
  staticTypes := #[]
  resolved := Array.replicate 124 none
  statics := none }

def pool1 : Array CpInfo := pool [(2, .class_ 4), (1, u "java/lang/Object"), (0, u "<init>"), (0, u "()V"), (0, .methodref 8 9), (0, .class_ 10), (0, .nameAndType 11 12), (0, u "com/example/moraine/moraine/format/codec/Varint"), (0, u "write"), (0, u "([BIJ)I"), (0, .methodref 8 14), (0, .nameAndType 15 16), (0, u "valueAt"), (0, u "([BI)J"), (0, .class_ 18), (0, u "com/example/moraine/moraine/format/codec/VarintValueAtPinLaw"), (2, u "law"), (0, u "(JIII)Z")] 5

def k1m0 : Method := { name := "<init>", desc := "()V", sig := { parameters := [], returnType := none }, accessFlags := 2, code := none }
def k1c1 : Code := { maxStack := 4, maxLocals := 12, code := code, exceptionTable := #[], attributes := #[] }
def k1m1 : Method := { name := "law", desc := "(JIII)Z", sig := { parameters := [.long, .int, .int, .int], returnType := some .boolean }, accessFlags := 9, code := some k1c1 }
/-- com/example/moraine/moraine/format/codec/VarintValueAtPinLaw -/
def k1 : Class := { plain "com/example/moraine/moraine/format/codec/VarintValueAtPinLaw" (some 0) with
  accessFlags := 49
  interfaces := #[]
  cf := some (fileOf pool1 17 #[] #[{ accessFlags := 2, nameIndex := 5, descriptorIndex := 6, attributes := #[] }, { accessFlags := 9, nameIndex := 21, descriptorIndex := 22, attributes := #[] }] 49 2 #[] #[])
  fields := #[]
  methods := #[k1m0, k1m1]
  instanceTypes := #[]
  staticTypes := #[]
  resolved := Array.replicate 28 none
  statics := none }

def pool2 : Array CpInfo := pool [(2, .class_ 4), (1, u "java/lang/Object"), (0, u "<init>"), (0, u "()V"), (12, .long 18446744073709551488), (1, .long 128), (22, .class_ 45), (0, u "com/example/moraine/moraine/format/codec/Varint"), (3, u "write"), (0, u "([BIJ)I"), (1, u "valueAt"), (0, u "([BI)J")] 22

def k2m0 : Method := { name := "<init>", desc := "()V", sig := { parameters := [], returnType := none }, accessFlags := 2, code := none }
def k2c1 : Code := { maxStack := 6, maxLocals := 7, code := prog_38_method_3_code, exceptionTable := #[], attributes := #[] }
def k2m1 : Method := { name := "write", desc := "([BIJ)I", sig := { parameters := [(.array .byte), .int, .long], returnType := some .int }, accessFlags := 9, code := some k2c1 }
def k2c2 : Code := { maxStack := 5, maxLocals := 6, code := prog_38_method_4_code, exceptionTable := #[], attributes := #[] }
def k2m2 : Method := { name := "valueAt", desc := "([BI)J", sig := { parameters := [(.array .byte), .int], returnType := some .long }, accessFlags := 8, code := some k2c2 }
/-- com/example/moraine/moraine/format/codec/Varint -/
def k2 : Class := { plain "com/example/moraine/moraine/format/codec/Varint" (some 0) with
  accessFlags := 49
  interfaces := #[]
  cf := some (fileOf pool2 44 #[] #[{ accessFlags := 2, nameIndex := 5, descriptorIndex := 6, attributes := #[] }, { accessFlags := 9, nameIndex := 49, descriptorIndex := 50, attributes := #[] }, { accessFlags := 8, nameIndex := 52, descriptorIndex := 53, attributes := #[] }] 49 2 #[] #[])
  fields := #[]
  methods := #[k2m0, k2m1, k2m2]
  instanceTypes := #[]
  staticTypes := #[]
  resolved := Array.replicate 76 none
  statics := none }

def pool3 : Array CpInfo := pool [(1, u "java/lang/Cloneable"), (0, .class_ 1), (0, u "java/lang/Object"), (0, .class_ 3)] 3

/-- java/lang/Cloneable -/
def k3 : Class := { plain "java/lang/Cloneable" (some 0) with
  accessFlags := 1537
  interfaces := #[]
  cf := some (fileOf pool3 2 #[] #[] 1537 4 #[] #[])
  fields := #[]
  methods := #[]
  instanceTypes := #[]
  staticTypes := #[]
  resolved := Array.replicate 8 none
  statics := none }

def pool4 : Array CpInfo := pool [(1, u "java/io/Serializable"), (0, .class_ 1), (0, u "java/lang/Object"), (0, .class_ 3)] 3

/-- java/io/Serializable -/
def k4 : Class := { plain "java/io/Serializable" (some 0) with
  accessFlags := 1537
  interfaces := #[]
  cf := some (fileOf pool4 2 #[] #[] 1537 4 #[] #[])
  fields := #[]
  methods := #[]
  instanceTypes := #[]
  staticTypes := #[]
  resolved := Array.replicate 8 none
  statics := none }

/-- the primitive byte -/
def k5 : Class := { plain "byte" none with kind := .primitive 'B', accessFlags := 0x411 }
/-- [B -/
def k6 : Class := { plain "[B" (some 0) with kind := .array 5 .byte, interfaces := #[3, 4], accessFlags := 1041 }

/-- the primitive int -/
def k7 : Class := { plain "int" none with kind := .primitive 'I', accessFlags := 0x411 }
/-- [I -/
def k8 : Class := { plain "[I" (some 0) with kind := .array 7 .int, interfaces := #[3, 4], accessFlags := 1041 }

def heap : Heap := #[]
def classes : Array Class := #[k0, k1, k2, k3, k4, k5, k6, k7, k8]
def interned : List (Array UInt16 × Addr) := []
def slotsUsed : Nat := 0
def theMethod : MethodId := ⟨1, 1⟩
def args0 : Array Value := #[.long 300, .int 7, .int 1, .int 1]
def aboutOver (below : List Frame) : State where
  vm := { classes := classes, interned := interned.toArray }
  heap := heap
  slotsUsed := slotsUsed
  threads := #[{ frames := .invoking theMethod args0 :: below }]
def below0 : List Frame := [.native { method := ⟨0, 0⟩, args := #[] }]
def about1 : State := aboutOver below0
def p0 : Program := .bare "" "" ""
def e0 : Env := launch0.env 0 0 0
theorem w_frames : about1.frames = Frame.invoking theMethod args0 :: below0 := rfl
set_option maxRecDepth 65536 in
theorem w_args : argsFit about1.vm theMethod args0 = true := by decide +kernel
set_option maxRecDepth 65536 in
theorem w_heap : heapFits about1 = true := by decide +kernel
set_option maxRecDepth 65536 in
theorem w_runnable : about1.curStatus? = some .runnable := by decide +kernel
set_option maxRecDepth 65536 in
theorem w_alone : about1.alone = true := by decide +kernel
set_option maxRecDepth 65536 in
theorem w_named : about1.methodNamed? x = some theMethod := by decide +kernel
set_option maxRecDepth 65536 in
theorem w_hears : about1.hears theMethod below0 = true := by decide +kernel
set_option maxRecDepth 65536 in
theorem w_ripe : about1.ripe theMethod args0 below0 = true := by decide +kernel
theorem w_running : about1.status = .running := rfl
set_option maxRecDepth 65536 in
theorem w_room : about1.hasRoom e0.platform room_1 = true :=
  launch0.hasRoom_least _ room_1 (by decide +kernel) (by decide +kernel) (by decide +kernel) (by decide +kernel) (by decide +kernel) (by decide +kernel)
theorem allAtoms_all (ts : List Jvm.Cond) (a : Array Jvm.Value) (st : Jvm.State) : (allAtoms ts).before a st = ts.all (fun c => c.before a st) := by
  induction ts with
  | nil => rfl
  | cons c t ih =>
    show (Jvm.Cond.and c (allAtoms t)).before a st = _
    rw [Jvm.Cond.before_and, ih, List.all_cons]
def words1 : List Jvm.Cond := Jvm.Cond.code x code maxLocals ret :: tables_1
/-- a 'code' word, met by the world's own term for the bytes: nothing is compared byte by byte -/
theorem code_word {y : MethodName} {bytes : ByteArray} {mx : Nat} {rt : Option FieldType} {a : Array Value} {s : State} {m : MethodId} {meth : Method} {c : Code} (h1 : s.methodNamed? y = some m) (h2 : s.vm.method? m = some meth) (h3 : meth.code = some c) (h4 : c.code = bytes)
    (h5 : (c.maxLocals == mx && c.exceptionTable.isEmpty && decide (c.maxStack ≤ mostOperands) && decide (meth.sig.returnType = rt) && !meth.locks && decide (parseMethodDescriptor y.desc = some meth.sig)) = true) : (Jvm.Cond.code y bytes mx rt).before a s = true := by
  simp only [Bool.and_eq_true, beq_iff_eq, Bool.not_eq_true', decide_eq_true_eq] at h5
  obtain ⟨⟨⟨⟨⟨g1, g2⟩, g3⟩, g4⟩, g5⟩, g6⟩ := h5
  simp [Cond.before, Cond.holds, Cond.value, h1, h2, h3, h4, g1, g2, g3, g4, g5, g6]
def isCode : Jvm.Cond → Bool
  | .code _ _ _ _ => true
  | _ => false
theorem all_split {L : List Jvm.Cond} {P : Jvm.Cond → Bool} (h1 : L.all (fun c => isCode c || P c) = true) (h2 : ∀ c ∈ L.filter isCode, P c = true) : L.all P = true := by
  refine List.all_eq_true.mpr fun c hc => ?_
  have h := List.all_eq_true.mp h1 c hc
  rcases Bool.eq_false_or_eq_true (isCode c) with hi | hi
  · exact h2 c (List.mem_filter.mpr ⟨hc, hi⟩)
  · simpa [hi] using h
set_option maxRecDepth 65536 in
theorem w_c0 : (Jvm.Cond.code x code maxLocals ret).before args0 about1 = true := code_word (m := ⟨1, 1⟩) (meth := k1m1) (c := k1c1) (by decide +kernel) rfl rfl rfl (by decide +kernel)
set_option maxRecDepth 65536 in
theorem w_c1 : (Jvm.Cond.code ({ cls := "com/example/moraine/moraine/format/codec/Varint", name := "write", desc := "([BIJ)I" } : Jvm.MethodName) prog_38_method_3_code (7 : Nat) (Option.some Jvm.ClassFile.FieldType.int)).before args0 about1 = true := code_word (m := ⟨2, 1⟩) (meth := k2m1) (c := k2c1) (by decide +kernel) rfl rfl rfl (by decide +kernel)
set_option maxRecDepth 65536 in
theorem w_c2 : (Jvm.Cond.code ({ cls := "com/example/moraine/moraine/format/codec/Varint", name := "valueAt", desc := "([BI)J" } : Jvm.MethodName) prog_38_method_4_code (6 : Nat) (Option.some Jvm.ClassFile.FieldType.long)).before args0 about1 = true := code_word (m := ⟨2, 2⟩) (meth := k2m2) (c := k2c2) (by decide +kernel) rfl rfl rfl (by decide +kernel)
def codes1 : List Jvm.Cond := [Jvm.Cond.code x code maxLocals ret, Jvm.Cond.code ({ cls := "com/example/moraine/moraine/format/codec/Varint", name := "write", desc := "([BIJ)I" } : Jvm.MethodName) prog_38_method_3_code (7 : Nat) (Option.some Jvm.ClassFile.FieldType.int), Jvm.Cond.code ({ cls := "com/example/moraine/moraine/format/codec/Varint", name := "valueAt", desc := "([BI)J" } : Jvm.MethodName) prog_38_method_4_code (6 : Nat) (Option.some Jvm.ClassFile.FieldType.long)]
set_option maxRecDepth 65536 in
theorem codes_eq : words1.filter isCode = codes1 := rfl
theorem w_codes : ∀ c ∈ words1.filter isCode, c.before args0 about1 = true := by
  rw [codes_eq]
  intro c hc
  simp only [codes1, List.mem_cons, List.not_mem_nil, or_false] at hc
  rcases hc with rfl | rfl | rfl
  · exact w_c0
  · exact w_c1
  · exact w_c2
set_option maxRecDepth 65536 in
theorem w_t1 : words1.all (fun c => isCode c || c.before args0 about1) = true := by decide +kernel
theorem w_tables : (allAtoms (Jvm.Cond.code x code maxLocals ret :: tables_1)).before args0 about1 = true := by
  rw [allAtoms_all]
  show words1.all (fun c => c.before args0 about1) = true
  refine all_split ?_ w_codes
  rw [w_t1]
set_option maxRecDepth 65536 in
theorem w_case : (Jvm.Cond.and given_1 narrow_1).before args0 about1 = true := by decide +kernel
theorem w_applies : (headSpec (Jvm.Cond.code x code maxLocals ret :: tables_1) room_1).applies x e0.platform about1 = true :=
  (Spec.applies_iff w_frames).mpr ⟨w_running, w_runnable, w_alone, w_named, w_hears, w_ripe, w_room, w_tables⟩
theorem atStart : AtStart classFile x code maxLocals ret World_1 tables_1 room_1 Calls_1 rest_1 Pre_1 launch0 p0 e0 about1 theMethod args0 below0 :=
  ⟨lists_1, trivial, launch0.admits_env _ _ _, launch0.least_env, fairChoices_fair.cas, fairChoices_fair.clock, w_frames, w_args, w_heap, w_applies, trivial, trivial, w_case⟩
end start1
theorem witness_1 : WitnessClaimed_1 := ⟨start1.p0, start1.e0, start1.about1, start1.theMethod, start1.args0, start1.below0, start1.atStart⟩
end Jvm.Pilot.@@N@@
