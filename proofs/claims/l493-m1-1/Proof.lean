import JvmDerived
import JvmDerived.Pilot.@@N@@Statement
import JvmDerived.Pilot.@@N@@Code
set_option linter.unusedVariables false
set_option linter.unusedSimpArgs false
namespace Jvm.Pilot.@@N@@
open Jvm Jvm.ClassFile Sem Op Lib Jvm.Free Jvm.Stand Jvm.LawKit Jvm.RoadKit Bundle Jvm.Pilot.@@N@@.Jvm.D
section Own
variable {p : Program} {l : Launch} {e : Env} {R : Room} {s : State} {m : MethodId} {args : Array Value} {below : List Frame} {meth : Method} {c : Code} {T : State} {locs : List Loc} {cells slots : Nat}
/-- from u the walk comes to its return, with what Q says of value, heap and the places written -/
def Ends (p : Program) (e : Env) (below : List Frame) (s : State) (Q : Option Value → Heap → List Loc → Prop) (kc ks : Nat) (u : State) : Prop :=
  ∃ s₂ o, Steps p.tables e below u s₂ ∧ s₂.status = .running ∧ Ended s₂ below o ∧ ∃ v L, o = .returned v ∧ Q v s₂.heap L ∧ FrameEnd s o s₂ L kc ks
variable {Q : Option Value → Heap → List Loc → Prop} {kc ks : Nat} {u u' : State}
theorem Ends.by (k : Ends p e below s Q kc ks u') (h : ∀ t, Steps p.tables e below u' t → Steps p.tables e below u t) : Ends p e below s Q kc ks u := by
  obtain ⟨s₂, o, h1, r⟩ := k
  exact ⟨s₂, o, h _ h1, r⟩
theorem Ends.go (h : Steps p.tables e below u u') (k : Ends p e below s Q kc ks u') : Ends p e below s Q kc ks u := k.by fun _ q => h.trans q
theorem Ends.retN (X : Stand p l e R s m args below meth c T locs cells slots) (hx : p.tables.exec = Jvm.exec) (hlk : meth.locks = false) {t : FieldType} (hret : meth.sig.returnType = some t) (ht : t = .boolean ∨ t = .byte ∨ t = .char ∨ t = .short) {pc : Nat} {Ls : Array Slot} {z w : Int32} {rest : List Value}
    (hd : decode c.code pc = .ok (.ireturn, 1)) (hz : nar t z = w) (hQ : Q (some (.int w)) T.heap locs) (hc : cells ≤ kc) (hs : slots ≤ ks) : Ends p e below s Q kc ks (T.setTop (mkF m pc Ls (.int z :: rest))) := by
  subst hz
  obtain ⟨fs, hr, hrun, hended, hW, hsame⟩ := X.leave (v := some (.int (nar t z))) (fun h => by rw [hret] at h; cases h) hlk
  exact ⟨_, _, Jvm.RoadKit.retN X hx hret ht hd hr, hrun, hended, _, _, rfl, hQ, ⟨_, rfl⟩, hW, hsame.mono hc hs⟩
theorem Ends.retI (X : Stand p l e R s m args below meth c T locs cells slots) (hx : p.tables.exec = Jvm.exec) (hlk : meth.locks = false) (hret : meth.sig.returnType = some .int) {pc : Nat} {Ls : Array Slot} {z : Int32} {rest : List Value}
    (hd : decode c.code pc = .ok (.ireturn, 1)) (hQ : Q (some (.int z)) T.heap locs) (hc : cells ≤ kc) (hs : slots ≤ ks) : Ends p e below s Q kc ks (T.setTop (mkF m pc Ls (.int z :: rest))) := by
  obtain ⟨fs, hr, hrun, hended, hW, hsame⟩ := X.leave (v := some (.int z)) (fun h => by rw [hret] at h; cases h) hlk
  exact ⟨_, _, Jvm.RoadKit.retOut X hx hret rfl (Or.inl ⟨rfl, by simp, z, rfl⟩) hd hr, hrun, hended, _, _, rfl, hQ, ⟨_, rfl⟩, hW, hsame.mono hc hs⟩
theorem Ends.retJ (X : Stand p l e R s m args below meth c T locs cells slots) (hx : p.tables.exec = Jvm.exec) (hlk : meth.locks = false) (hret : meth.sig.returnType = some .long) {pc : Nat} {Ls : Array Slot} {z : Int64} {rest : List Value}
    (hd : decode c.code pc = .ok (.lreturn, 1)) (hQ : Q (some (.long z)) T.heap locs) (hc : cells ≤ kc) (hs : slots ≤ ks) : Ends p e below s Q kc ks (T.setTop (mkF m pc Ls (.long z :: rest))) := by
  obtain ⟨fs, hr, hrun, hended, hW, hsame⟩ := X.leave (v := some (.long z)) (fun h => by rw [hret] at h; cases h) hlk
  exact ⟨_, _, Jvm.RoadKit.retOut X hx hret rfl (Or.inr (Or.inl ⟨rfl, rfl, z, rfl⟩)) hd hr, hrun, hended, _, _, rfl, hQ, ⟨_, rfl⟩, hW, hsame.mono hc hs⟩
theorem Ends.retA (X : Stand p l e R s m args below meth c T locs cells slots) (hx : p.tables.exec = Jvm.exec) (hlk : meth.locks = false) {t : FieldType} (hret : meth.sig.returnType = some t) (ht : t.isReference = true) (hn : ∀ a, narrow t (.ref a) = .ref a) {pc : Nat} {Ls : Array Slot} {a : Addr} {rest : List Value}
    (hd : decode c.code pc = .ok (.areturn, 1)) (hQ : Q (some (.ref a)) T.heap locs) (hc : cells ≤ kc) (hs : slots ≤ ks) : Ends p e below s Q kc ks (T.setTop (mkF m pc Ls (.ref a :: rest))) := by
  obtain ⟨fs, hr, hrun, hended, hW, hsame⟩ := X.leave (v := some (.ref a)) (fun h => by rw [hret] at h; cases h) hlk
  exact ⟨_, _, Jvm.RoadKit.retOut X hx hret (hn a) (Or.inr (Or.inr (Or.inr (Or.inr ⟨rfl, ht, rfl⟩)))) hd hr, hrun, hended, _, _, rfl, hQ, ⟨_, rfl⟩, hW, hsame.mono hc hs⟩
theorem Ends.retV (X : Stand p l e R s m args below meth c T locs cells slots) (hx : p.tables.exec = Jvm.exec) (hlk : meth.locks = false) (hret : meth.sig.returnType = none) {pc : Nat} {Ls : Array Slot}
    (hd : decode c.code pc = .ok (.return_, 1)) (hQ : Q none T.heap locs) (hc : cells ≤ kc) (hs : slots ≤ ks) : Ends p e below s Q kc ks (T.setTop (mkF m pc Ls [])) := by
  obtain ⟨fs, hr, hrun, hended, hW, hsame⟩ := X.leave (v := none) (fun _ => rfl) hlk
  exact ⟨_, _, X.returnOut hx hret hd hr, hrun, hended, _, _, rfl, hQ, ⟨_, rfl⟩, hW, hsame.mono hc hs⟩
theorem lremM {g : JFrame} {target : State} (X : Stand p l e R s m args below meth c T locs cells slots) (hx : p.tables.exec = Jvm.exec) (hg : g.method = m) {x y : Int64} {rest : List Value} (hd : decode c.code g.pc = .ok (.lrem, 1)) (hs : g.stack = .long y :: .long x :: rest) (hy : y ≠ 0)
    (hr : Steps p.tables e below (T.setTop { g with pc := g.pc + 1, stack := .long (x % y) :: rest }) target) : Steps p.tables e below (T.setTop g) target :=
  XS.lrem X.here hx hg hd hs hy (by rw [lrem_mod x y]; exact hr)
/-- a method that writes nothing: what it returns, the heap as it was -/
def QP (V : Option Value) (h0 : Heap) (n0 : Nat) (v : Option Value) (h : Heap) (L : List Loc) : Prop := v = V ∧ Fr n0 L ∧ h = h0
/-- a law: it returns 1; nothing old is written -/
def QL (n0 : Nat) (v : Option Value) (_ : Heap) (L : List Loc) : Prop := v = some (.int 1) ∧ Fr n0 L
end Own
section OwnHeap
variable {p : Program} {l : Launch} {e : Env} {R : Room} {s : State} {m : MethodId} {args : Array Value} {below : List Frame} {meth : Method} {c : Code} {T : State} {locs : List Loc} {cells slots : Nat}
variable {Q : Option Value → Heap → List Loc → Prop} {kc ks : Nat} {Z : State} {a0 : Array Value} {h h' : Heap} {a b : Addr} {ty : FieldType} {n sl : Nat} {g : Nat → Int32} {v : Value} {j x : Int32} {pc : Nat} {Ls : Array Slot} {S : List Value}
/-- an array of n small values: place j holds g j -/
def Ary (Z : State) (h : Heap) (a : Addr) (ty : FieldType) (n : Nat) (g : Nat → Int32) : Prop := ∃ cl : Cell, Arr Z h a cl ty ∧ cl.slots.size = n ∧ n < 2 ^ 31 ∧ ∀ j, j < n → cl.slots[j]? = some (.int (g j))
def upd (g : Nat → Int32) (j : Nat) (x : Int32) : Nat → Int32 := fun i => if i = j then x else g i
theorem Ary.lt (V : Ary Z h a ty n g) : a < h.size := V.elim fun _ q => q.1.lt
theorem Ary.ext (V : Ary Z h a ty n g) (E : Ext h h') : Ary Z h' a ty n g := by obtain ⟨c, A, r⟩ := V; exact ⟨c, A.ext E, r⟩
theorem Ary.other (V : Ary Z h b ty n g) (W : Wr h h' a sl v) (q : b ≠ a) : Ary Z h' b ty n g := by obtain ⟨c, A, r⟩ := V; exact ⟨c, A.other W q, r⟩
theorem Ary.keep {ws : List Addr} (V : Ary Z h a ty n g) (K : Keep h h' ws) (q : a ∉ ws) : Ary Z h' a ty n g := by obtain ⟨c, A, r⟩ := V; exact ⟨c, ⟨K.2.1 a c A.1 q, A.2⟩, r⟩
theorem Ary.set (V : Ary Z h a ty n g) (W : Wr h h' a sl (.int x)) : Ary Z h' a ty n (upd g sl x) := by
  obtain ⟨c, A, S, M, H⟩ := V
  refine ⟨_, A.same W, by rw [sz_set]; exact S, M, fun i hi => ?_⟩
  have hi' : i < c.slots.size := by omega
  simp only [Cell.setSlot, Array.getElem?_setIfInBounds, upd]
  by_cases q : i = sl
  · subst q; simp [hi']
  · have q' : ¬ sl = i := fun e => q e.symm
    simp [q, q']; exact H i hi
theorem Ary.inb {cl : Cell} (S : cl.slots.size = n) (hj : 0 ≤ j.toInt ∧ j.toInt < n) : ¬ (j < 0 ∨ cl.slots.size ≤ j.toNatClampNeg) := by
  have e0 : (0 : Int32).toInt = 0 := rfl
  simp only [Int32.lt_iff_toInt_lt, Int32.toNatClampNeg] at *; omega
theorem Ary.at {cl : Cell} (H : ∀ j, j < n → cl.slots[j]? = some (.int (g j))) (hj : 0 ≤ j.toInt ∧ j.toInt < n) : cl.slots[j.toNatClampNeg]? = some (.int (g j.toNatClampNeg)) :=
  H _ (by simp only [Int32.toNatClampNeg]; omega)
theorem Ends.iald (k : Ends p e below s Q kc ks (T.setTop (mkF m (pc + 1) Ls (.int (g j.toNatClampNeg) :: S)))) (X : Stand p l e R s m args below meth c T locs cells slots) (hx : p.tables.exec = Jvm.exec) (hZ : Z.Warmed39 s.vm) (eT : T.heap = h) (V : Ary Z h a .int n g) (hj : 0 ≤ j.toInt ∧ j.toInt < n)
    (hd : decode c.code pc = .ok (.iaload, 1)) : Ends p e below s Q kc ks (T.setTop (mkF m pc Ls (.int j :: .ref a :: S))) := by
  obtain ⟨cl, A, S1, M, H⟩ := V
  exact k.by fun t q => X.iaload hx (j := j) (by rw [eT]; exact A.1) (State.isArrayOf_alike hZ.alike A.2.1) A.2.2 (Ary.inb S1 hj) (Ary.at H hj) (g := mkF m pc Ls (.int j :: .ref a :: S)) rfl rfl hd t q
theorem Ends.bald (k : Ends p e below s Q kc ks (T.setTop (mkF m (pc + 1) Ls (.int (g j.toNatClampNeg) :: S)))) (X : Stand p l e R s m args below meth c T locs cells slots) (hx : p.tables.exec = Jvm.exec) (hZ : Z.Warmed39 s.vm) (eT : T.heap = h) (V : Ary Z h a .byte n g) (hj : 0 ≤ j.toInt ∧ j.toInt < n)
    (hd : decode c.code pc = .ok (.baload, 1)) : Ends p e below s Q kc ks (T.setTop (mkF m pc Ls (.int j :: .ref a :: S))) := by
  obtain ⟨cl, A, S1, M, H⟩ := V
  exact k.by fun t q => X.baloadBytes hx (j := j) (by rw [eT]; exact A.1) (State.isArrayOf_alike hZ.alike A.2.1) A.2.2 (Ary.inb S1 hj) (Ary.at H hj) (g := mkF m pc Ls (.int j :: .ref a :: S)) rfl rfl hd t q
theorem Ends.alen {z : Int32} (k : Ends p e below s Q kc ks (T.setTop (mkF m (pc + 1) Ls (.int z :: S)))) (X : Stand p l e R s m args below meth c T locs cells slots) (hx : p.tables.exec = Jvm.exec) (hZ : Z.Warmed39 s.vm) (eT : T.heap = h) (V : Ary Z h a ty n g) (hz : z.toInt = n)
    (hd : decode c.code pc = .ok (.arraylength, 1)) : Ends p e below s Q kc ks (T.setTop (mkF m pc Ls (.ref a :: S))) := by
  obtain ⟨cl, A, S1, M, H⟩ := V
  have e1 : cl.slots.size.toInt32 = z := by
    rw [S1]; apply Int32.toInt_inj.mp; rw [hz]; exact len_toInt M
  exact k.by fun t q => X.arraylength hx (by rw [eT]; exact A.1) (State.isArrayOf_alike hZ.alike A.2.1) (g := mkF m pc Ls (.ref a :: S)) rfl rfl hd t (by rw [e1]; exact q)
theorem stIA (X : Stand p l e R s m args below meth c T locs cells slots) (hx : p.tables.exec = Jvm.exec) (hZ : Z.Warmed39 s.vm) (eT : T.heap = h) (V : Ary Z h a .int n g) (hj : 0 ≤ j.toInt ∧ j.toInt < n) (hd : decode c.code pc = .ok (.iastore, 1)) :
    ∃ T' h', Stand p l e R s m args below meth c T' (locs ++ [⟨a, j.toNatClampNeg⟩]) cells slots ∧ T'.heap = h' ∧ Wr h h' a j.toNatClampNeg (.int x) ∧ Ary Z h' a .int n (upd g j.toNatClampNeg x) ∧
      ∀ t, Steps p.tables e below (T'.setTop (mkF m (pc + 1) Ls S)) t → Steps p.tables e below (T.setTop (mkF m pc Ls (.int x :: .int j :: .ref a :: S))) t := by
  have V' := V
  obtain ⟨cl, A, S1, M, H⟩ := V
  obtain ⟨T', h', X', e', W, st⟩ := stI X hx hZ eT A (j := j) (x := x) (Ary.inb S1 hj) (g := mkF m pc Ls (.int x :: .int j :: .ref a :: S)) rfl rfl hd
  exact ⟨T', h', X', e', W, V'.set W, st⟩
theorem stBA (X : Stand p l e R s m args below meth c T locs cells slots) (hx : p.tables.exec = Jvm.exec) (hZ : Z.Warmed39 s.vm) (eT : T.heap = h) (V : Ary Z h a .byte n g) (hj : 0 ≤ j.toInt ∧ j.toInt < n) (hd : decode c.code pc = .ok (.bastore, 1)) :
    ∃ T' h', Stand p l e R s m args below meth c T' (locs ++ [⟨a, j.toNatClampNeg⟩]) cells slots ∧ T'.heap = h' ∧ Wr h h' a j.toNatClampNeg (.int x.toInt8.toInt32) ∧ Ary Z h' a .byte n (upd g j.toNatClampNeg x.toInt8.toInt32) ∧
      ∀ t, Steps p.tables e below (T'.setTop (mkF m (pc + 1) Ls S)) t → Steps p.tables e below (T.setTop (mkF m pc Ls (.int x :: .int j :: .ref a :: S))) t := by
  have V' := V
  obtain ⟨cl, A, S1, M, H⟩ := V
  obtain ⟨T', h', X', e', W, st⟩ := stB X hx hZ eT A (j := j) (x := x) (Ary.inb S1 hj) (g := mkF m pc Ls (.int x :: .int j :: .ref a :: S)) rfl rfl hd
  exact ⟨T', h', X', e', W, V'.set W, st⟩
theorem newAr (X : Stand p l e R s m args below meth c T locs cells slots) (hx : p.tables.exec = Jvm.exec) (hZ : Z.Warmed39 s.vm) {aty : ArrayType} (w : (Cond.arrayClass (newarray.typeOf aty)).before a0 Z = true) (hty : defaultValue (newarray.typeOf aty) = .int 0) (eT : T.heap = h) {z : Int32} {cap : Nat} (hz : z.toInt = n) (hcap : n ≤ cap)
    (hb : cap * 8 ≤ 536870912) (hc : cells + 1 ≤ R.cells) (hl : slots + cap ≤ R.slots) (hd : decode c.code pc = .ok (.newarray aty, 2)) :
    ∃ T' h', Stand p l e R s m args below meth c T' locs (cells + 1) (slots + cap) ∧ T'.heap = h' ∧ Ext h h' ∧ Ary Z h' h.size (newarray.typeOf aty) n (fun _ => 0) ∧
      ∀ t, Steps p.tables e below (T'.setTop (mkF m (pc + 2) Ls (.ref h.size :: S))) t → Steps p.tables e below (T.setTop (mkF m pc Ls (.int z :: S))) t := by
  have e0 : (0 : Int32).toInt = 0 := rfl
  have hz2 : z.toNatClampNeg = n := by simp only [Int32.toNatClampNeg]; omega
  have rz := rng32 z
  obtain ⟨T', h', cA, X', e', E, A, st⟩ := newP X hx hZ w eT (g := mkF m pc Ls (.int z :: S)) rfl hd rfl (by rw [Int32.lt_iff_toInt_lt]; omega) (cap := cap) (by omega) hb hc hl
  refine ⟨T', h', X', e', E, ⟨_, A, by rw [sz_new]; exact hz2, by omega, fun j hj => ?_⟩, st⟩
  simp only [newA, hz2, hty]
  simp [hj]
end OwnHeap
/-- a method that writes into ws alone: what it returns, the rest kept, what P says of the heap that it leaves -/
def QK (V : Option Value) (h0 : Heap) (ws : List Addr) (n0 : Nat) (P : Heap → Prop) (v : Option Value) (h : Heap) (L : List Loc) : Prop := v = V ∧ Fr n0 L ∧ Keep h0 h ws ∧ P h

theorem d1_0 : decode method_3_code 0 = .ok (.iload_n 2, 1) := by decide +kernel
theorem d1_1 : decode method_3_code 1 = .ok (.iload_n 3, 1) := by decide +kernel
theorem d1_2 : decode method_3_code 2 = .ok (.iushr, 1) := by decide +kernel
theorem d1_3 : decode method_3_code 3 = .ok (.iconst 1, 1) := by decide +kernel
theorem d1_4 : decode method_3_code 4 = .ok (.iand, 1) := by decide +kernel
theorem d1_5 : decode method_3_code 5 = .ok (.ifCond .eq 5, 3) := by decide +kernel
theorem d1_10 : decode method_3_code 10 = .ok (.lload_n 0, 1) := by decide +kernel
theorem d1_11 : decode method_3_code 11 = .ok (.bipush 8, 2) := by decide +kernel
theorem d1_13 : decode method_3_code 13 = .ok (.iload_n 3, 1) := by decide +kernel
theorem d1_14 : decode method_3_code 14 = .ok (.imul, 1) := by decide +kernel
theorem d1_15 : decode method_3_code 15 = .ok (.lushr, 1) := by decide +kernel
theorem d1_16 : decode method_3_code 16 = .ok (.l2i, 1) := by decide +kernel
theorem d1_17 : decode method_3_code 17 = .ok (.i2b, 1) := by decide +kernel
theorem d1_18 : decode method_3_code 18 = .ok (.ireturn, 1) := by decide +kernel
theorem d1_8 : decode method_3_code 8 = .ok (.iconst 0, 1) := by decide +kernel
theorem d1_9 : decode method_3_code 9 = .ok (.ireturn, 1) := by decide +kernel
def f1 (x0 : Int64) (x1 : Int32) (x2 : Int32) : Int32 := (if (((x1.toUInt32 >>> (x2 &&& 31).toUInt32).toInt32) &&& (1 : Int32)) = (0 : Int32) then (nar .byte ((((x0.toUInt64 >>> (((8 : Int32) * x2) &&& 0x3f).toInt64.toUInt64).toInt64).toInt32).toInt8.toInt32)) else (nar .byte (0 : Int32)))
theorem ef_rm1 (m : MethodId) (x0 : Int64) (x1 : Int32) (x2 : Int32) : entryFrame m #[(.long x0), (.int x1), (.int x2)] 4 = mkF m 0 #[.val (.long x0), .second, .val (.int x1), .val (.int x2)] [] := by first | (simp [entryFrame, mkF, argsToLocals, Value.category]; done) | rfl
theorem pn_0 : plainName "quotewright/StringViewLengthPinLaw" = true := by first | (simp [plainName, overriddenIn]; done) | decide +kernel
set_option maxRecDepth 65536 in
set_option maxHeartbeats 40000000 in
theorem rm1 (l : Launch) (Z : State) (a0 : Array Value) (hw : ∀ d ∈ tables_1, d.before a0 Z = true) (ws : List Jvm.Cond) (x0 : Int64) (x1 : Int32) (x2 : Int32) (h0 : Heap) (n0 : Nat) (Z0 : n0 ≤ h0.size) :
    MetFree l (⟨"quotewright/StringViewLengthPinLaw", "pick", "(JII)B"⟩ : MethodName) (head1 (Jvm.Cond.code (⟨"quotewright/StringViewLengthPinLaw", "pick", "(JII)B"⟩ : MethodName) method_3_code 4 (some .byte) :: ws) ({ frames := 0, cells := 0, slots := 0, locals := 0 } : Room)) (fun a U => a = #[(.long x0), (.int x1), (.int x2)] ∧ Z.Warmed39 U.vm ∧ U.heap = h0) (fun _ _ _ _ _ => True) (fun _ U o U' => ∃ v L, o = .returned v ∧ (QP (some (.int (f1 x0 x1 x2))) h0 n0) v U'.heap L ∧ FrameEnd U o U' L ({ frames := 0, cells := 0, slots := 0, locals := 0 } : Room).cells ({ frames := 0, cells := 0, slots := 0, locals := 0 } : Room).slots) := by
  refine MetFree.of_bodySF (plainFor_of_name pn_0) hisR ?_
  intro p e s m args below meth c s₁ Bd hml0 hP hK
  obtain ⟨rfl, hZ, hh⟩ := hP
  have hx := Bd.exec
  have hby := Bd.bytes
  have hml : c.maxLocals = 4 := hml0
  have hown : s.vm.findClass "quotewright/StringViewLengthPinLaw" = some m.cls := findClass_of_methodNamed Bd.named
  have hnm := (name_of_methodNamed Bd.named Bd.method).1
  have X0 : Stand p l e ({ frames := 0, cells := 0, slots := 0, locals := 0 } : Room) s m #[(.long x0), (.int x1), (.int x2)] below meth c s₁ [] 0 0 := Stand.of_body Bd
  have e0 : s₁.heap = h0 := by rw [← hh, Bd.state]; rfl
  have N0 := Fr.nil n0
  show Ends p e below s (QP (some (.int (f1 x0 x1 x2))) h0 n0) ({ frames := 0, cells := 0, slots := 0, locals := 0 } : Room).cells ({ frames := 0, cells := 0, slots := 0, locals := 0 } : Room).slots (s₁.setTop (entryFrame m #[(.long x0), (.int x1), (.int x2)] 4))
  rw [ef_rm1 m x0 x1 x2]
  have hv0 : f1 x0 x1 x2 = f1 x0 x1 x2 := rfl
  show Ends p e below s _ _ _ (s₁.setTop (mkF m 0 #[.val (.long x0), .second, .val (.int x1), .val (.int x2)] []))
  refine Ends.by ?_ (fun _ k => XS.iloadN X0.here hx rfl (hb hby d1_0) rfl k)
  show Ends p e below s _ _ _ (s₁.setTop (mkF m 1 #[.val (.long x0), .second, .val (.int x1), .val (.int x2)] [(.int x1)]))
  refine Ends.by ?_ (fun _ k => XS.iloadN X0.here hx rfl (hb hby d1_1) rfl k)
  show Ends p e below s _ _ _ (s₁.setTop (mkF m 2 #[.val (.long x0), .second, .val (.int x1), .val (.int x2)] [(.int x2), (.int x1)]))
  refine Ends.by ?_ (fun _ k => XS.iushr X0.here hx rfl (hb hby d1_2) rfl k)
  show Ends p e below s _ _ _ (s₁.setTop (mkF m 3 #[.val (.long x0), .second, .val (.int x1), .val (.int x2)] [(.int ((x1.toUInt32 >>> (x2 &&& 31).toUInt32).toInt32))]))
  refine Ends.by ?_ (fun _ k => XS.iconst X0.here hx rfl (hb hby d1_3) k)
  show Ends p e below s _ _ _ (s₁.setTop (mkF m 4 #[.val (.long x0), .second, .val (.int x1), .val (.int x2)] [(.int (1 : Int32)), (.int ((x1.toUInt32 >>> (x2 &&& 31).toUInt32).toInt32))]))
  refine Ends.by ?_ (fun _ k => XS.iand X0.here hx rfl (hb hby d1_4) rfl k)
  show Ends p e below s _ _ _ (s₁.setTop (mkF m 5 #[.val (.long x0), .second, .val (.int x1), .val (.int x2)] [(.int (((x1.toUInt32 >>> (x2 &&& 31).toUInt32).toInt32) &&& (1 : Int32)))]))
  by_cases hc1 : (((x1.toUInt32 >>> (x2 &&& 31).toUInt32).toInt32) &&& (1 : Int32)) = (0 : Int32)
  · have hv2 := hv0.trans (if_pos hc1)
    refine Ends.by ?_ (fun _ k => XS.ifYes X0.here hx rfl (pc0 := 5) (pc' := 10) rfl (hb hby d1_5) rfl (XT.i0_eq_t hc1) (by decide) (by decide) k)
    show Ends p e below s _ _ _ (s₁.setTop (mkF m 10 #[.val (.long x0), .second, .val (.int x1), .val (.int x2)] []))
    refine Ends.by ?_ (fun _ k => XS.lloadN X0.here hx rfl (hb hby d1_10) rfl k)
    show Ends p e below s _ _ _ (s₁.setTop (mkF m 11 #[.val (.long x0), .second, .val (.int x1), .val (.int x2)] [(.long x0)]))
    refine Ends.by ?_ (fun _ k => XS.bipush X0.here hx rfl (hb hby d1_11) k)
    show Ends p e below s _ _ _ (s₁.setTop (mkF m 13 #[.val (.long x0), .second, .val (.int x1), .val (.int x2)] [(.int (8 : Int32)), (.long x0)]))
    refine Ends.by ?_ (fun _ k => XS.iloadN X0.here hx rfl (hb hby d1_13) rfl k)
    show Ends p e below s _ _ _ (s₁.setTop (mkF m 14 #[.val (.long x0), .second, .val (.int x1), .val (.int x2)] [(.int x2), (.int (8 : Int32)), (.long x0)]))
    refine Ends.by ?_ (fun _ k => XS.imul X0.here hx rfl (hb hby d1_14) rfl k)
    show Ends p e below s _ _ _ (s₁.setTop (mkF m 15 #[.val (.long x0), .second, .val (.int x1), .val (.int x2)] [(.int ((8 : Int32) * x2)), (.long x0)]))
    refine Ends.by ?_ (fun _ k => XS.lushr X0.here hx rfl (hb hby d1_15) rfl k)
    show Ends p e below s _ _ _ (s₁.setTop (mkF m 16 #[.val (.long x0), .second, .val (.int x1), .val (.int x2)] [(.long ((x0.toUInt64 >>> (((8 : Int32) * x2) &&& 0x3f).toInt64.toUInt64).toInt64))]))
    refine Ends.by ?_ (fun _ k => XS.l2i X0.here hx rfl (hb hby d1_16) rfl k)
    show Ends p e below s _ _ _ (s₁.setTop (mkF m 17 #[.val (.long x0), .second, .val (.int x1), .val (.int x2)] [(.int (((x0.toUInt64 >>> (((8 : Int32) * x2) &&& 0x3f).toInt64.toUInt64).toInt64).toInt32))]))
    refine Ends.by ?_ (fun _ k => XS.i2b X0.here hx rfl (hb hby d1_17) rfl k)
    show Ends p e below s _ _ _ (s₁.setTop (mkF m 18 #[.val (.long x0), .second, .val (.int x1), .val (.int x2)] [(.int ((((x0.toUInt64 >>> (((8 : Int32) * x2) &&& 0x3f).toInt64.toUInt64).toInt64).toInt32).toInt8.toInt32))]))
    exact Ends.retN X0 hx Bd.notSynchronized Bd.returns (t := .byte) (by simp) (hb hby d1_18) (w := (nar .byte ((((x0.toUInt64 >>> (((8 : Int32) * x2) &&& 0x3f).toInt64.toUInt64).toInt64).toInt32).toInt8.toInt32))) rfl ⟨by rw [hv2]; first | done | rfl, N0, e0⟩ (by decide) (by decide)
  · have hv3 := hv0.trans (if_neg hc1)
    refine Ends.by ?_ (fun _ k => XS.ifNo X0.here hx rfl (hb hby d1_5) rfl (XT.i0_eq_f hc1) k)
    show Ends p e below s _ _ _ (s₁.setTop (mkF m 8 #[.val (.long x0), .second, .val (.int x1), .val (.int x2)] []))
    refine Ends.by ?_ (fun _ k => XS.iconst X0.here hx rfl (hb hby d1_8) k)
    show Ends p e below s _ _ _ (s₁.setTop (mkF m 9 #[.val (.long x0), .second, .val (.int x1), .val (.int x2)] [(.int (0 : Int32))]))
    exact Ends.retN X0 hx Bd.notSynchronized Bd.returns (t := .byte) (by simp) (hb hby d1_9) (w := (nar .byte (0 : Int32))) rfl ⟨by rw [hv3]; first | done | rfl, N0, e0⟩ (by decide) (by decide)

theorem own_idx {s fl : Int32} (k : Int32) (K : Int) (hk : k.toInt = K) (h0 : 0 ≤ K) (hs : 0 ≤ s.toInt) (hsum : s.toInt + fl.toInt ≤ 6) (h : k < fl) : 0 ≤ (s + k).toInt ∧ (s + k).toInt < (6 : Nat) := by
  rw [Int32.lt_iff_toInt_lt, hk] at h
  have q1 := c_iadd s k
  have q2 := rng32 (s + k)
  omega
theorem own_idx0 {s fl : Int32} (hs : 0 ≤ s.toInt) (hsum : s.toInt + fl.toInt ≤ 6) (h : (0 : Int32) < fl) : 0 ≤ s.toInt ∧ s.toInt < (6 : Nat) := by
  rw [Int32.lt_iff_toInt_lt] at h
  have e0 : (0 : Int32).toInt = 0 := rfl
  omega
theorem d6_87 : decode method_4_code 87 = .ok (.iload_n 2, 1) := by decide +kernel
theorem d6_88 : decode method_4_code 88 = .ok (.ireturn, 1) := by decide +kernel
theorem d6_72 : decode method_4_code 72 = .ok (.iload_n 2, 1) := by decide +kernel
theorem d6_73 : decode method_4_code 73 = .ok (.iconst 5, 1) := by decide +kernel
theorem d6_74 : decode method_4_code 74 = .ok (.if_icmp .le 13, 3) := by decide +kernel
theorem d6_77 : decode method_4_code 77 = .ok (.aload_n 0, 1) := by decide +kernel
theorem d6_78 : decode method_4_code 78 = .ok (.iload_n 1, 1) := by decide +kernel
theorem d6_79 : decode method_4_code 79 = .ok (.iconst 5, 1) := by decide +kernel
theorem d6_80 : decode method_4_code 80 = .ok (.iadd, 1) := by decide +kernel
theorem d6_81 : decode method_4_code 81 = .ok (.baload, 1) := by decide +kernel
theorem d6_82 : decode method_4_code 82 = .ok (.ifCond .ne 5, 3) := by decide +kernel
theorem d6_85 : decode method_4_code 85 = .ok (.iconst 5, 1) := by decide +kernel
theorem d6_86 : decode method_4_code 86 = .ok (.ireturn, 1) := by decide +kernel
theorem d6_57 : decode method_4_code 57 = .ok (.iload_n 2, 1) := by decide +kernel
theorem d6_58 : decode method_4_code 58 = .ok (.iconst 4, 1) := by decide +kernel
theorem d6_59 : decode method_4_code 59 = .ok (.if_icmp .le 13, 3) := by decide +kernel
theorem d6_62 : decode method_4_code 62 = .ok (.aload_n 0, 1) := by decide +kernel
theorem d6_63 : decode method_4_code 63 = .ok (.iload_n 1, 1) := by decide +kernel
theorem d6_64 : decode method_4_code 64 = .ok (.iconst 4, 1) := by decide +kernel
theorem d6_65 : decode method_4_code 65 = .ok (.iadd, 1) := by decide +kernel
theorem d6_66 : decode method_4_code 66 = .ok (.baload, 1) := by decide +kernel
theorem d6_67 : decode method_4_code 67 = .ok (.ifCond .ne 5, 3) := by decide +kernel
theorem d6_70 : decode method_4_code 70 = .ok (.iconst 4, 1) := by decide +kernel
theorem d6_71 : decode method_4_code 71 = .ok (.ireturn, 1) := by decide +kernel
theorem d6_42 : decode method_4_code 42 = .ok (.iload_n 2, 1) := by decide +kernel
theorem d6_43 : decode method_4_code 43 = .ok (.iconst 3, 1) := by decide +kernel
theorem d6_44 : decode method_4_code 44 = .ok (.if_icmp .le 13, 3) := by decide +kernel
theorem d6_47 : decode method_4_code 47 = .ok (.aload_n 0, 1) := by decide +kernel
theorem d6_48 : decode method_4_code 48 = .ok (.iload_n 1, 1) := by decide +kernel
theorem d6_49 : decode method_4_code 49 = .ok (.iconst 3, 1) := by decide +kernel
theorem d6_50 : decode method_4_code 50 = .ok (.iadd, 1) := by decide +kernel
theorem d6_51 : decode method_4_code 51 = .ok (.baload, 1) := by decide +kernel
theorem d6_52 : decode method_4_code 52 = .ok (.ifCond .ne 5, 3) := by decide +kernel
theorem d6_55 : decode method_4_code 55 = .ok (.iconst 3, 1) := by decide +kernel
theorem d6_56 : decode method_4_code 56 = .ok (.ireturn, 1) := by decide +kernel
theorem d6_27 : decode method_4_code 27 = .ok (.iload_n 2, 1) := by decide +kernel
theorem d6_28 : decode method_4_code 28 = .ok (.iconst 2, 1) := by decide +kernel
theorem d6_29 : decode method_4_code 29 = .ok (.if_icmp .le 13, 3) := by decide +kernel
theorem d6_32 : decode method_4_code 32 = .ok (.aload_n 0, 1) := by decide +kernel
theorem d6_33 : decode method_4_code 33 = .ok (.iload_n 1, 1) := by decide +kernel
theorem d6_34 : decode method_4_code 34 = .ok (.iconst 2, 1) := by decide +kernel
theorem d6_35 : decode method_4_code 35 = .ok (.iadd, 1) := by decide +kernel
theorem d6_36 : decode method_4_code 36 = .ok (.baload, 1) := by decide +kernel
theorem d6_37 : decode method_4_code 37 = .ok (.ifCond .ne 5, 3) := by decide +kernel
theorem d6_40 : decode method_4_code 40 = .ok (.iconst 2, 1) := by decide +kernel
theorem d6_41 : decode method_4_code 41 = .ok (.ireturn, 1) := by decide +kernel
theorem d6_12 : decode method_4_code 12 = .ok (.iload_n 2, 1) := by decide +kernel
theorem d6_13 : decode method_4_code 13 = .ok (.iconst 1, 1) := by decide +kernel
theorem d6_14 : decode method_4_code 14 = .ok (.if_icmp .le 13, 3) := by decide +kernel
theorem d6_17 : decode method_4_code 17 = .ok (.aload_n 0, 1) := by decide +kernel
theorem d6_18 : decode method_4_code 18 = .ok (.iload_n 1, 1) := by decide +kernel
theorem d6_19 : decode method_4_code 19 = .ok (.iconst 1, 1) := by decide +kernel
theorem d6_20 : decode method_4_code 20 = .ok (.iadd, 1) := by decide +kernel
theorem d6_21 : decode method_4_code 21 = .ok (.baload, 1) := by decide +kernel
theorem d6_22 : decode method_4_code 22 = .ok (.ifCond .ne 5, 3) := by decide +kernel
theorem d6_25 : decode method_4_code 25 = .ok (.iconst 1, 1) := by decide +kernel
theorem d6_26 : decode method_4_code 26 = .ok (.ireturn, 1) := by decide +kernel
theorem d6_0 : decode method_4_code 0 = .ok (.iload_n 2, 1) := by decide +kernel
theorem d6_1 : decode method_4_code 1 = .ok (.ifCond .le 11, 3) := by decide +kernel
theorem d6_4 : decode method_4_code 4 = .ok (.aload_n 0, 1) := by decide +kernel
theorem d6_5 : decode method_4_code 5 = .ok (.iload_n 1, 1) := by decide +kernel
theorem d6_6 : decode method_4_code 6 = .ok (.baload, 1) := by decide +kernel
theorem d6_7 : decode method_4_code 7 = .ok (.ifCond .ne 5, 3) := by decide +kernel
theorem d6_10 : decode method_4_code 10 = .ok (.iconst 0, 1) := by decide +kernel
theorem d6_11 : decode method_4_code 11 = .ok (.ireturn, 1) := by decide +kernel
def f6_87 (x0 : Addr) (x1 : Int32) (x2 : Int32) (g : Nat → Int32) : Int32 := x2
def f6_72 (x0 : Addr) (x1 : Int32) (x2 : Int32) (g : Nat → Int32) : Int32 := (if (5 : Int32) < x2 then (if (g ((x1 + (5 : Int32))).toNatClampNeg) = (0 : Int32) then (5 : Int32) else (f6_87 x0 x1 x2 g)) else (f6_87 x0 x1 x2 g))
def f6_57 (x0 : Addr) (x1 : Int32) (x2 : Int32) (g : Nat → Int32) : Int32 := (if (4 : Int32) < x2 then (if (g ((x1 + (4 : Int32))).toNatClampNeg) = (0 : Int32) then (4 : Int32) else (f6_72 x0 x1 x2 g)) else (f6_72 x0 x1 x2 g))
def f6_42 (x0 : Addr) (x1 : Int32) (x2 : Int32) (g : Nat → Int32) : Int32 := (if (3 : Int32) < x2 then (if (g ((x1 + (3 : Int32))).toNatClampNeg) = (0 : Int32) then (3 : Int32) else (f6_57 x0 x1 x2 g)) else (f6_57 x0 x1 x2 g))
def f6_27 (x0 : Addr) (x1 : Int32) (x2 : Int32) (g : Nat → Int32) : Int32 := (if (2 : Int32) < x2 then (if (g ((x1 + (2 : Int32))).toNatClampNeg) = (0 : Int32) then (2 : Int32) else (f6_42 x0 x1 x2 g)) else (f6_42 x0 x1 x2 g))
def f6_12 (x0 : Addr) (x1 : Int32) (x2 : Int32) (g : Nat → Int32) : Int32 := (if (1 : Int32) < x2 then (if (g ((x1 + (1 : Int32))).toNatClampNeg) = (0 : Int32) then (1 : Int32) else (f6_27 x0 x1 x2 g)) else (f6_27 x0 x1 x2 g))
def f6 (x0 : Addr) (x1 : Int32) (x2 : Int32) (g : Nat → Int32) : Int32 := (if (0 : Int32) < x2 then (if (g (x1).toNatClampNeg) = (0 : Int32) then (0 : Int32) else (f6_12 x0 x1 x2 g)) else (f6_12 x0 x1 x2 g))
theorem ef_rm6 (m : MethodId) (x0 : Addr) (x1 : Int32) (x2 : Int32) : entryFrame m #[(.ref x0), (.int x1), (.int x2)] 3 = mkF m 0 #[.val (.ref x0), .val (.int x1), .val (.int x2)] [] := by first | (simp [entryFrame, mkF, argsToLocals, Value.category]; done) | rfl
set_option maxRecDepth 65536 in
set_option maxHeartbeats 40000000 in
theorem rm6 (l : Launch) (Z : State) (a0 : Array Value) (hw : ∀ d ∈ tables_1, d.before a0 Z = true) (ws : List Jvm.Cond) (x0 : Addr) (x1 : Int32) (x2 : Int32) (g : Nat → Int32) (h0 : Heap) (n0 : Nat) (Z0 : n0 ≤ h0.size) (V0 : Ary Z h0 x0 .byte 6 g) (hs : 0 ≤ x1.toInt) (hsum : x1.toInt + x2.toInt ≤ 6) :
    MetFree l (⟨"quotewright/StringViewLengthPinLaw", "ref", "([BII)I"⟩ : MethodName) (head1 (Jvm.Cond.code (⟨"quotewright/StringViewLengthPinLaw", "ref", "([BII)I"⟩ : MethodName) method_4_code 3 (some .int) :: ws) ({ frames := 0, cells := 0, slots := 0, locals := 0 } : Room)) (fun a U => a = #[(.ref x0), (.int x1), (.int x2)] ∧ Z.Warmed39 U.vm ∧ U.heap = h0) (fun _ _ _ _ _ => True) (fun _ U o U' => ∃ v L, o = .returned v ∧ (QP (some (.int (f6 x0 x1 x2 g))) h0 n0) v U'.heap L ∧ FrameEnd U o U' L ({ frames := 0, cells := 0, slots := 0, locals := 0 } : Room).cells ({ frames := 0, cells := 0, slots := 0, locals := 0 } : Room).slots) := by
  refine MetFree.of_bodySF (plainFor_of_name pn_0) hisR ?_
  intro p e s m args below meth c s₁ Bd hml0 hP hK
  obtain ⟨rfl, hZ, hh⟩ := hP
  have hx := Bd.exec
  have hby := Bd.bytes
  have hml : c.maxLocals = 3 := hml0
  have hown : s.vm.findClass "quotewright/StringViewLengthPinLaw" = some m.cls := findClass_of_methodNamed Bd.named
  have hnm := (name_of_methodNamed Bd.named Bd.method).1
  have X0 : Stand p l e ({ frames := 0, cells := 0, slots := 0, locals := 0 } : Room) s m #[(.ref x0), (.int x1), (.int x2)] below meth c s₁ [] 0 0 := Stand.of_body Bd
  have e0 : s₁.heap = h0 := by rw [← hh, Bd.state]; rfl
  have N0 := Fr.nil n0
  show Ends p e below s (QP (some (.int (f6 x0 x1 x2 g))) h0 n0) ({ frames := 0, cells := 0, slots := 0, locals := 0 } : Room).cells ({ frames := 0, cells := 0, slots := 0, locals := 0 } : Room).slots (s₁.setTop (entryFrame m #[(.ref x0), (.int x1), (.int x2)] 3))
  rw [ef_rm6 m x0 x1 x2]
  have hv0 : f6 x0 x1 x2 g = f6 x0 x1 x2 g := rfl
  show Ends p e below s _ _ _ (s₁.setTop (mkF m 0 #[.val (.ref x0), .val (.int x1), .val (.int x2)] []))
  have j87 : ∀ (T : State) (locs : List Loc) (X : Stand p l e ({ frames := 0, cells := 0, slots := 0, locals := 0 } : Room) s m #[(.ref x0), (.int x1), (.int x2)] below meth c T locs 0 0) (eT : T.heap = h0) (N : Fr n0 locs) (hv1 : f6 x0 x1 x2 g = f6_87 x0 x1 x2 g), Ends p e below s (QP (some (.int (f6 x0 x1 x2 g))) h0 n0) ({ frames := 0, cells := 0, slots := 0, locals := 0 } : Room).cells ({ frames := 0, cells := 0, slots := 0, locals := 0 } : Room).slots (T.setTop (mkF m 87 #[.val (.ref x0), .val (.int x1), .val (.int x2)] [])) := by
    intro T locs X eT N  hv1
    refine Ends.by ?_ (fun _ k => XS.iloadN X.here hx rfl (hb hby d6_87) rfl k)
    show Ends p e below s _ _ _ (T.setTop (mkF m 88 #[.val (.ref x0), .val (.int x1), .val (.int x2)] [(.int x2)]))
    exact Ends.retI X hx Bd.notSynchronized Bd.returns (hb hby d6_88) ⟨by rw [hv1]; first | done | rfl, N, eT⟩ (by decide) (by decide)
  have j72 : ∀ (T : State) (locs : List Loc) (X : Stand p l e ({ frames := 0, cells := 0, slots := 0, locals := 0 } : Room) s m #[(.ref x0), (.int x1), (.int x2)] below meth c T locs 0 0) (eT : T.heap = h0) (N : Fr n0 locs) (hv2 : f6 x0 x1 x2 g = f6_72 x0 x1 x2 g), Ends p e below s (QP (some (.int (f6 x0 x1 x2 g))) h0 n0) ({ frames := 0, cells := 0, slots := 0, locals := 0 } : Room).cells ({ frames := 0, cells := 0, slots := 0, locals := 0 } : Room).slots (T.setTop (mkF m 72 #[.val (.ref x0), .val (.int x1), .val (.int x2)] [])) := by
    intro T locs X eT N  hv2
    refine Ends.by ?_ (fun _ k => XS.iloadN X.here hx rfl (hb hby d6_72) rfl k)
    show Ends p e below s _ _ _ (T.setTop (mkF m 73 #[.val (.ref x0), .val (.int x1), .val (.int x2)] [(.int x2)]))
    refine Ends.by ?_ (fun _ k => XS.iconst X.here hx rfl (hb hby d6_73) k)
    show Ends p e below s _ _ _ (T.setTop (mkF m 74 #[.val (.ref x0), .val (.int x1), .val (.int x2)] [(.int (5 : Int32)), (.int x2)]))
    by_cases hc3 : (5 : Int32) < x2
    · have hv4 := hv2.trans (if_pos hc3)
      refine Ends.by ?_ (fun _ k => XS.icmpNo X.here hx rfl (hb hby d6_74) rfl (XT.ii_le_f hc3) k)
      show Ends p e below s _ _ _ (T.setTop (mkF m 77 #[.val (.ref x0), .val (.int x1), .val (.int x2)] []))
      refine Ends.by ?_ (fun _ k => XS.aloadN X.here hx rfl (hb hby d6_77) rfl rfl k)
      show Ends p e below s _ _ _ (T.setTop (mkF m 78 #[.val (.ref x0), .val (.int x1), .val (.int x2)] [(.ref x0)]))
      refine Ends.by ?_ (fun _ k => XS.iloadN X.here hx rfl (hb hby d6_78) rfl k)
      show Ends p e below s _ _ _ (T.setTop (mkF m 79 #[.val (.ref x0), .val (.int x1), .val (.int x2)] [(.int x1), (.ref x0)]))
      refine Ends.by ?_ (fun _ k => XS.iconst X.here hx rfl (hb hby d6_79) k)
      show Ends p e below s _ _ _ (T.setTop (mkF m 80 #[.val (.ref x0), .val (.int x1), .val (.int x2)] [(.int (5 : Int32)), (.int x1), (.ref x0)]))
      refine Ends.by ?_ (fun _ k => XS.iadd X.here hx rfl (hb hby d6_80) rfl k)
      show Ends p e below s _ _ _ (T.setTop (mkF m 81 #[.val (.ref x0), .val (.int x1), .val (.int x2)] [(.int (x1 + (5 : Int32))), (.ref x0)]))
      refine Ends.bald ?_ X hx hZ eT V0 (own_idx (5 : Int32) 5 (by decide) (by decide) hs hsum hc3) (hb hby d6_81)
      show Ends p e below s _ _ _ (T.setTop (mkF m 82 #[.val (.ref x0), .val (.int x1), .val (.int x2)] [(.int (g ((x1 + (5 : Int32))).toNatClampNeg))]))
      by_cases hc5 : (g ((x1 + (5 : Int32))).toNatClampNeg) = (0 : Int32)
      · have hv6 := hv4.trans (if_pos hc5)
        refine Ends.by ?_ (fun _ k => XS.ifNo X.here hx rfl (hb hby d6_82) rfl (XT.i0_ne_f hc5) k)
        show Ends p e below s _ _ _ (T.setTop (mkF m 85 #[.val (.ref x0), .val (.int x1), .val (.int x2)] []))
        refine Ends.by ?_ (fun _ k => XS.iconst X.here hx rfl (hb hby d6_85) k)
        show Ends p e below s _ _ _ (T.setTop (mkF m 86 #[.val (.ref x0), .val (.int x1), .val (.int x2)] [(.int (5 : Int32))]))
        exact Ends.retI X hx Bd.notSynchronized Bd.returns (hb hby d6_86) ⟨by rw [hv6]; first | done | rfl, N, eT⟩ (by decide) (by decide)
      · have hv7 := hv4.trans (if_neg hc5)
        refine Ends.by ?_ (fun _ k => XS.ifYes X.here hx rfl (pc0 := 82) (pc' := 87) rfl (hb hby d6_82) rfl (XT.i0_ne_t hc5) (by decide) (by decide) k)
        show Ends p e below s _ _ _ (T.setTop (mkF m 87 #[.val (.ref x0), .val (.int x1), .val (.int x2)] []))
        exact j87 T _ X eT N hv7
    · have hv8 := hv2.trans (if_neg hc3)
      refine Ends.by ?_ (fun _ k => XS.icmpYes X.here hx rfl (pc0 := 74) (pc' := 87) rfl (hb hby d6_74) rfl (XT.ii_le_t hc3) (by decide) (by decide) k)
      show Ends p e below s _ _ _ (T.setTop (mkF m 87 #[.val (.ref x0), .val (.int x1), .val (.int x2)] []))
      exact j87 T _ X eT N hv8
  have j57 : ∀ (T : State) (locs : List Loc) (X : Stand p l e ({ frames := 0, cells := 0, slots := 0, locals := 0 } : Room) s m #[(.ref x0), (.int x1), (.int x2)] below meth c T locs 0 0) (eT : T.heap = h0) (N : Fr n0 locs) (hv9 : f6 x0 x1 x2 g = f6_57 x0 x1 x2 g), Ends p e below s (QP (some (.int (f6 x0 x1 x2 g))) h0 n0) ({ frames := 0, cells := 0, slots := 0, locals := 0 } : Room).cells ({ frames := 0, cells := 0, slots := 0, locals := 0 } : Room).slots (T.setTop (mkF m 57 #[.val (.ref x0), .val (.int x1), .val (.int x2)] [])) := by
    intro T locs X eT N  hv9
    refine Ends.by ?_ (fun _ k => XS.iloadN X.here hx rfl (hb hby d6_57) rfl k)
    show Ends p e below s _ _ _ (T.setTop (mkF m 58 #[.val (.ref x0), .val (.int x1), .val (.int x2)] [(.int x2)]))
    refine Ends.by ?_ (fun _ k => XS.iconst X.here hx rfl (hb hby d6_58) k)
    show Ends p e below s _ _ _ (T.setTop (mkF m 59 #[.val (.ref x0), .val (.int x1), .val (.int x2)] [(.int (4 : Int32)), (.int x2)]))
    by_cases hc10 : (4 : Int32) < x2
    · have hv11 := hv9.trans (if_pos hc10)
      refine Ends.by ?_ (fun _ k => XS.icmpNo X.here hx rfl (hb hby d6_59) rfl (XT.ii_le_f hc10) k)
      show Ends p e below s _ _ _ (T.setTop (mkF m 62 #[.val (.ref x0), .val (.int x1), .val (.int x2)] []))
      refine Ends.by ?_ (fun _ k => XS.aloadN X.here hx rfl (hb hby d6_62) rfl rfl k)
      show Ends p e below s _ _ _ (T.setTop (mkF m 63 #[.val (.ref x0), .val (.int x1), .val (.int x2)] [(.ref x0)]))
      refine Ends.by ?_ (fun _ k => XS.iloadN X.here hx rfl (hb hby d6_63) rfl k)
      show Ends p e below s _ _ _ (T.setTop (mkF m 64 #[.val (.ref x0), .val (.int x1), .val (.int x2)] [(.int x1), (.ref x0)]))
      refine Ends.by ?_ (fun _ k => XS.iconst X.here hx rfl (hb hby d6_64) k)
      show Ends p e below s _ _ _ (T.setTop (mkF m 65 #[.val (.ref x0), .val (.int x1), .val (.int x2)] [(.int (4 : Int32)), (.int x1), (.ref x0)]))
      refine Ends.by ?_ (fun _ k => XS.iadd X.here hx rfl (hb hby d6_65) rfl k)
      show Ends p e below s _ _ _ (T.setTop (mkF m 66 #[.val (.ref x0), .val (.int x1), .val (.int x2)] [(.int (x1 + (4 : Int32))), (.ref x0)]))
      refine Ends.bald ?_ X hx hZ eT V0 (own_idx (4 : Int32) 4 (by decide) (by decide) hs hsum hc10) (hb hby d6_66)
      show Ends p e below s _ _ _ (T.setTop (mkF m 67 #[.val (.ref x0), .val (.int x1), .val (.int x2)] [(.int (g ((x1 + (4 : Int32))).toNatClampNeg))]))
      by_cases hc12 : (g ((x1 + (4 : Int32))).toNatClampNeg) = (0 : Int32)
      · have hv13 := hv11.trans (if_pos hc12)
        refine Ends.by ?_ (fun _ k => XS.ifNo X.here hx rfl (hb hby d6_67) rfl (XT.i0_ne_f hc12) k)
        show Ends p e below s _ _ _ (T.setTop (mkF m 70 #[.val (.ref x0), .val (.int x1), .val (.int x2)] []))
        refine Ends.by ?_ (fun _ k => XS.iconst X.here hx rfl (hb hby d6_70) k)
        show Ends p e below s _ _ _ (T.setTop (mkF m 71 #[.val (.ref x0), .val (.int x1), .val (.int x2)] [(.int (4 : Int32))]))
        exact Ends.retI X hx Bd.notSynchronized Bd.returns (hb hby d6_71) ⟨by rw [hv13]; first | done | rfl, N, eT⟩ (by decide) (by decide)
      · have hv14 := hv11.trans (if_neg hc12)
        refine Ends.by ?_ (fun _ k => XS.ifYes X.here hx rfl (pc0 := 67) (pc' := 72) rfl (hb hby d6_67) rfl (XT.i0_ne_t hc12) (by decide) (by decide) k)
        show Ends p e below s _ _ _ (T.setTop (mkF m 72 #[.val (.ref x0), .val (.int x1), .val (.int x2)] []))
        exact j72 T _ X eT N hv14
    · have hv15 := hv9.trans (if_neg hc10)
      refine Ends.by ?_ (fun _ k => XS.icmpYes X.here hx rfl (pc0 := 59) (pc' := 72) rfl (hb hby d6_59) rfl (XT.ii_le_t hc10) (by decide) (by decide) k)
      show Ends p e below s _ _ _ (T.setTop (mkF m 72 #[.val (.ref x0), .val (.int x1), .val (.int x2)] []))
      exact j72 T _ X eT N hv15
  have j42 : ∀ (T : State) (locs : List Loc) (X : Stand p l e ({ frames := 0, cells := 0, slots := 0, locals := 0 } : Room) s m #[(.ref x0), (.int x1), (.int x2)] below meth c T locs 0 0) (eT : T.heap = h0) (N : Fr n0 locs) (hv16 : f6 x0 x1 x2 g = f6_42 x0 x1 x2 g), Ends p e below s (QP (some (.int (f6 x0 x1 x2 g))) h0 n0) ({ frames := 0, cells := 0, slots := 0, locals := 0 } : Room).cells ({ frames := 0, cells := 0, slots := 0, locals := 0 } : Room).slots (T.setTop (mkF m 42 #[.val (.ref x0), .val (.int x1), .val (.int x2)] [])) := by
    intro T locs X eT N  hv16
    refine Ends.by ?_ (fun _ k => XS.iloadN X.here hx rfl (hb hby d6_42) rfl k)
    show Ends p e below s _ _ _ (T.setTop (mkF m 43 #[.val (.ref x0), .val (.int x1), .val (.int x2)] [(.int x2)]))
    refine Ends.by ?_ (fun _ k => XS.iconst X.here hx rfl (hb hby d6_43) k)
    show Ends p e below s _ _ _ (T.setTop (mkF m 44 #[.val (.ref x0), .val (.int x1), .val (.int x2)] [(.int (3 : Int32)), (.int x2)]))
    by_cases hc17 : (3 : Int32) < x2
    · have hv18 := hv16.trans (if_pos hc17)
      refine Ends.by ?_ (fun _ k => XS.icmpNo X.here hx rfl (hb hby d6_44) rfl (XT.ii_le_f hc17) k)
      show Ends p e below s _ _ _ (T.setTop (mkF m 47 #[.val (.ref x0), .val (.int x1), .val (.int x2)] []))
      refine Ends.by ?_ (fun _ k => XS.aloadN X.here hx rfl (hb hby d6_47) rfl rfl k)
      show Ends p e below s _ _ _ (T.setTop (mkF m 48 #[.val (.ref x0), .val (.int x1), .val (.int x2)] [(.ref x0)]))
      refine Ends.by ?_ (fun _ k => XS.iloadN X.here hx rfl (hb hby d6_48) rfl k)
      show Ends p e below s _ _ _ (T.setTop (mkF m 49 #[.val (.ref x0), .val (.int x1), .val (.int x2)] [(.int x1), (.ref x0)]))
      refine Ends.by ?_ (fun _ k => XS.iconst X.here hx rfl (hb hby d6_49) k)
      show Ends p e below s _ _ _ (T.setTop (mkF m 50 #[.val (.ref x0), .val (.int x1), .val (.int x2)] [(.int (3 : Int32)), (.int x1), (.ref x0)]))
      refine Ends.by ?_ (fun _ k => XS.iadd X.here hx rfl (hb hby d6_50) rfl k)
      show Ends p e below s _ _ _ (T.setTop (mkF m 51 #[.val (.ref x0), .val (.int x1), .val (.int x2)] [(.int (x1 + (3 : Int32))), (.ref x0)]))
      refine Ends.bald ?_ X hx hZ eT V0 (own_idx (3 : Int32) 3 (by decide) (by decide) hs hsum hc17) (hb hby d6_51)
      show Ends p e below s _ _ _ (T.setTop (mkF m 52 #[.val (.ref x0), .val (.int x1), .val (.int x2)] [(.int (g ((x1 + (3 : Int32))).toNatClampNeg))]))
      by_cases hc19 : (g ((x1 + (3 : Int32))).toNatClampNeg) = (0 : Int32)
      · have hv20 := hv18.trans (if_pos hc19)
        refine Ends.by ?_ (fun _ k => XS.ifNo X.here hx rfl (hb hby d6_52) rfl (XT.i0_ne_f hc19) k)
        show Ends p e below s _ _ _ (T.setTop (mkF m 55 #[.val (.ref x0), .val (.int x1), .val (.int x2)] []))
        refine Ends.by ?_ (fun _ k => XS.iconst X.here hx rfl (hb hby d6_55) k)
        show Ends p e below s _ _ _ (T.setTop (mkF m 56 #[.val (.ref x0), .val (.int x1), .val (.int x2)] [(.int (3 : Int32))]))
        exact Ends.retI X hx Bd.notSynchronized Bd.returns (hb hby d6_56) ⟨by rw [hv20]; first | done | rfl, N, eT⟩ (by decide) (by decide)
      · have hv21 := hv18.trans (if_neg hc19)
        refine Ends.by ?_ (fun _ k => XS.ifYes X.here hx rfl (pc0 := 52) (pc' := 57) rfl (hb hby d6_52) rfl (XT.i0_ne_t hc19) (by decide) (by decide) k)
        show Ends p e below s _ _ _ (T.setTop (mkF m 57 #[.val (.ref x0), .val (.int x1), .val (.int x2)] []))
        exact j57 T _ X eT N hv21
    · have hv22 := hv16.trans (if_neg hc17)
      refine Ends.by ?_ (fun _ k => XS.icmpYes X.here hx rfl (pc0 := 44) (pc' := 57) rfl (hb hby d6_44) rfl (XT.ii_le_t hc17) (by decide) (by decide) k)
      show Ends p e below s _ _ _ (T.setTop (mkF m 57 #[.val (.ref x0), .val (.int x1), .val (.int x2)] []))
      exact j57 T _ X eT N hv22
  have j27 : ∀ (T : State) (locs : List Loc) (X : Stand p l e ({ frames := 0, cells := 0, slots := 0, locals := 0 } : Room) s m #[(.ref x0), (.int x1), (.int x2)] below meth c T locs 0 0) (eT : T.heap = h0) (N : Fr n0 locs) (hv23 : f6 x0 x1 x2 g = f6_27 x0 x1 x2 g), Ends p e below s (QP (some (.int (f6 x0 x1 x2 g))) h0 n0) ({ frames := 0, cells := 0, slots := 0, locals := 0 } : Room).cells ({ frames := 0, cells := 0, slots := 0, locals := 0 } : Room).slots (T.setTop (mkF m 27 #[.val (.ref x0), .val (.int x1), .val (.int x2)] [])) := by
    intro T locs X eT N  hv23
    refine Ends.by ?_ (fun _ k => XS.iloadN X.here hx rfl (hb hby d6_27) rfl k)
    show Ends p e below s _ _ _ (T.setTop (mkF m 28 #[.val (.ref x0), .val (.int x1), .val (.int x2)] [(.int x2)]))
    refine Ends.by ?_ (fun _ k => XS.iconst X.here hx rfl (hb hby d6_28) k)
    show Ends p e below s _ _ _ (T.setTop (mkF m 29 #[.val (.ref x0), .val (.int x1), .val (.int x2)] [(.int (2 : Int32)), (.int x2)]))
    by_cases hc24 : (2 : Int32) < x2
    · have hv25 := hv23.trans (if_pos hc24)
      refine Ends.by ?_ (fun _ k => XS.icmpNo X.here hx rfl (hb hby d6_29) rfl (XT.ii_le_f hc24) k)
      show Ends p e below s _ _ _ (T.setTop (mkF m 32 #[.val (.ref x0), .val (.int x1), .val (.int x2)] []))
      refine Ends.by ?_ (fun _ k => XS.aloadN X.here hx rfl (hb hby d6_32) rfl rfl k)
      show Ends p e below s _ _ _ (T.setTop (mkF m 33 #[.val (.ref x0), .val (.int x1), .val (.int x2)] [(.ref x0)]))
      refine Ends.by ?_ (fun _ k => XS.iloadN X.here hx rfl (hb hby d6_33) rfl k)
      show Ends p e below s _ _ _ (T.setTop (mkF m 34 #[.val (.ref x0), .val (.int x1), .val (.int x2)] [(.int x1), (.ref x0)]))
      refine Ends.by ?_ (fun _ k => XS.iconst X.here hx rfl (hb hby d6_34) k)
      show Ends p e below s _ _ _ (T.setTop (mkF m 35 #[.val (.ref x0), .val (.int x1), .val (.int x2)] [(.int (2 : Int32)), (.int x1), (.ref x0)]))
      refine Ends.by ?_ (fun _ k => XS.iadd X.here hx rfl (hb hby d6_35) rfl k)
      show Ends p e below s _ _ _ (T.setTop (mkF m 36 #[.val (.ref x0), .val (.int x1), .val (.int x2)] [(.int (x1 + (2 : Int32))), (.ref x0)]))
      refine Ends.bald ?_ X hx hZ eT V0 (own_idx (2 : Int32) 2 (by decide) (by decide) hs hsum hc24) (hb hby d6_36)
      show Ends p e below s _ _ _ (T.setTop (mkF m 37 #[.val (.ref x0), .val (.int x1), .val (.int x2)] [(.int (g ((x1 + (2 : Int32))).toNatClampNeg))]))
      by_cases hc26 : (g ((x1 + (2 : Int32))).toNatClampNeg) = (0 : Int32)
      · have hv27 := hv25.trans (if_pos hc26)
        refine Ends.by ?_ (fun _ k => XS.ifNo X.here hx rfl (hb hby d6_37) rfl (XT.i0_ne_f hc26) k)
        show Ends p e below s _ _ _ (T.setTop (mkF m 40 #[.val (.ref x0), .val (.int x1), .val (.int x2)] []))
        refine Ends.by ?_ (fun _ k => XS.iconst X.here hx rfl (hb hby d6_40) k)
        show Ends p e below s _ _ _ (T.setTop (mkF m 41 #[.val (.ref x0), .val (.int x1), .val (.int x2)] [(.int (2 : Int32))]))
        exact Ends.retI X hx Bd.notSynchronized Bd.returns (hb hby d6_41) ⟨by rw [hv27]; first | done | rfl, N, eT⟩ (by decide) (by decide)
      · have hv28 := hv25.trans (if_neg hc26)
        refine Ends.by ?_ (fun _ k => XS.ifYes X.here hx rfl (pc0 := 37) (pc' := 42) rfl (hb hby d6_37) rfl (XT.i0_ne_t hc26) (by decide) (by decide) k)
        show Ends p e below s _ _ _ (T.setTop (mkF m 42 #[.val (.ref x0), .val (.int x1), .val (.int x2)] []))
        exact j42 T _ X eT N hv28
    · have hv29 := hv23.trans (if_neg hc24)
      refine Ends.by ?_ (fun _ k => XS.icmpYes X.here hx rfl (pc0 := 29) (pc' := 42) rfl (hb hby d6_29) rfl (XT.ii_le_t hc24) (by decide) (by decide) k)
      show Ends p e below s _ _ _ (T.setTop (mkF m 42 #[.val (.ref x0), .val (.int x1), .val (.int x2)] []))
      exact j42 T _ X eT N hv29
  have j12 : ∀ (T : State) (locs : List Loc) (X : Stand p l e ({ frames := 0, cells := 0, slots := 0, locals := 0 } : Room) s m #[(.ref x0), (.int x1), (.int x2)] below meth c T locs 0 0) (eT : T.heap = h0) (N : Fr n0 locs) (hv30 : f6 x0 x1 x2 g = f6_12 x0 x1 x2 g), Ends p e below s (QP (some (.int (f6 x0 x1 x2 g))) h0 n0) ({ frames := 0, cells := 0, slots := 0, locals := 0 } : Room).cells ({ frames := 0, cells := 0, slots := 0, locals := 0 } : Room).slots (T.setTop (mkF m 12 #[.val (.ref x0), .val (.int x1), .val (.int x2)] [])) := by
    intro T locs X eT N  hv30
    refine Ends.by ?_ (fun _ k => XS.iloadN X.here hx rfl (hb hby d6_12) rfl k)
    show Ends p e below s _ _ _ (T.setTop (mkF m 13 #[.val (.ref x0), .val (.int x1), .val (.int x2)] [(.int x2)]))
    refine Ends.by ?_ (fun _ k => XS.iconst X.here hx rfl (hb hby d6_13) k)
    show Ends p e below s _ _ _ (T.setTop (mkF m 14 #[.val (.ref x0), .val (.int x1), .val (.int x2)] [(.int (1 : Int32)), (.int x2)]))
    by_cases hc31 : (1 : Int32) < x2
    · have hv32 := hv30.trans (if_pos hc31)
      refine Ends.by ?_ (fun _ k => XS.icmpNo X.here hx rfl (hb hby d6_14) rfl (XT.ii_le_f hc31) k)
      show Ends p e below s _ _ _ (T.setTop (mkF m 17 #[.val (.ref x0), .val (.int x1), .val (.int x2)] []))
      refine Ends.by ?_ (fun _ k => XS.aloadN X.here hx rfl (hb hby d6_17) rfl rfl k)
      show Ends p e below s _ _ _ (T.setTop (mkF m 18 #[.val (.ref x0), .val (.int x1), .val (.int x2)] [(.ref x0)]))
      refine Ends.by ?_ (fun _ k => XS.iloadN X.here hx rfl (hb hby d6_18) rfl k)
      show Ends p e below s _ _ _ (T.setTop (mkF m 19 #[.val (.ref x0), .val (.int x1), .val (.int x2)] [(.int x1), (.ref x0)]))
      refine Ends.by ?_ (fun _ k => XS.iconst X.here hx rfl (hb hby d6_19) k)
      show Ends p e below s _ _ _ (T.setTop (mkF m 20 #[.val (.ref x0), .val (.int x1), .val (.int x2)] [(.int (1 : Int32)), (.int x1), (.ref x0)]))
      refine Ends.by ?_ (fun _ k => XS.iadd X.here hx rfl (hb hby d6_20) rfl k)
      show Ends p e below s _ _ _ (T.setTop (mkF m 21 #[.val (.ref x0), .val (.int x1), .val (.int x2)] [(.int (x1 + (1 : Int32))), (.ref x0)]))
      refine Ends.bald ?_ X hx hZ eT V0 (own_idx (1 : Int32) 1 (by decide) (by decide) hs hsum hc31) (hb hby d6_21)
      show Ends p e below s _ _ _ (T.setTop (mkF m 22 #[.val (.ref x0), .val (.int x1), .val (.int x2)] [(.int (g ((x1 + (1 : Int32))).toNatClampNeg))]))
      by_cases hc33 : (g ((x1 + (1 : Int32))).toNatClampNeg) = (0 : Int32)
      · have hv34 := hv32.trans (if_pos hc33)
        refine Ends.by ?_ (fun _ k => XS.ifNo X.here hx rfl (hb hby d6_22) rfl (XT.i0_ne_f hc33) k)
        show Ends p e below s _ _ _ (T.setTop (mkF m 25 #[.val (.ref x0), .val (.int x1), .val (.int x2)] []))
        refine Ends.by ?_ (fun _ k => XS.iconst X.here hx rfl (hb hby d6_25) k)
        show Ends p e below s _ _ _ (T.setTop (mkF m 26 #[.val (.ref x0), .val (.int x1), .val (.int x2)] [(.int (1 : Int32))]))
        exact Ends.retI X hx Bd.notSynchronized Bd.returns (hb hby d6_26) ⟨by rw [hv34]; first | done | rfl, N, eT⟩ (by decide) (by decide)
      · have hv35 := hv32.trans (if_neg hc33)
        refine Ends.by ?_ (fun _ k => XS.ifYes X.here hx rfl (pc0 := 22) (pc' := 27) rfl (hb hby d6_22) rfl (XT.i0_ne_t hc33) (by decide) (by decide) k)
        show Ends p e below s _ _ _ (T.setTop (mkF m 27 #[.val (.ref x0), .val (.int x1), .val (.int x2)] []))
        exact j27 T _ X eT N hv35
    · have hv36 := hv30.trans (if_neg hc31)
      refine Ends.by ?_ (fun _ k => XS.icmpYes X.here hx rfl (pc0 := 14) (pc' := 27) rfl (hb hby d6_14) rfl (XT.ii_le_t hc31) (by decide) (by decide) k)
      show Ends p e below s _ _ _ (T.setTop (mkF m 27 #[.val (.ref x0), .val (.int x1), .val (.int x2)] []))
      exact j27 T _ X eT N hv36
  refine Ends.by ?_ (fun _ k => XS.iloadN X0.here hx rfl (hb hby d6_0) rfl k)
  show Ends p e below s _ _ _ (s₁.setTop (mkF m 1 #[.val (.ref x0), .val (.int x1), .val (.int x2)] [(.int x2)]))
  by_cases hc37 : (0 : Int32) < x2
  · have hv38 := hv0.trans (if_pos hc37)
    refine Ends.by ?_ (fun _ k => XS.ifNo X0.here hx rfl (hb hby d6_1) rfl (XT.i0_le_f hc37) k)
    show Ends p e below s _ _ _ (s₁.setTop (mkF m 4 #[.val (.ref x0), .val (.int x1), .val (.int x2)] []))
    refine Ends.by ?_ (fun _ k => XS.aloadN X0.here hx rfl (hb hby d6_4) rfl rfl k)
    show Ends p e below s _ _ _ (s₁.setTop (mkF m 5 #[.val (.ref x0), .val (.int x1), .val (.int x2)] [(.ref x0)]))
    refine Ends.by ?_ (fun _ k => XS.iloadN X0.here hx rfl (hb hby d6_5) rfl k)
    show Ends p e below s _ _ _ (s₁.setTop (mkF m 6 #[.val (.ref x0), .val (.int x1), .val (.int x2)] [(.int x1), (.ref x0)]))
    refine Ends.bald ?_ X0 hx hZ e0 V0 (own_idx0 hs hsum hc37) (hb hby d6_6)
    show Ends p e below s _ _ _ (s₁.setTop (mkF m 7 #[.val (.ref x0), .val (.int x1), .val (.int x2)] [(.int (g (x1).toNatClampNeg))]))
    by_cases hc39 : (g (x1).toNatClampNeg) = (0 : Int32)
    · have hv40 := hv38.trans (if_pos hc39)
      refine Ends.by ?_ (fun _ k => XS.ifNo X0.here hx rfl (hb hby d6_7) rfl (XT.i0_ne_f hc39) k)
      show Ends p e below s _ _ _ (s₁.setTop (mkF m 10 #[.val (.ref x0), .val (.int x1), .val (.int x2)] []))
      refine Ends.by ?_ (fun _ k => XS.iconst X0.here hx rfl (hb hby d6_10) k)
      show Ends p e below s _ _ _ (s₁.setTop (mkF m 11 #[.val (.ref x0), .val (.int x1), .val (.int x2)] [(.int (0 : Int32))]))
      exact Ends.retI X0 hx Bd.notSynchronized Bd.returns (hb hby d6_11) ⟨by rw [hv40]; first | done | rfl, N0, e0⟩ (by decide) (by decide)
    · have hv41 := hv38.trans (if_neg hc39)
      refine Ends.by ?_ (fun _ k => XS.ifYes X0.here hx rfl (pc0 := 7) (pc' := 12) rfl (hb hby d6_7) rfl (XT.i0_ne_t hc39) (by decide) (by decide) k)
      show Ends p e below s _ _ _ (s₁.setTop (mkF m 12 #[.val (.ref x0), .val (.int x1), .val (.int x2)] []))
      exact j12 s₁ _ X0 e0 N0 hv41
  · have hv42 := hv0.trans (if_neg hc37)
    refine Ends.by ?_ (fun _ k => XS.ifYes X0.here hx rfl (pc0 := 1) (pc' := 12) rfl (hb hby d6_1) rfl (XT.i0_le_t hc37) (by decide) (by decide) k)
    show Ends p e below s _ _ _ (s₁.setTop (mkF m 12 #[.val (.ref x0), .val (.int x1), .val (.int x2)] []))
    exact j12 s₁ _ X0 e0 N0 hv42

theorem d2_0 : decode prog_40_method_1_code 0 = .ok (.aload_n 0, 1) := by decide +kernel
theorem d2_1 : decode prog_40_method_1_code 1 = .ok (.invokespecial 1, 3) := by decide +kernel
theorem d2_4 : decode prog_40_method_1_code 4 = .ok (.aload_n 0, 1) := by decide +kernel
theorem d2_5 : decode prog_40_method_1_code 5 = .ok (.iconst 0, 1) := by decide +kernel
theorem d2_6 : decode prog_40_method_1_code 6 = .ok (.newarray .byte, 2) := by decide +kernel
theorem d2_8 : decode prog_40_method_1_code 8 = .ok (.putfield 7, 3) := by decide +kernel
theorem d2_11 : decode prog_40_method_1_code 11 = .ok (.return_, 1) := by decide +kernel
theorem ef_rm2 (m : MethodId) (x0 : Addr) : entryFrame m #[(.ref x0)] 1 = mkF m 0 #[.val (.ref x0)] [] := by first | (simp [entryFrame, mkF, argsToLocals, Value.category]; done) | rfl
theorem pn_1 : plainName "quotewright/StringView" = true := by first | (simp [plainName, overriddenIn]; done) | decide +kernel
set_option maxRecDepth 65536 in
set_option maxHeartbeats 40000000 in
theorem rm2 (l : Launch) (Z : State) (a0 : Array Value) (hw : ∀ d ∈ tables_1, d.before a0 Z = true) (ws : List Jvm.Cond) (x0 : Addr) (h0 : Heap) (n0 : Nat) (Z0 : n0 ≤ h0.size) (E0 : Exa Z h0 x0 "quotewright/StringView") (F1 : Fld Z h0 x0 "quotewright/StringView" "bytes" "[B" .null) (F2 : Fld Z h0 x0 "quotewright/StringView" "start" "I" (.int (0 : Int32))) (F3 : Fld Z h0 x0 "quotewright/StringView" "fieldLength" "I" (.int (0 : Int32))) (F4 : Fld Z h0 x0 "quotewright/StringView" "length" "I" (.int (0 : Int32))) (g0 : n0 ≤ x0) :
    MetFree l (⟨"quotewright/StringView", "<init>", "()V"⟩ : MethodName) (head1 (Jvm.Cond.code (⟨"quotewright/StringView", "<init>", "()V"⟩ : MethodName) prog_40_method_1_code 1 none :: ws) ({ frames := 1, cells := 1, slots := 0, locals := 12 } : Room)) (fun a U => a = #[(.ref x0)] ∧ Z.Warmed39 U.vm ∧ U.heap = h0) (fun _ _ _ _ _ => True) (fun _ U o U' => ∃ v L, o = .returned v ∧ (QK none h0 [x0] n0 (fun h => Exa Z h x0 "quotewright/StringView" ∧ (∃ b : Addr, Fld Z h x0 "quotewright/StringView" "bytes" "[B" (.ref b)) ∧ Fld Z h x0 "quotewright/StringView" "start" "I" (.int (0 : Int32)) ∧ Fld Z h x0 "quotewright/StringView" "fieldLength" "I" (.int (0 : Int32)) ∧ Fld Z h x0 "quotewright/StringView" "length" "I" (.int (0 : Int32)))) v U'.heap L ∧ FrameEnd U o U' L ({ frames := 1, cells := 1, slots := 0, locals := 12 } : Room).cells ({ frames := 1, cells := 1, slots := 0, locals := 12 } : Room).slots) := by
  refine MetFree.of_bodySF (plainFor_of_name pn_1) hisR ?_
  intro p e s m args below meth c s₁ Bd hml0 hP hK
  obtain ⟨rfl, hZ, hh⟩ := hP
  have hx := Bd.exec
  have hby := Bd.bytes
  have hml : c.maxLocals = 1 := hml0
  have hown : s.vm.findClass "quotewright/StringView" = some m.cls := findClass_of_methodNamed Bd.named
  have hnm := (name_of_methodNamed Bd.named Bd.method).1
  have X0 : Stand p l e ({ frames := 1, cells := 1, slots := 0, locals := 12 } : Room) s m #[(.ref x0)] below meth c s₁ [] 0 0 := Stand.of_body Bd
  have e0 : s₁.heap = h0 := by rw [← hh, Bd.state]; rfl
  have N0 := Fr.nil n0
  show Ends p e below s (QK none h0 [x0] n0 (fun h => Exa Z h x0 "quotewright/StringView" ∧ (∃ b : Addr, Fld Z h x0 "quotewright/StringView" "bytes" "[B" (.ref b)) ∧ Fld Z h x0 "quotewright/StringView" "start" "I" (.int (0 : Int32)) ∧ Fld Z h x0 "quotewright/StringView" "fieldLength" "I" (.int (0 : Int32)) ∧ Fld Z h x0 "quotewright/StringView" "length" "I" (.int (0 : Int32)))) ({ frames := 1, cells := 1, slots := 0, locals := 12 } : Room).cells ({ frames := 1, cells := 1, slots := 0, locals := 12 } : Room).slots (s₁.setTop (entryFrame m #[(.ref x0)] 1))
  rw [ef_rm2 m x0]
  show Ends p e below s _ _ _ (s₁.setTop (mkF m 0 #[.val (.ref x0)] []))
  refine Ends.by ?_ (fun _ k => XS.aloadN X0.here hx rfl (hb hby d2_0) rfl rfl k)
  show Ends p e below s _ _ _ (s₁.setTop (mkF m 1 #[.val (.ref x0)] [(.ref x0)]))
  obtain ⟨T1, X1, e1, st1⟩ := initO X0 hx hZ hown (hw _ (List.mem_of_getElem? (i := 12) rfl)) (hw _ (List.mem_of_getElem? (i := 13) rfl)) (hw _ (List.mem_of_getElem? (i := 14) rfl)) e0 (g := (mkF m 1 #[.val (.ref x0)] [(.ref x0)])) rfl (by rw [hml]; rfl) rfl (hb hby d2_1) (by decide) (W := 0) (by show 2 * 0 + _ ≤ _; exact Nat.le_of_eq rfl) (by decide)
  refine Ends.by ?_ st1
  show Ends p e below s _ _ _ (T1.setTop (mkF m 4 #[.val (.ref x0)] []))
  refine Ends.by ?_ (fun _ k => XS.aloadN X1.here hx rfl (hb hby d2_4) rfl rfl k)
  show Ends p e below s _ _ _ (T1.setTop (mkF m 5 #[.val (.ref x0)] [(.ref x0)]))
  refine Ends.by ?_ (fun _ k => XS.iconst X1.here hx rfl (hb hby d2_5) k)
  show Ends p e below s _ _ _ (T1.setTop (mkF m 6 #[.val (.ref x0)] [(.int (0 : Int32)), (.ref x0)]))
  obtain ⟨T2, h2, X2, e2, E2, V2, st2⟩ := newAr X1 hx hZ (hw _ (List.mem_of_getElem? (i := 0) rfl)) rfl e1 (n := 0) (z := (0 : Int32)) (cap := 0) (by decide) (by decide) (by decide) (by decide) (by decide) (Ls := #[.val (.ref x0)]) (S := [(.ref x0)]) (hb hby d2_6)
  obtain ⟨b2, g2⟩ : ∃ z, z = h0.size := ⟨_, rfl⟩
  rw [← g2] at V2 st2
  have ne3 : x0 ≠ b2 := Nat.ne_of_lt (Nat.lt_of_lt_of_le E0.lt (Nat.le_of_eq g2.symm))
  have gn2 : n0 ≤ b2 := Nat.le_trans Z0 (Nat.le_of_eq g2.symm)
  have sz2 : h0.size ≤ b2 := Nat.le_trans (Keep.refl h0 [x0]).1 (Nat.le_of_eq g2.symm)
  have f4 := Exa.ext E2 E0
  have f5 := Fld.ext E2 F1
  have f6 := Fld.ext E2 F2
  have f7 := Fld.ext E2 F3
  have f8 := Fld.ext E2 F4
  have K9 := (Keep.refl h0 [x0]).ext E2
  have Zs10 : n0 ≤ h2.size := Nat.le_trans Z0 E2.1
  refine Ends.by ?_ st2
  show Ends p e below s _ _ _ (T2.setTop (mkF m 8 #[.val (.ref x0)] [(.ref b2), (.ref x0)]))
  obtain ⟨T11, h11, X11, e11, W11, st11⟩ := putF X2 hx hZ hown (host := "") (Or.inl (hw _ (List.mem_of_getElem? (i := 15) rfl))) Via.refl e2 f5 f4 (Or.inl (hw _ (List.mem_of_getElem? (i := 16) rfl))) (hw _ (List.mem_of_getElem? (i := 7) rfl)) (ty := (.array .byte)) (by decide) rfl rfl (g := (mkF m 8 #[.val (.ref x0)] [(.ref b2), (.ref x0)])) rfl rfl (hb hby d2_8)
  have Fw11 := Fld.same W11 f5
  have f12 := Exa.wr W11 f4
  have f14 := Fld.other W11 f6 (Or.inr (slot_ne (Or.inl (hw _ (List.mem_of_getElem? (i := 23) rfl))) (Or.inl (hw _ (List.mem_of_getElem? (i := 16) rfl))) (by decide) (t := .int) (t' := (.array .byte)) (by decide) (by decide)))
  have f15 := Fld.other W11 f7 (Or.inr (slot_ne (Or.inl (hw _ (List.mem_of_getElem? (i := 25) rfl))) (Or.inl (hw _ (List.mem_of_getElem? (i := 16) rfl))) (by decide) (t := .int) (t' := (.array .byte)) (by decide) (by decide)))
  have f16 := Fld.other W11 f8 (Or.inr (slot_ne (Or.inl (hw _ (List.mem_of_getElem? (i := 27) rfl))) (Or.inl (hw _ (List.mem_of_getElem? (i := 16) rfl))) (by decide) (t := .int) (t' := (.array .byte)) (by decide) (by decide)))
  have f17 := V2.other W11 (Ne.symm ne3)
  have K18 := K9.wr W11 (Or.inl (by simp))
  have N11 := Fr.snoc X11 N0 g0
  have Zs19 : n0 ≤ h11.size := Nat.le_trans Zs10 (Keep.of_wr W11).1
  refine Ends.by ?_ st11
  show Ends p e below s _ _ _ (T11.setTop (mkF m 11 #[.val (.ref x0)] []))
  exact Ends.retV X11 hx Bd.notSynchronized Bd.returns (hb hby d2_11) (by rw [e11]; exact ⟨rfl, N11, K18, f12, ⟨_, Fw11⟩, f14, f15, f16⟩) (by decide) (by decide)

theorem d4_0 : decode prog_40_method_2_code 0 = .ok (.aload_n 0, 1) := by decide +kernel
theorem d4_1 : decode prog_40_method_2_code 1 = .ok (.aload_n 1, 1) := by decide +kernel
theorem d4_2 : decode prog_40_method_2_code 2 = .ok (.putfield 7, 3) := by decide +kernel
theorem d4_5 : decode prog_40_method_2_code 5 = .ok (.aload_n 0, 1) := by decide +kernel
theorem d4_6 : decode prog_40_method_2_code 6 = .ok (.iload_n 2, 1) := by decide +kernel
theorem d4_7 : decode prog_40_method_2_code 7 = .ok (.putfield 13, 3) := by decide +kernel
theorem d4_10 : decode prog_40_method_2_code 10 = .ok (.aload_n 0, 1) := by decide +kernel
theorem d4_11 : decode prog_40_method_2_code 11 = .ok (.iload_n 3, 1) := by decide +kernel
theorem d4_12 : decode prog_40_method_2_code 12 = .ok (.putfield 17, 3) := by decide +kernel
theorem d4_15 : decode prog_40_method_2_code 15 = .ok (.aload_n 0, 1) := by decide +kernel
theorem d4_16 : decode prog_40_method_2_code 16 = .ok (.iconst (-1), 1) := by decide +kernel
theorem d4_17 : decode prog_40_method_2_code 17 = .ok (.putfield 20, 3) := by decide +kernel
theorem d4_20 : decode prog_40_method_2_code 20 = .ok (.aload_n 0, 1) := by decide +kernel
theorem d4_21 : decode prog_40_method_2_code 21 = .ok (.areturn, 1) := by decide +kernel
theorem ef_rm4 (m : MethodId) (x0 : Addr) (x1 : Addr) (x2 : Int32) (x3 : Int32) : entryFrame m #[(.ref x0), (.ref x1), (.int x2), (.int x3)] 4 = mkF m 0 #[.val (.ref x0), .val (.ref x1), .val (.int x2), .val (.int x3)] [] := by first | (simp [entryFrame, mkF, argsToLocals, Value.category]; done) | rfl
set_option maxRecDepth 65536 in
set_option maxHeartbeats 40000000 in
theorem rm4 (l : Launch) (Z : State) (a0 : Array Value) (hw : ∀ d ∈ tables_1, d.before a0 Z = true) (ws : List Jvm.Cond) (x0 : Addr) (x1 : Addr) (x2 : Int32) (x3 : Int32) (o1 o2 o3 o4 : Value) (h0 : Heap) (n0 : Nat) (Z0 : n0 ≤ h0.size) (E0 : Exa Z h0 x0 "quotewright/StringView") (F1 : Fld Z h0 x0 "quotewright/StringView" "bytes" "[B" o1) (F2 : Fld Z h0 x0 "quotewright/StringView" "start" "I" o2) (F3 : Fld Z h0 x0 "quotewright/StringView" "fieldLength" "I" o3) (F4 : Fld Z h0 x0 "quotewright/StringView" "length" "I" o4) (g0 : n0 ≤ x0) :
    MetFree l (⟨"quotewright/StringView", "wrap", "([BII)Lquotewright/StringView;"⟩ : MethodName) (head1 (Jvm.Cond.code (⟨"quotewright/StringView", "wrap", "([BII)Lquotewright/StringView;"⟩ : MethodName) prog_40_method_2_code 4 (some (.object "quotewright/StringView")) :: ws) ({ frames := 0, cells := 0, slots := 0, locals := 0 } : Room)) (fun a U => a = #[(.ref x0), (.ref x1), (.int x2), (.int x3)] ∧ Z.Warmed39 U.vm ∧ U.heap = h0) (fun _ _ _ _ _ => True) (fun _ U o U' => ∃ v L, o = .returned v ∧ (QK (some (.ref x0)) h0 [x0] n0 (fun h => Exa Z h x0 "quotewright/StringView" ∧ Fld Z h x0 "quotewright/StringView" "bytes" "[B" (.ref x1) ∧ Fld Z h x0 "quotewright/StringView" "start" "I" (.int x2) ∧ Fld Z h x0 "quotewright/StringView" "fieldLength" "I" (.int x3) ∧ Fld Z h x0 "quotewright/StringView" "length" "I" (.int (-1 : Int32)))) v U'.heap L ∧ FrameEnd U o U' L ({ frames := 0, cells := 0, slots := 0, locals := 0 } : Room).cells ({ frames := 0, cells := 0, slots := 0, locals := 0 } : Room).slots) := by
  refine MetFree.of_bodySF (plainFor_of_name pn_1) hisR ?_
  intro p e s m args below meth c s₁ Bd hml0 hP hK
  obtain ⟨rfl, hZ, hh⟩ := hP
  have hx := Bd.exec
  have hby := Bd.bytes
  have hml : c.maxLocals = 4 := hml0
  have hown : s.vm.findClass "quotewright/StringView" = some m.cls := findClass_of_methodNamed Bd.named
  have hnm := (name_of_methodNamed Bd.named Bd.method).1
  have X0 : Stand p l e ({ frames := 0, cells := 0, slots := 0, locals := 0 } : Room) s m #[(.ref x0), (.ref x1), (.int x2), (.int x3)] below meth c s₁ [] 0 0 := Stand.of_body Bd
  have e0 : s₁.heap = h0 := by rw [← hh, Bd.state]; rfl
  have N0 := Fr.nil n0
  show Ends p e below s (QK (some (.ref x0)) h0 [x0] n0 (fun h => Exa Z h x0 "quotewright/StringView" ∧ Fld Z h x0 "quotewright/StringView" "bytes" "[B" (.ref x1) ∧ Fld Z h x0 "quotewright/StringView" "start" "I" (.int x2) ∧ Fld Z h x0 "quotewright/StringView" "fieldLength" "I" (.int x3) ∧ Fld Z h x0 "quotewright/StringView" "length" "I" (.int (-1 : Int32)))) ({ frames := 0, cells := 0, slots := 0, locals := 0 } : Room).cells ({ frames := 0, cells := 0, slots := 0, locals := 0 } : Room).slots (s₁.setTop (entryFrame m #[(.ref x0), (.ref x1), (.int x2), (.int x3)] 4))
  rw [ef_rm4 m x0 x1 x2 x3]
  show Ends p e below s _ _ _ (s₁.setTop (mkF m 0 #[.val (.ref x0), .val (.ref x1), .val (.int x2), .val (.int x3)] []))
  refine Ends.by ?_ (fun _ k => XS.aloadN X0.here hx rfl (hb hby d4_0) rfl rfl k)
  show Ends p e below s _ _ _ (s₁.setTop (mkF m 1 #[.val (.ref x0), .val (.ref x1), .val (.int x2), .val (.int x3)] [(.ref x0)]))
  refine Ends.by ?_ (fun _ k => XS.aloadN X0.here hx rfl (hb hby d4_1) rfl rfl k)
  show Ends p e below s _ _ _ (s₁.setTop (mkF m 2 #[.val (.ref x0), .val (.ref x1), .val (.int x2), .val (.int x3)] [(.ref x1), (.ref x0)]))
  obtain ⟨T1, h1, X1, e1, W1, st1⟩ := putF X0 hx hZ hown (host := "") (Or.inl (hw _ (List.mem_of_getElem? (i := 15) rfl))) Via.refl e0 F1 E0 (Or.inl (hw _ (List.mem_of_getElem? (i := 16) rfl))) (hw _ (List.mem_of_getElem? (i := 7) rfl)) (ty := (.array .byte)) (by decide) rfl rfl (g := (mkF m 2 #[.val (.ref x0), .val (.ref x1), .val (.int x2), .val (.int x3)] [(.ref x1), (.ref x0)])) rfl rfl (hb hby d4_2)
  have Fw1 := Fld.same W1 F1
  have f2 := Exa.wr W1 E0
  have f4 := Fld.other W1 F2 (Or.inr (slot_ne (Or.inl (hw _ (List.mem_of_getElem? (i := 23) rfl))) (Or.inl (hw _ (List.mem_of_getElem? (i := 16) rfl))) (by decide) (t := .int) (t' := (.array .byte)) (by decide) (by decide)))
  have f5 := Fld.other W1 F3 (Or.inr (slot_ne (Or.inl (hw _ (List.mem_of_getElem? (i := 25) rfl))) (Or.inl (hw _ (List.mem_of_getElem? (i := 16) rfl))) (by decide) (t := .int) (t' := (.array .byte)) (by decide) (by decide)))
  have f6 := Fld.other W1 F4 (Or.inr (slot_ne (Or.inl (hw _ (List.mem_of_getElem? (i := 27) rfl))) (Or.inl (hw _ (List.mem_of_getElem? (i := 16) rfl))) (by decide) (t := .int) (t' := (.array .byte)) (by decide) (by decide)))
  have K7 := (Keep.refl h0 [x0]).wr W1 (Or.inl (by simp))
  have N1 := Fr.snoc X1 N0 g0
  have Zs8 : n0 ≤ h1.size := Nat.le_trans Z0 (Keep.of_wr W1).1
  refine Ends.by ?_ st1
  show Ends p e below s _ _ _ (T1.setTop (mkF m 5 #[.val (.ref x0), .val (.ref x1), .val (.int x2), .val (.int x3)] []))
  refine Ends.by ?_ (fun _ k => XS.aloadN X1.here hx rfl (hb hby d4_5) rfl rfl k)
  show Ends p e below s _ _ _ (T1.setTop (mkF m 6 #[.val (.ref x0), .val (.ref x1), .val (.int x2), .val (.int x3)] [(.ref x0)]))
  refine Ends.by ?_ (fun _ k => XS.iloadN X1.here hx rfl (hb hby d4_6) rfl k)
  show Ends p e below s _ _ _ (T1.setTop (mkF m 7 #[.val (.ref x0), .val (.ref x1), .val (.int x2), .val (.int x3)] [(.int x2), (.ref x0)]))
  obtain ⟨T9, h9, X9, e9, W9, st9⟩ := putF X1 hx hZ hown (host := "") (Or.inl (hw _ (List.mem_of_getElem? (i := 22) rfl))) Via.refl e1 f4 f2 (Or.inl (hw _ (List.mem_of_getElem? (i := 23) rfl))) (hw _ (List.mem_of_getElem? (i := 7) rfl)) (ty := .int) (by decide) rfl rfl (g := (mkF m 7 #[.val (.ref x0), .val (.ref x1), .val (.int x2), .val (.int x3)] [(.int x2), (.ref x0)])) rfl rfl (hb hby d4_7)
  have Fw9 := Fld.same W9 f4
  have f10 := Exa.wr W9 f2
  have f11 := Fld.other W9 Fw1 (Or.inr (slot_ne (Or.inl (hw _ (List.mem_of_getElem? (i := 16) rfl))) (Or.inl (hw _ (List.mem_of_getElem? (i := 23) rfl))) (by decide) (t := (.array .byte)) (t' := .int) (by decide) (by decide)))
  have f13 := Fld.other W9 f5 (Or.inr (slot_ne (Or.inl (hw _ (List.mem_of_getElem? (i := 25) rfl))) (Or.inl (hw _ (List.mem_of_getElem? (i := 23) rfl))) (by decide) (t := .int) (t' := .int) (by decide) (by decide)))
  have f14 := Fld.other W9 f6 (Or.inr (slot_ne (Or.inl (hw _ (List.mem_of_getElem? (i := 27) rfl))) (Or.inl (hw _ (List.mem_of_getElem? (i := 23) rfl))) (by decide) (t := .int) (t' := .int) (by decide) (by decide)))
  have K15 := K7.wr W9 (Or.inl (by simp))
  have N9 := Fr.snoc X9 N1 g0
  have Zs16 : n0 ≤ h9.size := Nat.le_trans Zs8 (Keep.of_wr W9).1
  refine Ends.by ?_ st9
  show Ends p e below s _ _ _ (T9.setTop (mkF m 10 #[.val (.ref x0), .val (.ref x1), .val (.int x2), .val (.int x3)] []))
  refine Ends.by ?_ (fun _ k => XS.aloadN X9.here hx rfl (hb hby d4_10) rfl rfl k)
  show Ends p e below s _ _ _ (T9.setTop (mkF m 11 #[.val (.ref x0), .val (.ref x1), .val (.int x2), .val (.int x3)] [(.ref x0)]))
  refine Ends.by ?_ (fun _ k => XS.iloadN X9.here hx rfl (hb hby d4_11) rfl k)
  show Ends p e below s _ _ _ (T9.setTop (mkF m 12 #[.val (.ref x0), .val (.ref x1), .val (.int x2), .val (.int x3)] [(.int x3), (.ref x0)]))
  obtain ⟨T17, h17, X17, e17, W17, st17⟩ := putF X9 hx hZ hown (host := "") (Or.inl (hw _ (List.mem_of_getElem? (i := 24) rfl))) Via.refl e9 f13 f10 (Or.inl (hw _ (List.mem_of_getElem? (i := 25) rfl))) (hw _ (List.mem_of_getElem? (i := 7) rfl)) (ty := .int) (by decide) rfl rfl (g := (mkF m 12 #[.val (.ref x0), .val (.ref x1), .val (.int x2), .val (.int x3)] [(.int x3), (.ref x0)])) rfl rfl (hb hby d4_12)
  have Fw17 := Fld.same W17 f13
  have f18 := Exa.wr W17 f10
  have f19 := Fld.other W17 f11 (Or.inr (slot_ne (Or.inl (hw _ (List.mem_of_getElem? (i := 16) rfl))) (Or.inl (hw _ (List.mem_of_getElem? (i := 25) rfl))) (by decide) (t := (.array .byte)) (t' := .int) (by decide) (by decide)))
  have f20 := Fld.other W17 Fw9 (Or.inr (slot_ne (Or.inl (hw _ (List.mem_of_getElem? (i := 23) rfl))) (Or.inl (hw _ (List.mem_of_getElem? (i := 25) rfl))) (by decide) (t := .int) (t' := .int) (by decide) (by decide)))
  have f22 := Fld.other W17 f14 (Or.inr (slot_ne (Or.inl (hw _ (List.mem_of_getElem? (i := 27) rfl))) (Or.inl (hw _ (List.mem_of_getElem? (i := 25) rfl))) (by decide) (t := .int) (t' := .int) (by decide) (by decide)))
  have K23 := K15.wr W17 (Or.inl (by simp))
  have N17 := Fr.snoc X17 N9 g0
  have Zs24 : n0 ≤ h17.size := Nat.le_trans Zs16 (Keep.of_wr W17).1
  refine Ends.by ?_ st17
  show Ends p e below s _ _ _ (T17.setTop (mkF m 15 #[.val (.ref x0), .val (.ref x1), .val (.int x2), .val (.int x3)] []))
  refine Ends.by ?_ (fun _ k => XS.aloadN X17.here hx rfl (hb hby d4_15) rfl rfl k)
  show Ends p e below s _ _ _ (T17.setTop (mkF m 16 #[.val (.ref x0), .val (.ref x1), .val (.int x2), .val (.int x3)] [(.ref x0)]))
  refine Ends.by ?_ (fun _ k => XS.iconst X17.here hx rfl (hb hby d4_16) k)
  show Ends p e below s _ _ _ (T17.setTop (mkF m 17 #[.val (.ref x0), .val (.ref x1), .val (.int x2), .val (.int x3)] [(.int (-1 : Int32)), (.ref x0)]))
  obtain ⟨T25, h25, X25, e25, W25, st25⟩ := putF X17 hx hZ hown (host := "") (Or.inl (hw _ (List.mem_of_getElem? (i := 26) rfl))) Via.refl e17 f22 f18 (Or.inl (hw _ (List.mem_of_getElem? (i := 27) rfl))) (hw _ (List.mem_of_getElem? (i := 7) rfl)) (ty := .int) (by decide) rfl rfl (g := (mkF m 17 #[.val (.ref x0), .val (.ref x1), .val (.int x2), .val (.int x3)] [(.int (-1 : Int32)), (.ref x0)])) rfl rfl (hb hby d4_17)
  have Fw25 := Fld.same W25 f22
  have f26 := Exa.wr W25 f18
  have f27 := Fld.other W25 f19 (Or.inr (slot_ne (Or.inl (hw _ (List.mem_of_getElem? (i := 16) rfl))) (Or.inl (hw _ (List.mem_of_getElem? (i := 27) rfl))) (by decide) (t := (.array .byte)) (t' := .int) (by decide) (by decide)))
  have f28 := Fld.other W25 f20 (Or.inr (slot_ne (Or.inl (hw _ (List.mem_of_getElem? (i := 23) rfl))) (Or.inl (hw _ (List.mem_of_getElem? (i := 27) rfl))) (by decide) (t := .int) (t' := .int) (by decide) (by decide)))
  have f29 := Fld.other W25 Fw17 (Or.inr (slot_ne (Or.inl (hw _ (List.mem_of_getElem? (i := 25) rfl))) (Or.inl (hw _ (List.mem_of_getElem? (i := 27) rfl))) (by decide) (t := .int) (t' := .int) (by decide) (by decide)))
  have K31 := K23.wr W25 (Or.inl (by simp))
  have N25 := Fr.snoc X25 N17 g0
  have Zs32 : n0 ≤ h25.size := Nat.le_trans Zs24 (Keep.of_wr W25).1
  refine Ends.by ?_ st25
  show Ends p e below s _ _ _ (T25.setTop (mkF m 20 #[.val (.ref x0), .val (.ref x1), .val (.int x2), .val (.int x3)] []))
  refine Ends.by ?_ (fun _ k => XS.aloadN X25.here hx rfl (hb hby d4_20) rfl rfl k)
  show Ends p e below s _ _ _ (T25.setTop (mkF m 21 #[.val (.ref x0), .val (.ref x1), .val (.int x2), .val (.int x3)] [(.ref x0)]))
  exact Ends.retA X25 hx Bd.notSynchronized Bd.returns rfl (fun _ => rfl) (hb hby d4_21) (by rw [e25]; exact ⟨rfl, N25, K31, f26, f27, f28, f29, Fw25⟩) (by decide) (by decide)

theorem d5_0 : decode prog_40_method_3_code 0 = .ok (.aload_n 0, 1) := by decide +kernel
theorem d5_1 : decode prog_40_method_3_code 1 = .ok (.getfield 20, 3) := by decide +kernel
theorem d5_4 : decode prog_40_method_3_code 4 = .ok (.ifCond .ge 38, 3) := by decide +kernel
theorem d5_7 : decode prog_40_method_3_code 7 = .ok (.iconst 0, 1) := by decide +kernel
theorem d5_8 : decode prog_40_method_3_code 8 = .ok (.istore_n 1, 1) := by decide +kernel
theorem d5_9 : decode prog_40_method_3_code 9 = .ok (.iload_n 1, 1) := by decide +kernel
theorem d5_10 : decode prog_40_method_3_code 10 = .ok (.aload_n 0, 1) := by decide +kernel
theorem d5_11 : decode prog_40_method_3_code 11 = .ok (.getfield 17, 3) := by decide +kernel
theorem d5_14 : decode prog_40_method_3_code 14 = .ok (.if_icmp .ge 23, 3) := by decide +kernel
theorem d5_17 : decode prog_40_method_3_code 17 = .ok (.aload_n 0, 1) := by decide +kernel
theorem d5_18 : decode prog_40_method_3_code 18 = .ok (.getfield 7, 3) := by decide +kernel
theorem d5_21 : decode prog_40_method_3_code 21 = .ok (.aload_n 0, 1) := by decide +kernel
theorem d5_22 : decode prog_40_method_3_code 22 = .ok (.getfield 13, 3) := by decide +kernel
theorem d5_25 : decode prog_40_method_3_code 25 = .ok (.iload_n 1, 1) := by decide +kernel
theorem d5_26 : decode prog_40_method_3_code 26 = .ok (.iadd, 1) := by decide +kernel
theorem d5_27 : decode prog_40_method_3_code 27 = .ok (.baload, 1) := by decide +kernel
theorem d5_28 : decode prog_40_method_3_code 28 = .ok (.ifCond .eq 9, 3) := by decide +kernel
theorem d5_37 : decode prog_40_method_3_code 37 = .ok (.aload_n 0, 1) := by decide +kernel
theorem d5_38 : decode prog_40_method_3_code 38 = .ok (.iload_n 1, 1) := by decide +kernel
theorem d5_39 : decode prog_40_method_3_code 39 = .ok (.putfield 20, 3) := by decide +kernel
theorem d5_42 : decode prog_40_method_3_code 42 = .ok (.aload_n 0, 1) := by decide +kernel
theorem d5_43 : decode prog_40_method_3_code 43 = .ok (.getfield 20, 3) := by decide +kernel
theorem d5_46 : decode prog_40_method_3_code 46 = .ok (.ireturn, 1) := by decide +kernel
theorem d5_31 : decode prog_40_method_3_code 31 = .ok (.iinc 1 1, 3) := by decide +kernel
theorem d5_34 : decode prog_40_method_3_code 34 = .ok (.goto (-25), 3) := by decide +kernel
def fLa (x0 : Addr) (ya : Addr) (y1 : Int32) (y2 : Int32) (g : Nat → Int32) : Int32 := (if (0 : Int32) < y2 then (if (g ((y1 + (0 : Int32))).toNatClampNeg) = (0 : Int32) then (0 : Int32) else (if (1 : Int32) < y2 then (if (g ((y1 + (1 : Int32))).toNatClampNeg) = (0 : Int32) then (1 : Int32) else (if (2 : Int32) < y2 then (if (g ((y1 + (2 : Int32))).toNatClampNeg) = (0 : Int32) then (2 : Int32) else (if (3 : Int32) < y2 then (if (g ((y1 + (3 : Int32))).toNatClampNeg) = (0 : Int32) then (3 : Int32) else (if (4 : Int32) < y2 then (if (g ((y1 + (4 : Int32))).toNatClampNeg) = (0 : Int32) then (4 : Int32) else (if (5 : Int32) < y2 then (if (g ((y1 + (5 : Int32))).toNatClampNeg) = (0 : Int32) then (5 : Int32) else (6 : Int32)) else (5 : Int32))) else (4 : Int32))) else (3 : Int32))) else (2 : Int32))) else (1 : Int32))) else (0 : Int32))
theorem ef_rmLa (m : MethodId) (x0 : Addr) : entryFrame m #[(.ref x0)] 2 = mkF m 0 #[.val (.ref x0), .unset] [] := by first | (simp [entryFrame, mkF, argsToLocals, Value.category]; done) | rfl
set_option maxRecDepth 65536 in
set_option maxHeartbeats 40000000 in
theorem rmLa (l : Launch) (Z : State) (a0 : Array Value) (hw : ∀ d ∈ tables_1, d.before a0 Z = true) (ws : List Jvm.Cond) (x0 : Addr) (ya : Addr) (y1 : Int32) (y2 : Int32) (g : Nat → Int32) (h0 : Heap) (n0 : Nat) (Z0 : n0 ≤ h0.size) (V0 : Ary Z h0 ya .byte 6 g) (hs : 0 ≤ y1.toInt) (hsum : y1.toInt + y2.toInt ≤ 6) (h6 : ¬ ((6 : Int32) < y2)) (hne : ya ≠ x0) (E0 : Exa Z h0 x0 "quotewright/StringView") (F1 : Fld Z h0 x0 "quotewright/StringView" "bytes" "[B" (.ref ya)) (F2 : Fld Z h0 x0 "quotewright/StringView" "start" "I" (.int y1)) (F3 : Fld Z h0 x0 "quotewright/StringView" "fieldLength" "I" (.int y2)) (F4 : Fld Z h0 x0 "quotewright/StringView" "length" "I" (.int (-1 : Int32))) (g0 : n0 ≤ x0) :
    MetFree l (⟨"quotewright/StringView", "length", "()I"⟩ : MethodName) (head1 (Jvm.Cond.code (⟨"quotewright/StringView", "length", "()I"⟩ : MethodName) prog_40_method_3_code 2 (some .int) :: ws) ({ frames := 0, cells := 0, slots := 0, locals := 0 } : Room)) (fun a U => a = #[(.ref x0)] ∧ Z.Warmed39 U.vm ∧ U.heap = h0) (fun _ _ _ _ _ => True) (fun _ U o U' => ∃ v L, o = .returned v ∧ (QK (some (.int (fLa x0 ya y1 y2 g))) h0 [x0] n0 (fun h => Exa Z h x0 "quotewright/StringView" ∧ Fld Z h x0 "quotewright/StringView" "bytes" "[B" (.ref ya) ∧ Fld Z h x0 "quotewright/StringView" "start" "I" (.int y1) ∧ Fld Z h x0 "quotewright/StringView" "fieldLength" "I" (.int y2) ∧ Fld Z h x0 "quotewright/StringView" "length" "I" (.int (fLa x0 ya y1 y2 g)))) v U'.heap L ∧ FrameEnd U o U' L ({ frames := 0, cells := 0, slots := 0, locals := 0 } : Room).cells ({ frames := 0, cells := 0, slots := 0, locals := 0 } : Room).slots) := by
  refine MetFree.of_bodySF (plainFor_of_name pn_1) hisR ?_
  intro p e s m args below meth c s₁ Bd hml0 hP hK
  obtain ⟨rfl, hZ, hh⟩ := hP
  have hx := Bd.exec
  have hby := Bd.bytes
  have hml : c.maxLocals = 2 := hml0
  have hown : s.vm.findClass "quotewright/StringView" = some m.cls := findClass_of_methodNamed Bd.named
  have hnm := (name_of_methodNamed Bd.named Bd.method).1
  have X0 : Stand p l e ({ frames := 0, cells := 0, slots := 0, locals := 0 } : Room) s m #[(.ref x0)] below meth c s₁ [] 0 0 := Stand.of_body Bd
  have e0 : s₁.heap = h0 := by rw [← hh, Bd.state]; rfl
  have N0 := Fr.nil n0
  show Ends p e below s (QK (some (.int (fLa x0 ya y1 y2 g))) h0 [x0] n0 (fun h => Exa Z h x0 "quotewright/StringView" ∧ Fld Z h x0 "quotewright/StringView" "bytes" "[B" (.ref ya) ∧ Fld Z h x0 "quotewright/StringView" "start" "I" (.int y1) ∧ Fld Z h x0 "quotewright/StringView" "fieldLength" "I" (.int y2) ∧ Fld Z h x0 "quotewright/StringView" "length" "I" (.int (fLa x0 ya y1 y2 g)))) ({ frames := 0, cells := 0, slots := 0, locals := 0 } : Room).cells ({ frames := 0, cells := 0, slots := 0, locals := 0 } : Room).slots (s₁.setTop (entryFrame m #[(.ref x0)] 2))
  rw [ef_rmLa m x0]
  have hv0 : fLa x0 ya y1 y2 g = fLa x0 ya y1 y2 g := rfl
  show Ends p e below s _ _ _ (s₁.setTop (mkF m 0 #[.val (.ref x0), .unset] []))
  refine Ends.by ?_ (fun _ k => XS.aloadN X0.here hx rfl (hb hby d5_0) rfl rfl k)
  show Ends p e below s _ _ _ (s₁.setTop (mkF m 1 #[.val (.ref x0), .unset] [(.ref x0)]))
  obtain ⟨T1, X1, e1, st1⟩ := getF X0 hx hZ hown (host := "") (Or.inl (hw _ (List.mem_of_getElem? (i := 26) rfl))) Via.refl e0 F4 (g := (mkF m 1 #[.val (.ref x0), .unset] [(.ref x0)])) rfl rfl (hb hby d5_1)
  refine Ends.by ?_ st1
  show Ends p e below s _ _ _ (T1.setTop (mkF m 4 #[.val (.ref x0), .unset] [(.int (-1 : Int32))]))
  refine Ends.by ?_ (fun _ k => XS.ifNo X1.here hx rfl (hb hby d5_4) rfl (XT.i0_ge_f (by decide)) k)
  show Ends p e below s _ _ _ (T1.setTop (mkF m 7 #[.val (.ref x0), .unset] []))
  refine Ends.by ?_ (fun _ k => XS.iconst X1.here hx rfl (hb hby d5_7) k)
  show Ends p e below s _ _ _ (T1.setTop (mkF m 8 #[.val (.ref x0), .unset] [(.int (0 : Int32))]))
  refine Ends.by ?_ (fun _ k => XS.istoreN X1.here hx rfl (hb hby d5_8) rfl (l' := #[.val (.ref x0), .val (.int (0 : Int32))]) rfl k)
  show Ends p e below s _ _ _ (T1.setTop (mkF m 9 #[.val (.ref x0), .val (.int (0 : Int32))] []))
  refine Ends.by ?_ (fun _ k => XS.iloadN X1.here hx rfl (hb hby d5_9) rfl k)
  show Ends p e below s _ _ _ (T1.setTop (mkF m 10 #[.val (.ref x0), .val (.int (0 : Int32))] [(.int (0 : Int32))]))
  refine Ends.by ?_ (fun _ k => XS.aloadN X1.here hx rfl (hb hby d5_10) rfl rfl k)
  show Ends p e below s _ _ _ (T1.setTop (mkF m 11 #[.val (.ref x0), .val (.int (0 : Int32))] [(.ref x0), (.int (0 : Int32))]))
  obtain ⟨T2, X2, e2, st2⟩ := getF X1 hx hZ hown (host := "") (Or.inl (hw _ (List.mem_of_getElem? (i := 24) rfl))) Via.refl e1 F3 (g := (mkF m 11 #[.val (.ref x0), .val (.int (0 : Int32))] [(.ref x0), (.int (0 : Int32))])) rfl rfl (hb hby d5_11)
  refine Ends.by ?_ st2
  show Ends p e below s _ _ _ (T2.setTop (mkF m 14 #[.val (.ref x0), .val (.int (0 : Int32))] [(.int y2), (.int (0 : Int32))]))
  by_cases hc3 : (0 : Int32) < y2
  · have hv4 := hv0.trans (if_pos hc3)
    refine Ends.by ?_ (fun _ k => XS.icmpNo X2.here hx rfl (hb hby d5_14) rfl (XT.ii_ge_f hc3) k)
    show Ends p e below s _ _ _ (T2.setTop (mkF m 17 #[.val (.ref x0), .val (.int (0 : Int32))] []))
    refine Ends.by ?_ (fun _ k => XS.aloadN X2.here hx rfl (hb hby d5_17) rfl rfl k)
    show Ends p e below s _ _ _ (T2.setTop (mkF m 18 #[.val (.ref x0), .val (.int (0 : Int32))] [(.ref x0)]))
    obtain ⟨T5, X5, e5, st5⟩ := getF X2 hx hZ hown (host := "") (Or.inl (hw _ (List.mem_of_getElem? (i := 15) rfl))) Via.refl e2 F1 (g := (mkF m 18 #[.val (.ref x0), .val (.int (0 : Int32))] [(.ref x0)])) rfl rfl (hb hby d5_18)
    refine Ends.by ?_ st5
    show Ends p e below s _ _ _ (T5.setTop (mkF m 21 #[.val (.ref x0), .val (.int (0 : Int32))] [(.ref ya)]))
    refine Ends.by ?_ (fun _ k => XS.aloadN X5.here hx rfl (hb hby d5_21) rfl rfl k)
    show Ends p e below s _ _ _ (T5.setTop (mkF m 22 #[.val (.ref x0), .val (.int (0 : Int32))] [(.ref x0), (.ref ya)]))
    obtain ⟨T6, X6, e6, st6⟩ := getF X5 hx hZ hown (host := "") (Or.inl (hw _ (List.mem_of_getElem? (i := 22) rfl))) Via.refl e5 F2 (g := (mkF m 22 #[.val (.ref x0), .val (.int (0 : Int32))] [(.ref x0), (.ref ya)])) rfl rfl (hb hby d5_22)
    refine Ends.by ?_ st6
    show Ends p e below s _ _ _ (T6.setTop (mkF m 25 #[.val (.ref x0), .val (.int (0 : Int32))] [(.int y1), (.ref ya)]))
    refine Ends.by ?_ (fun _ k => XS.iloadN X6.here hx rfl (hb hby d5_25) rfl k)
    show Ends p e below s _ _ _ (T6.setTop (mkF m 26 #[.val (.ref x0), .val (.int (0 : Int32))] [(.int (0 : Int32)), (.int y1), (.ref ya)]))
    refine Ends.by ?_ (fun _ k => XS.iadd X6.here hx rfl (hb hby d5_26) rfl k)
    show Ends p e below s _ _ _ (T6.setTop (mkF m 27 #[.val (.ref x0), .val (.int (0 : Int32))] [(.int (y1 + (0 : Int32))), (.ref ya)]))
    refine Ends.bald ?_ X6 hx hZ e6 V0 (own_idx (0 : Int32) 0 (by decide) (by decide) hs hsum hc3) (hb hby d5_27)
    show Ends p e below s _ _ _ (T6.setTop (mkF m 28 #[.val (.ref x0), .val (.int (0 : Int32))] [(.int (g ((y1 + (0 : Int32))).toNatClampNeg))]))
    by_cases hc7 : (g ((y1 + (0 : Int32))).toNatClampNeg) = (0 : Int32)
    · have hv8 := hv4.trans (if_pos hc7)
      refine Ends.by ?_ (fun _ k => XS.ifYes X6.here hx rfl (pc0 := 28) (pc' := 37) rfl (hb hby d5_28) rfl (XT.i0_eq_t hc7) (by decide) (by decide) k)
      show Ends p e below s _ _ _ (T6.setTop (mkF m 37 #[.val (.ref x0), .val (.int (0 : Int32))] []))
      refine Ends.by ?_ (fun _ k => XS.aloadN X6.here hx rfl (hb hby d5_37) rfl rfl k)
      show Ends p e below s _ _ _ (T6.setTop (mkF m 38 #[.val (.ref x0), .val (.int (0 : Int32))] [(.ref x0)]))
      refine Ends.by ?_ (fun _ k => XS.iloadN X6.here hx rfl (hb hby d5_38) rfl k)
      show Ends p e below s _ _ _ (T6.setTop (mkF m 39 #[.val (.ref x0), .val (.int (0 : Int32))] [(.int (0 : Int32)), (.ref x0)]))
      obtain ⟨T9, h9, X9, e9, W9, st9⟩ := putF X6 hx hZ hown (host := "") (Or.inl (hw _ (List.mem_of_getElem? (i := 26) rfl))) Via.refl e6 F4 E0 (Or.inl (hw _ (List.mem_of_getElem? (i := 27) rfl))) (hw _ (List.mem_of_getElem? (i := 7) rfl)) (ty := .int) (by decide) rfl rfl (g := (mkF m 39 #[.val (.ref x0), .val (.int (0 : Int32))] [(.int (0 : Int32)), (.ref x0)])) rfl rfl (hb hby d5_39)
      have Fw9 := Fld.same W9 F4
      have f10 := Exa.wr W9 E0
      have f11 := V0.other W9 hne
      have f12 := Fld.other W9 F1 (Or.inr (slot_ne (Or.inl (hw _ (List.mem_of_getElem? (i := 16) rfl))) (Or.inl (hw _ (List.mem_of_getElem? (i := 27) rfl))) (by decide) (t := (.array .byte)) (t' := .int) (by decide) (by decide)))
      have f13 := Fld.other W9 F2 (Or.inr (slot_ne (Or.inl (hw _ (List.mem_of_getElem? (i := 23) rfl))) (Or.inl (hw _ (List.mem_of_getElem? (i := 27) rfl))) (by decide) (t := .int) (t' := .int) (by decide) (by decide)))
      have f14 := Fld.other W9 F3 (Or.inr (slot_ne (Or.inl (hw _ (List.mem_of_getElem? (i := 25) rfl))) (Or.inl (hw _ (List.mem_of_getElem? (i := 27) rfl))) (by decide) (t := .int) (t' := .int) (by decide) (by decide)))
      have K16 := (Keep.refl h0 [x0]).wr W9 (Or.inl (by simp))
      have N9 := Fr.snoc X9 N0 g0
      have Zs17 : n0 ≤ h9.size := Nat.le_trans Z0 (Keep.of_wr W9).1
      refine Ends.by ?_ st9
      show Ends p e below s _ _ _ (T9.setTop (mkF m 42 #[.val (.ref x0), .val (.int (0 : Int32))] []))
      refine Ends.by ?_ (fun _ k => XS.aloadN X9.here hx rfl (hb hby d5_42) rfl rfl k)
      show Ends p e below s _ _ _ (T9.setTop (mkF m 43 #[.val (.ref x0), .val (.int (0 : Int32))] [(.ref x0)]))
      obtain ⟨T18, X18, e18, st18⟩ := getF X9 hx hZ hown (host := "") (Or.inl (hw _ (List.mem_of_getElem? (i := 26) rfl))) Via.refl e9 Fw9 (g := (mkF m 43 #[.val (.ref x0), .val (.int (0 : Int32))] [(.ref x0)])) rfl rfl (hb hby d5_43)
      refine Ends.by ?_ st18
      show Ends p e below s _ _ _ (T18.setTop (mkF m 46 #[.val (.ref x0), .val (.int (0 : Int32))] [(.int (0 : Int32))]))
      exact Ends.retI X18 hx Bd.notSynchronized Bd.returns (hb hby d5_46) (by rw [e18, hv8]; exact ⟨rfl, N9, K16, f10, f12, f13, f14, Fw9⟩) (by decide) (by decide)
    · have hv19 := hv4.trans (if_neg hc7)
      refine Ends.by ?_ (fun _ k => XS.ifNo X6.here hx rfl (hb hby d5_28) rfl (XT.i0_eq_f hc7) k)
      show Ends p e below s _ _ _ (T6.setTop (mkF m 31 #[.val (.ref x0), .val (.int (0 : Int32))] []))
      refine Ends.by ?_ (fun _ k => XS.iinc X6.here hx rfl (hb hby d5_31) rfl (l' := #[.val (.ref x0), .val (.int (1 : Int32))]) rfl k)
      show Ends p e below s _ _ _ (T6.setTop (mkF m 34 #[.val (.ref x0), .val (.int (1 : Int32))] []))
      refine Ends.by ?_ (fun _ k => XS.goto X6.here hx rfl (pc0 := 34) (pc' := 9) rfl (hb hby d5_34) (by decide) (by decide) k)
      show Ends p e below s _ _ _ (T6.setTop (mkF m 9 #[.val (.ref x0), .val (.int (1 : Int32))] []))
      refine Ends.by ?_ (fun _ k => XS.iloadN X6.here hx rfl (hb hby d5_9) rfl k)
      show Ends p e below s _ _ _ (T6.setTop (mkF m 10 #[.val (.ref x0), .val (.int (1 : Int32))] [(.int (1 : Int32))]))
      refine Ends.by ?_ (fun _ k => XS.aloadN X6.here hx rfl (hb hby d5_10) rfl rfl k)
      show Ends p e below s _ _ _ (T6.setTop (mkF m 11 #[.val (.ref x0), .val (.int (1 : Int32))] [(.ref x0), (.int (1 : Int32))]))
      obtain ⟨T20, X20, e20, st20⟩ := getF X6 hx hZ hown (host := "") (Or.inl (hw _ (List.mem_of_getElem? (i := 24) rfl))) Via.refl e6 F3 (g := (mkF m 11 #[.val (.ref x0), .val (.int (1 : Int32))] [(.ref x0), (.int (1 : Int32))])) rfl rfl (hb hby d5_11)
      refine Ends.by ?_ st20
      show Ends p e below s _ _ _ (T20.setTop (mkF m 14 #[.val (.ref x0), .val (.int (1 : Int32))] [(.int y2), (.int (1 : Int32))]))
      by_cases hc21 : (1 : Int32) < y2
      · have hv22 := hv19.trans (if_pos hc21)
        refine Ends.by ?_ (fun _ k => XS.icmpNo X20.here hx rfl (hb hby d5_14) rfl (XT.ii_ge_f hc21) k)
        show Ends p e below s _ _ _ (T20.setTop (mkF m 17 #[.val (.ref x0), .val (.int (1 : Int32))] []))
        refine Ends.by ?_ (fun _ k => XS.aloadN X20.here hx rfl (hb hby d5_17) rfl rfl k)
        show Ends p e below s _ _ _ (T20.setTop (mkF m 18 #[.val (.ref x0), .val (.int (1 : Int32))] [(.ref x0)]))
        obtain ⟨T23, X23, e23, st23⟩ := getF X20 hx hZ hown (host := "") (Or.inl (hw _ (List.mem_of_getElem? (i := 15) rfl))) Via.refl e20 F1 (g := (mkF m 18 #[.val (.ref x0), .val (.int (1 : Int32))] [(.ref x0)])) rfl rfl (hb hby d5_18)
        refine Ends.by ?_ st23
        show Ends p e below s _ _ _ (T23.setTop (mkF m 21 #[.val (.ref x0), .val (.int (1 : Int32))] [(.ref ya)]))
        refine Ends.by ?_ (fun _ k => XS.aloadN X23.here hx rfl (hb hby d5_21) rfl rfl k)
        show Ends p e below s _ _ _ (T23.setTop (mkF m 22 #[.val (.ref x0), .val (.int (1 : Int32))] [(.ref x0), (.ref ya)]))
        obtain ⟨T24, X24, e24, st24⟩ := getF X23 hx hZ hown (host := "") (Or.inl (hw _ (List.mem_of_getElem? (i := 22) rfl))) Via.refl e23 F2 (g := (mkF m 22 #[.val (.ref x0), .val (.int (1 : Int32))] [(.ref x0), (.ref ya)])) rfl rfl (hb hby d5_22)
        refine Ends.by ?_ st24
        show Ends p e below s _ _ _ (T24.setTop (mkF m 25 #[.val (.ref x0), .val (.int (1 : Int32))] [(.int y1), (.ref ya)]))
        refine Ends.by ?_ (fun _ k => XS.iloadN X24.here hx rfl (hb hby d5_25) rfl k)
        show Ends p e below s _ _ _ (T24.setTop (mkF m 26 #[.val (.ref x0), .val (.int (1 : Int32))] [(.int (1 : Int32)), (.int y1), (.ref ya)]))
        refine Ends.by ?_ (fun _ k => XS.iadd X24.here hx rfl (hb hby d5_26) rfl k)
        show Ends p e below s _ _ _ (T24.setTop (mkF m 27 #[.val (.ref x0), .val (.int (1 : Int32))] [(.int (y1 + (1 : Int32))), (.ref ya)]))
        refine Ends.bald ?_ X24 hx hZ e24 V0 (own_idx (1 : Int32) 1 (by decide) (by decide) hs hsum hc21) (hb hby d5_27)
        show Ends p e below s _ _ _ (T24.setTop (mkF m 28 #[.val (.ref x0), .val (.int (1 : Int32))] [(.int (g ((y1 + (1 : Int32))).toNatClampNeg))]))
        by_cases hc25 : (g ((y1 + (1 : Int32))).toNatClampNeg) = (0 : Int32)
        · have hv26 := hv22.trans (if_pos hc25)
          refine Ends.by ?_ (fun _ k => XS.ifYes X24.here hx rfl (pc0 := 28) (pc' := 37) rfl (hb hby d5_28) rfl (XT.i0_eq_t hc25) (by decide) (by decide) k)
          show Ends p e below s _ _ _ (T24.setTop (mkF m 37 #[.val (.ref x0), .val (.int (1 : Int32))] []))
          refine Ends.by ?_ (fun _ k => XS.aloadN X24.here hx rfl (hb hby d5_37) rfl rfl k)
          show Ends p e below s _ _ _ (T24.setTop (mkF m 38 #[.val (.ref x0), .val (.int (1 : Int32))] [(.ref x0)]))
          refine Ends.by ?_ (fun _ k => XS.iloadN X24.here hx rfl (hb hby d5_38) rfl k)
          show Ends p e below s _ _ _ (T24.setTop (mkF m 39 #[.val (.ref x0), .val (.int (1 : Int32))] [(.int (1 : Int32)), (.ref x0)]))
          obtain ⟨T27, h27, X27, e27, W27, st27⟩ := putF X24 hx hZ hown (host := "") (Or.inl (hw _ (List.mem_of_getElem? (i := 26) rfl))) Via.refl e24 F4 E0 (Or.inl (hw _ (List.mem_of_getElem? (i := 27) rfl))) (hw _ (List.mem_of_getElem? (i := 7) rfl)) (ty := .int) (by decide) rfl rfl (g := (mkF m 39 #[.val (.ref x0), .val (.int (1 : Int32))] [(.int (1 : Int32)), (.ref x0)])) rfl rfl (hb hby d5_39)
          have Fw27 := Fld.same W27 F4
          have f28 := Exa.wr W27 E0
          have f29 := V0.other W27 hne
          have f30 := Fld.other W27 F1 (Or.inr (slot_ne (Or.inl (hw _ (List.mem_of_getElem? (i := 16) rfl))) (Or.inl (hw _ (List.mem_of_getElem? (i := 27) rfl))) (by decide) (t := (.array .byte)) (t' := .int) (by decide) (by decide)))
          have f31 := Fld.other W27 F2 (Or.inr (slot_ne (Or.inl (hw _ (List.mem_of_getElem? (i := 23) rfl))) (Or.inl (hw _ (List.mem_of_getElem? (i := 27) rfl))) (by decide) (t := .int) (t' := .int) (by decide) (by decide)))
          have f32 := Fld.other W27 F3 (Or.inr (slot_ne (Or.inl (hw _ (List.mem_of_getElem? (i := 25) rfl))) (Or.inl (hw _ (List.mem_of_getElem? (i := 27) rfl))) (by decide) (t := .int) (t' := .int) (by decide) (by decide)))
          have K34 := (Keep.refl h0 [x0]).wr W27 (Or.inl (by simp))
          have N27 := Fr.snoc X27 N0 g0
          have Zs35 : n0 ≤ h27.size := Nat.le_trans Z0 (Keep.of_wr W27).1
          refine Ends.by ?_ st27
          show Ends p e below s _ _ _ (T27.setTop (mkF m 42 #[.val (.ref x0), .val (.int (1 : Int32))] []))
          refine Ends.by ?_ (fun _ k => XS.aloadN X27.here hx rfl (hb hby d5_42) rfl rfl k)
          show Ends p e below s _ _ _ (T27.setTop (mkF m 43 #[.val (.ref x0), .val (.int (1 : Int32))] [(.ref x0)]))
          obtain ⟨T36, X36, e36, st36⟩ := getF X27 hx hZ hown (host := "") (Or.inl (hw _ (List.mem_of_getElem? (i := 26) rfl))) Via.refl e27 Fw27 (g := (mkF m 43 #[.val (.ref x0), .val (.int (1 : Int32))] [(.ref x0)])) rfl rfl (hb hby d5_43)
          refine Ends.by ?_ st36
          show Ends p e below s _ _ _ (T36.setTop (mkF m 46 #[.val (.ref x0), .val (.int (1 : Int32))] [(.int (1 : Int32))]))
          exact Ends.retI X36 hx Bd.notSynchronized Bd.returns (hb hby d5_46) (by rw [e36, hv26]; exact ⟨rfl, N27, K34, f28, f30, f31, f32, Fw27⟩) (by decide) (by decide)
        · have hv37 := hv22.trans (if_neg hc25)
          refine Ends.by ?_ (fun _ k => XS.ifNo X24.here hx rfl (hb hby d5_28) rfl (XT.i0_eq_f hc25) k)
          show Ends p e below s _ _ _ (T24.setTop (mkF m 31 #[.val (.ref x0), .val (.int (1 : Int32))] []))
          refine Ends.by ?_ (fun _ k => XS.iinc X24.here hx rfl (hb hby d5_31) rfl (l' := #[.val (.ref x0), .val (.int (2 : Int32))]) rfl k)
          show Ends p e below s _ _ _ (T24.setTop (mkF m 34 #[.val (.ref x0), .val (.int (2 : Int32))] []))
          refine Ends.by ?_ (fun _ k => XS.goto X24.here hx rfl (pc0 := 34) (pc' := 9) rfl (hb hby d5_34) (by decide) (by decide) k)
          show Ends p e below s _ _ _ (T24.setTop (mkF m 9 #[.val (.ref x0), .val (.int (2 : Int32))] []))
          refine Ends.by ?_ (fun _ k => XS.iloadN X24.here hx rfl (hb hby d5_9) rfl k)
          show Ends p e below s _ _ _ (T24.setTop (mkF m 10 #[.val (.ref x0), .val (.int (2 : Int32))] [(.int (2 : Int32))]))
          refine Ends.by ?_ (fun _ k => XS.aloadN X24.here hx rfl (hb hby d5_10) rfl rfl k)
          show Ends p e below s _ _ _ (T24.setTop (mkF m 11 #[.val (.ref x0), .val (.int (2 : Int32))] [(.ref x0), (.int (2 : Int32))]))
          obtain ⟨T38, X38, e38, st38⟩ := getF X24 hx hZ hown (host := "") (Or.inl (hw _ (List.mem_of_getElem? (i := 24) rfl))) Via.refl e24 F3 (g := (mkF m 11 #[.val (.ref x0), .val (.int (2 : Int32))] [(.ref x0), (.int (2 : Int32))])) rfl rfl (hb hby d5_11)
          refine Ends.by ?_ st38
          show Ends p e below s _ _ _ (T38.setTop (mkF m 14 #[.val (.ref x0), .val (.int (2 : Int32))] [(.int y2), (.int (2 : Int32))]))
          by_cases hc39 : (2 : Int32) < y2
          · have hv40 := hv37.trans (if_pos hc39)
            refine Ends.by ?_ (fun _ k => XS.icmpNo X38.here hx rfl (hb hby d5_14) rfl (XT.ii_ge_f hc39) k)
            show Ends p e below s _ _ _ (T38.setTop (mkF m 17 #[.val (.ref x0), .val (.int (2 : Int32))] []))
            refine Ends.by ?_ (fun _ k => XS.aloadN X38.here hx rfl (hb hby d5_17) rfl rfl k)
            show Ends p e below s _ _ _ (T38.setTop (mkF m 18 #[.val (.ref x0), .val (.int (2 : Int32))] [(.ref x0)]))
            obtain ⟨T41, X41, e41, st41⟩ := getF X38 hx hZ hown (host := "") (Or.inl (hw _ (List.mem_of_getElem? (i := 15) rfl))) Via.refl e38 F1 (g := (mkF m 18 #[.val (.ref x0), .val (.int (2 : Int32))] [(.ref x0)])) rfl rfl (hb hby d5_18)
            refine Ends.by ?_ st41
            show Ends p e below s _ _ _ (T41.setTop (mkF m 21 #[.val (.ref x0), .val (.int (2 : Int32))] [(.ref ya)]))
            refine Ends.by ?_ (fun _ k => XS.aloadN X41.here hx rfl (hb hby d5_21) rfl rfl k)
            show Ends p e below s _ _ _ (T41.setTop (mkF m 22 #[.val (.ref x0), .val (.int (2 : Int32))] [(.ref x0), (.ref ya)]))
            obtain ⟨T42, X42, e42, st42⟩ := getF X41 hx hZ hown (host := "") (Or.inl (hw _ (List.mem_of_getElem? (i := 22) rfl))) Via.refl e41 F2 (g := (mkF m 22 #[.val (.ref x0), .val (.int (2 : Int32))] [(.ref x0), (.ref ya)])) rfl rfl (hb hby d5_22)
            refine Ends.by ?_ st42
            show Ends p e below s _ _ _ (T42.setTop (mkF m 25 #[.val (.ref x0), .val (.int (2 : Int32))] [(.int y1), (.ref ya)]))
            refine Ends.by ?_ (fun _ k => XS.iloadN X42.here hx rfl (hb hby d5_25) rfl k)
            show Ends p e below s _ _ _ (T42.setTop (mkF m 26 #[.val (.ref x0), .val (.int (2 : Int32))] [(.int (2 : Int32)), (.int y1), (.ref ya)]))
            refine Ends.by ?_ (fun _ k => XS.iadd X42.here hx rfl (hb hby d5_26) rfl k)
            show Ends p e below s _ _ _ (T42.setTop (mkF m 27 #[.val (.ref x0), .val (.int (2 : Int32))] [(.int (y1 + (2 : Int32))), (.ref ya)]))
            refine Ends.bald ?_ X42 hx hZ e42 V0 (own_idx (2 : Int32) 2 (by decide) (by decide) hs hsum hc39) (hb hby d5_27)
            show Ends p e below s _ _ _ (T42.setTop (mkF m 28 #[.val (.ref x0), .val (.int (2 : Int32))] [(.int (g ((y1 + (2 : Int32))).toNatClampNeg))]))
            by_cases hc43 : (g ((y1 + (2 : Int32))).toNatClampNeg) = (0 : Int32)
            · have hv44 := hv40.trans (if_pos hc43)
              refine Ends.by ?_ (fun _ k => XS.ifYes X42.here hx rfl (pc0 := 28) (pc' := 37) rfl (hb hby d5_28) rfl (XT.i0_eq_t hc43) (by decide) (by decide) k)
              show Ends p e below s _ _ _ (T42.setTop (mkF m 37 #[.val (.ref x0), .val (.int (2 : Int32))] []))
              refine Ends.by ?_ (fun _ k => XS.aloadN X42.here hx rfl (hb hby d5_37) rfl rfl k)
              show Ends p e below s _ _ _ (T42.setTop (mkF m 38 #[.val (.ref x0), .val (.int (2 : Int32))] [(.ref x0)]))
              refine Ends.by ?_ (fun _ k => XS.iloadN X42.here hx rfl (hb hby d5_38) rfl k)
              show Ends p e below s _ _ _ (T42.setTop (mkF m 39 #[.val (.ref x0), .val (.int (2 : Int32))] [(.int (2 : Int32)), (.ref x0)]))
              obtain ⟨T45, h45, X45, e45, W45, st45⟩ := putF X42 hx hZ hown (host := "") (Or.inl (hw _ (List.mem_of_getElem? (i := 26) rfl))) Via.refl e42 F4 E0 (Or.inl (hw _ (List.mem_of_getElem? (i := 27) rfl))) (hw _ (List.mem_of_getElem? (i := 7) rfl)) (ty := .int) (by decide) rfl rfl (g := (mkF m 39 #[.val (.ref x0), .val (.int (2 : Int32))] [(.int (2 : Int32)), (.ref x0)])) rfl rfl (hb hby d5_39)
              have Fw45 := Fld.same W45 F4
              have f46 := Exa.wr W45 E0
              have f47 := V0.other W45 hne
              have f48 := Fld.other W45 F1 (Or.inr (slot_ne (Or.inl (hw _ (List.mem_of_getElem? (i := 16) rfl))) (Or.inl (hw _ (List.mem_of_getElem? (i := 27) rfl))) (by decide) (t := (.array .byte)) (t' := .int) (by decide) (by decide)))
              have f49 := Fld.other W45 F2 (Or.inr (slot_ne (Or.inl (hw _ (List.mem_of_getElem? (i := 23) rfl))) (Or.inl (hw _ (List.mem_of_getElem? (i := 27) rfl))) (by decide) (t := .int) (t' := .int) (by decide) (by decide)))
              have f50 := Fld.other W45 F3 (Or.inr (slot_ne (Or.inl (hw _ (List.mem_of_getElem? (i := 25) rfl))) (Or.inl (hw _ (List.mem_of_getElem? (i := 27) rfl))) (by decide) (t := .int) (t' := .int) (by decide) (by decide)))
              have K52 := (Keep.refl h0 [x0]).wr W45 (Or.inl (by simp))
              have N45 := Fr.snoc X45 N0 g0
              have Zs53 : n0 ≤ h45.size := Nat.le_trans Z0 (Keep.of_wr W45).1
              refine Ends.by ?_ st45
              show Ends p e below s _ _ _ (T45.setTop (mkF m 42 #[.val (.ref x0), .val (.int (2 : Int32))] []))
              refine Ends.by ?_ (fun _ k => XS.aloadN X45.here hx rfl (hb hby d5_42) rfl rfl k)
              show Ends p e below s _ _ _ (T45.setTop (mkF m 43 #[.val (.ref x0), .val (.int (2 : Int32))] [(.ref x0)]))
              obtain ⟨T54, X54, e54, st54⟩ := getF X45 hx hZ hown (host := "") (Or.inl (hw _ (List.mem_of_getElem? (i := 26) rfl))) Via.refl e45 Fw45 (g := (mkF m 43 #[.val (.ref x0), .val (.int (2 : Int32))] [(.ref x0)])) rfl rfl (hb hby d5_43)
              refine Ends.by ?_ st54
              show Ends p e below s _ _ _ (T54.setTop (mkF m 46 #[.val (.ref x0), .val (.int (2 : Int32))] [(.int (2 : Int32))]))
              exact Ends.retI X54 hx Bd.notSynchronized Bd.returns (hb hby d5_46) (by rw [e54, hv44]; exact ⟨rfl, N45, K52, f46, f48, f49, f50, Fw45⟩) (by decide) (by decide)
            · have hv55 := hv40.trans (if_neg hc43)
              refine Ends.by ?_ (fun _ k => XS.ifNo X42.here hx rfl (hb hby d5_28) rfl (XT.i0_eq_f hc43) k)
              show Ends p e below s _ _ _ (T42.setTop (mkF m 31 #[.val (.ref x0), .val (.int (2 : Int32))] []))
              refine Ends.by ?_ (fun _ k => XS.iinc X42.here hx rfl (hb hby d5_31) rfl (l' := #[.val (.ref x0), .val (.int (3 : Int32))]) rfl k)
              show Ends p e below s _ _ _ (T42.setTop (mkF m 34 #[.val (.ref x0), .val (.int (3 : Int32))] []))
              refine Ends.by ?_ (fun _ k => XS.goto X42.here hx rfl (pc0 := 34) (pc' := 9) rfl (hb hby d5_34) (by decide) (by decide) k)
              show Ends p e below s _ _ _ (T42.setTop (mkF m 9 #[.val (.ref x0), .val (.int (3 : Int32))] []))
              refine Ends.by ?_ (fun _ k => XS.iloadN X42.here hx rfl (hb hby d5_9) rfl k)
              show Ends p e below s _ _ _ (T42.setTop (mkF m 10 #[.val (.ref x0), .val (.int (3 : Int32))] [(.int (3 : Int32))]))
              refine Ends.by ?_ (fun _ k => XS.aloadN X42.here hx rfl (hb hby d5_10) rfl rfl k)
              show Ends p e below s _ _ _ (T42.setTop (mkF m 11 #[.val (.ref x0), .val (.int (3 : Int32))] [(.ref x0), (.int (3 : Int32))]))
              obtain ⟨T56, X56, e56, st56⟩ := getF X42 hx hZ hown (host := "") (Or.inl (hw _ (List.mem_of_getElem? (i := 24) rfl))) Via.refl e42 F3 (g := (mkF m 11 #[.val (.ref x0), .val (.int (3 : Int32))] [(.ref x0), (.int (3 : Int32))])) rfl rfl (hb hby d5_11)
              refine Ends.by ?_ st56
              show Ends p e below s _ _ _ (T56.setTop (mkF m 14 #[.val (.ref x0), .val (.int (3 : Int32))] [(.int y2), (.int (3 : Int32))]))
              by_cases hc57 : (3 : Int32) < y2
              · have hv58 := hv55.trans (if_pos hc57)
                refine Ends.by ?_ (fun _ k => XS.icmpNo X56.here hx rfl (hb hby d5_14) rfl (XT.ii_ge_f hc57) k)
                show Ends p e below s _ _ _ (T56.setTop (mkF m 17 #[.val (.ref x0), .val (.int (3 : Int32))] []))
                refine Ends.by ?_ (fun _ k => XS.aloadN X56.here hx rfl (hb hby d5_17) rfl rfl k)
                show Ends p e below s _ _ _ (T56.setTop (mkF m 18 #[.val (.ref x0), .val (.int (3 : Int32))] [(.ref x0)]))
                obtain ⟨T59, X59, e59, st59⟩ := getF X56 hx hZ hown (host := "") (Or.inl (hw _ (List.mem_of_getElem? (i := 15) rfl))) Via.refl e56 F1 (g := (mkF m 18 #[.val (.ref x0), .val (.int (3 : Int32))] [(.ref x0)])) rfl rfl (hb hby d5_18)
                refine Ends.by ?_ st59
                show Ends p e below s _ _ _ (T59.setTop (mkF m 21 #[.val (.ref x0), .val (.int (3 : Int32))] [(.ref ya)]))
                refine Ends.by ?_ (fun _ k => XS.aloadN X59.here hx rfl (hb hby d5_21) rfl rfl k)
                show Ends p e below s _ _ _ (T59.setTop (mkF m 22 #[.val (.ref x0), .val (.int (3 : Int32))] [(.ref x0), (.ref ya)]))
                obtain ⟨T60, X60, e60, st60⟩ := getF X59 hx hZ hown (host := "") (Or.inl (hw _ (List.mem_of_getElem? (i := 22) rfl))) Via.refl e59 F2 (g := (mkF m 22 #[.val (.ref x0), .val (.int (3 : Int32))] [(.ref x0), (.ref ya)])) rfl rfl (hb hby d5_22)
                refine Ends.by ?_ st60
                show Ends p e below s _ _ _ (T60.setTop (mkF m 25 #[.val (.ref x0), .val (.int (3 : Int32))] [(.int y1), (.ref ya)]))
                refine Ends.by ?_ (fun _ k => XS.iloadN X60.here hx rfl (hb hby d5_25) rfl k)
                show Ends p e below s _ _ _ (T60.setTop (mkF m 26 #[.val (.ref x0), .val (.int (3 : Int32))] [(.int (3 : Int32)), (.int y1), (.ref ya)]))
                refine Ends.by ?_ (fun _ k => XS.iadd X60.here hx rfl (hb hby d5_26) rfl k)
                show Ends p e below s _ _ _ (T60.setTop (mkF m 27 #[.val (.ref x0), .val (.int (3 : Int32))] [(.int (y1 + (3 : Int32))), (.ref ya)]))
                refine Ends.bald ?_ X60 hx hZ e60 V0 (own_idx (3 : Int32) 3 (by decide) (by decide) hs hsum hc57) (hb hby d5_27)
                show Ends p e below s _ _ _ (T60.setTop (mkF m 28 #[.val (.ref x0), .val (.int (3 : Int32))] [(.int (g ((y1 + (3 : Int32))).toNatClampNeg))]))
                by_cases hc61 : (g ((y1 + (3 : Int32))).toNatClampNeg) = (0 : Int32)
                · have hv62 := hv58.trans (if_pos hc61)
                  refine Ends.by ?_ (fun _ k => XS.ifYes X60.here hx rfl (pc0 := 28) (pc' := 37) rfl (hb hby d5_28) rfl (XT.i0_eq_t hc61) (by decide) (by decide) k)
                  show Ends p e below s _ _ _ (T60.setTop (mkF m 37 #[.val (.ref x0), .val (.int (3 : Int32))] []))
                  refine Ends.by ?_ (fun _ k => XS.aloadN X60.here hx rfl (hb hby d5_37) rfl rfl k)
                  show Ends p e below s _ _ _ (T60.setTop (mkF m 38 #[.val (.ref x0), .val (.int (3 : Int32))] [(.ref x0)]))
                  refine Ends.by ?_ (fun _ k => XS.iloadN X60.here hx rfl (hb hby d5_38) rfl k)
                  show Ends p e below s _ _ _ (T60.setTop (mkF m 39 #[.val (.ref x0), .val (.int (3 : Int32))] [(.int (3 : Int32)), (.ref x0)]))
                  obtain ⟨T63, h63, X63, e63, W63, st63⟩ := putF X60 hx hZ hown (host := "") (Or.inl (hw _ (List.mem_of_getElem? (i := 26) rfl))) Via.refl e60 F4 E0 (Or.inl (hw _ (List.mem_of_getElem? (i := 27) rfl))) (hw _ (List.mem_of_getElem? (i := 7) rfl)) (ty := .int) (by decide) rfl rfl (g := (mkF m 39 #[.val (.ref x0), .val (.int (3 : Int32))] [(.int (3 : Int32)), (.ref x0)])) rfl rfl (hb hby d5_39)
                  have Fw63 := Fld.same W63 F4
                  have f64 := Exa.wr W63 E0
                  have f65 := V0.other W63 hne
                  have f66 := Fld.other W63 F1 (Or.inr (slot_ne (Or.inl (hw _ (List.mem_of_getElem? (i := 16) rfl))) (Or.inl (hw _ (List.mem_of_getElem? (i := 27) rfl))) (by decide) (t := (.array .byte)) (t' := .int) (by decide) (by decide)))
                  have f67 := Fld.other W63 F2 (Or.inr (slot_ne (Or.inl (hw _ (List.mem_of_getElem? (i := 23) rfl))) (Or.inl (hw _ (List.mem_of_getElem? (i := 27) rfl))) (by decide) (t := .int) (t' := .int) (by decide) (by decide)))
                  have f68 := Fld.other W63 F3 (Or.inr (slot_ne (Or.inl (hw _ (List.mem_of_getElem? (i := 25) rfl))) (Or.inl (hw _ (List.mem_of_getElem? (i := 27) rfl))) (by decide) (t := .int) (t' := .int) (by decide) (by decide)))
                  have K70 := (Keep.refl h0 [x0]).wr W63 (Or.inl (by simp))
                  have N63 := Fr.snoc X63 N0 g0
                  have Zs71 : n0 ≤ h63.size := Nat.le_trans Z0 (Keep.of_wr W63).1
                  refine Ends.by ?_ st63
                  show Ends p e below s _ _ _ (T63.setTop (mkF m 42 #[.val (.ref x0), .val (.int (3 : Int32))] []))
                  refine Ends.by ?_ (fun _ k => XS.aloadN X63.here hx rfl (hb hby d5_42) rfl rfl k)
                  show Ends p e below s _ _ _ (T63.setTop (mkF m 43 #[.val (.ref x0), .val (.int (3 : Int32))] [(.ref x0)]))
                  obtain ⟨T72, X72, e72, st72⟩ := getF X63 hx hZ hown (host := "") (Or.inl (hw _ (List.mem_of_getElem? (i := 26) rfl))) Via.refl e63 Fw63 (g := (mkF m 43 #[.val (.ref x0), .val (.int (3 : Int32))] [(.ref x0)])) rfl rfl (hb hby d5_43)
                  refine Ends.by ?_ st72
                  show Ends p e below s _ _ _ (T72.setTop (mkF m 46 #[.val (.ref x0), .val (.int (3 : Int32))] [(.int (3 : Int32))]))
                  exact Ends.retI X72 hx Bd.notSynchronized Bd.returns (hb hby d5_46) (by rw [e72, hv62]; exact ⟨rfl, N63, K70, f64, f66, f67, f68, Fw63⟩) (by decide) (by decide)
                · have hv73 := hv58.trans (if_neg hc61)
                  refine Ends.by ?_ (fun _ k => XS.ifNo X60.here hx rfl (hb hby d5_28) rfl (XT.i0_eq_f hc61) k)
                  show Ends p e below s _ _ _ (T60.setTop (mkF m 31 #[.val (.ref x0), .val (.int (3 : Int32))] []))
                  refine Ends.by ?_ (fun _ k => XS.iinc X60.here hx rfl (hb hby d5_31) rfl (l' := #[.val (.ref x0), .val (.int (4 : Int32))]) rfl k)
                  show Ends p e below s _ _ _ (T60.setTop (mkF m 34 #[.val (.ref x0), .val (.int (4 : Int32))] []))
                  refine Ends.by ?_ (fun _ k => XS.goto X60.here hx rfl (pc0 := 34) (pc' := 9) rfl (hb hby d5_34) (by decide) (by decide) k)
                  show Ends p e below s _ _ _ (T60.setTop (mkF m 9 #[.val (.ref x0), .val (.int (4 : Int32))] []))
                  refine Ends.by ?_ (fun _ k => XS.iloadN X60.here hx rfl (hb hby d5_9) rfl k)
                  show Ends p e below s _ _ _ (T60.setTop (mkF m 10 #[.val (.ref x0), .val (.int (4 : Int32))] [(.int (4 : Int32))]))
                  refine Ends.by ?_ (fun _ k => XS.aloadN X60.here hx rfl (hb hby d5_10) rfl rfl k)
                  show Ends p e below s _ _ _ (T60.setTop (mkF m 11 #[.val (.ref x0), .val (.int (4 : Int32))] [(.ref x0), (.int (4 : Int32))]))
                  obtain ⟨T74, X74, e74, st74⟩ := getF X60 hx hZ hown (host := "") (Or.inl (hw _ (List.mem_of_getElem? (i := 24) rfl))) Via.refl e60 F3 (g := (mkF m 11 #[.val (.ref x0), .val (.int (4 : Int32))] [(.ref x0), (.int (4 : Int32))])) rfl rfl (hb hby d5_11)
                  refine Ends.by ?_ st74
                  show Ends p e below s _ _ _ (T74.setTop (mkF m 14 #[.val (.ref x0), .val (.int (4 : Int32))] [(.int y2), (.int (4 : Int32))]))
                  by_cases hc75 : (4 : Int32) < y2
                  · have hv76 := hv73.trans (if_pos hc75)
                    refine Ends.by ?_ (fun _ k => XS.icmpNo X74.here hx rfl (hb hby d5_14) rfl (XT.ii_ge_f hc75) k)
                    show Ends p e below s _ _ _ (T74.setTop (mkF m 17 #[.val (.ref x0), .val (.int (4 : Int32))] []))
                    refine Ends.by ?_ (fun _ k => XS.aloadN X74.here hx rfl (hb hby d5_17) rfl rfl k)
                    show Ends p e below s _ _ _ (T74.setTop (mkF m 18 #[.val (.ref x0), .val (.int (4 : Int32))] [(.ref x0)]))
                    obtain ⟨T77, X77, e77, st77⟩ := getF X74 hx hZ hown (host := "") (Or.inl (hw _ (List.mem_of_getElem? (i := 15) rfl))) Via.refl e74 F1 (g := (mkF m 18 #[.val (.ref x0), .val (.int (4 : Int32))] [(.ref x0)])) rfl rfl (hb hby d5_18)
                    refine Ends.by ?_ st77
                    show Ends p e below s _ _ _ (T77.setTop (mkF m 21 #[.val (.ref x0), .val (.int (4 : Int32))] [(.ref ya)]))
                    refine Ends.by ?_ (fun _ k => XS.aloadN X77.here hx rfl (hb hby d5_21) rfl rfl k)
                    show Ends p e below s _ _ _ (T77.setTop (mkF m 22 #[.val (.ref x0), .val (.int (4 : Int32))] [(.ref x0), (.ref ya)]))
                    obtain ⟨T78, X78, e78, st78⟩ := getF X77 hx hZ hown (host := "") (Or.inl (hw _ (List.mem_of_getElem? (i := 22) rfl))) Via.refl e77 F2 (g := (mkF m 22 #[.val (.ref x0), .val (.int (4 : Int32))] [(.ref x0), (.ref ya)])) rfl rfl (hb hby d5_22)
                    refine Ends.by ?_ st78
                    show Ends p e below s _ _ _ (T78.setTop (mkF m 25 #[.val (.ref x0), .val (.int (4 : Int32))] [(.int y1), (.ref ya)]))
                    refine Ends.by ?_ (fun _ k => XS.iloadN X78.here hx rfl (hb hby d5_25) rfl k)
                    show Ends p e below s _ _ _ (T78.setTop (mkF m 26 #[.val (.ref x0), .val (.int (4 : Int32))] [(.int (4 : Int32)), (.int y1), (.ref ya)]))
                    refine Ends.by ?_ (fun _ k => XS.iadd X78.here hx rfl (hb hby d5_26) rfl k)
                    show Ends p e below s _ _ _ (T78.setTop (mkF m 27 #[.val (.ref x0), .val (.int (4 : Int32))] [(.int (y1 + (4 : Int32))), (.ref ya)]))
                    refine Ends.bald ?_ X78 hx hZ e78 V0 (own_idx (4 : Int32) 4 (by decide) (by decide) hs hsum hc75) (hb hby d5_27)
                    show Ends p e below s _ _ _ (T78.setTop (mkF m 28 #[.val (.ref x0), .val (.int (4 : Int32))] [(.int (g ((y1 + (4 : Int32))).toNatClampNeg))]))
                    by_cases hc79 : (g ((y1 + (4 : Int32))).toNatClampNeg) = (0 : Int32)
                    · have hv80 := hv76.trans (if_pos hc79)
                      refine Ends.by ?_ (fun _ k => XS.ifYes X78.here hx rfl (pc0 := 28) (pc' := 37) rfl (hb hby d5_28) rfl (XT.i0_eq_t hc79) (by decide) (by decide) k)
                      show Ends p e below s _ _ _ (T78.setTop (mkF m 37 #[.val (.ref x0), .val (.int (4 : Int32))] []))
                      refine Ends.by ?_ (fun _ k => XS.aloadN X78.here hx rfl (hb hby d5_37) rfl rfl k)
                      show Ends p e below s _ _ _ (T78.setTop (mkF m 38 #[.val (.ref x0), .val (.int (4 : Int32))] [(.ref x0)]))
                      refine Ends.by ?_ (fun _ k => XS.iloadN X78.here hx rfl (hb hby d5_38) rfl k)
                      show Ends p e below s _ _ _ (T78.setTop (mkF m 39 #[.val (.ref x0), .val (.int (4 : Int32))] [(.int (4 : Int32)), (.ref x0)]))
                      obtain ⟨T81, h81, X81, e81, W81, st81⟩ := putF X78 hx hZ hown (host := "") (Or.inl (hw _ (List.mem_of_getElem? (i := 26) rfl))) Via.refl e78 F4 E0 (Or.inl (hw _ (List.mem_of_getElem? (i := 27) rfl))) (hw _ (List.mem_of_getElem? (i := 7) rfl)) (ty := .int) (by decide) rfl rfl (g := (mkF m 39 #[.val (.ref x0), .val (.int (4 : Int32))] [(.int (4 : Int32)), (.ref x0)])) rfl rfl (hb hby d5_39)
                      have Fw81 := Fld.same W81 F4
                      have f82 := Exa.wr W81 E0
                      have f83 := V0.other W81 hne
                      have f84 := Fld.other W81 F1 (Or.inr (slot_ne (Or.inl (hw _ (List.mem_of_getElem? (i := 16) rfl))) (Or.inl (hw _ (List.mem_of_getElem? (i := 27) rfl))) (by decide) (t := (.array .byte)) (t' := .int) (by decide) (by decide)))
                      have f85 := Fld.other W81 F2 (Or.inr (slot_ne (Or.inl (hw _ (List.mem_of_getElem? (i := 23) rfl))) (Or.inl (hw _ (List.mem_of_getElem? (i := 27) rfl))) (by decide) (t := .int) (t' := .int) (by decide) (by decide)))
                      have f86 := Fld.other W81 F3 (Or.inr (slot_ne (Or.inl (hw _ (List.mem_of_getElem? (i := 25) rfl))) (Or.inl (hw _ (List.mem_of_getElem? (i := 27) rfl))) (by decide) (t := .int) (t' := .int) (by decide) (by decide)))
                      have K88 := (Keep.refl h0 [x0]).wr W81 (Or.inl (by simp))
                      have N81 := Fr.snoc X81 N0 g0
                      have Zs89 : n0 ≤ h81.size := Nat.le_trans Z0 (Keep.of_wr W81).1
                      refine Ends.by ?_ st81
                      show Ends p e below s _ _ _ (T81.setTop (mkF m 42 #[.val (.ref x0), .val (.int (4 : Int32))] []))
                      refine Ends.by ?_ (fun _ k => XS.aloadN X81.here hx rfl (hb hby d5_42) rfl rfl k)
                      show Ends p e below s _ _ _ (T81.setTop (mkF m 43 #[.val (.ref x0), .val (.int (4 : Int32))] [(.ref x0)]))
                      obtain ⟨T90, X90, e90, st90⟩ := getF X81 hx hZ hown (host := "") (Or.inl (hw _ (List.mem_of_getElem? (i := 26) rfl))) Via.refl e81 Fw81 (g := (mkF m 43 #[.val (.ref x0), .val (.int (4 : Int32))] [(.ref x0)])) rfl rfl (hb hby d5_43)
                      refine Ends.by ?_ st90
                      show Ends p e below s _ _ _ (T90.setTop (mkF m 46 #[.val (.ref x0), .val (.int (4 : Int32))] [(.int (4 : Int32))]))
                      exact Ends.retI X90 hx Bd.notSynchronized Bd.returns (hb hby d5_46) (by rw [e90, hv80]; exact ⟨rfl, N81, K88, f82, f84, f85, f86, Fw81⟩) (by decide) (by decide)
                    · have hv91 := hv76.trans (if_neg hc79)
                      refine Ends.by ?_ (fun _ k => XS.ifNo X78.here hx rfl (hb hby d5_28) rfl (XT.i0_eq_f hc79) k)
                      show Ends p e below s _ _ _ (T78.setTop (mkF m 31 #[.val (.ref x0), .val (.int (4 : Int32))] []))
                      refine Ends.by ?_ (fun _ k => XS.iinc X78.here hx rfl (hb hby d5_31) rfl (l' := #[.val (.ref x0), .val (.int (5 : Int32))]) rfl k)
                      show Ends p e below s _ _ _ (T78.setTop (mkF m 34 #[.val (.ref x0), .val (.int (5 : Int32))] []))
                      refine Ends.by ?_ (fun _ k => XS.goto X78.here hx rfl (pc0 := 34) (pc' := 9) rfl (hb hby d5_34) (by decide) (by decide) k)
                      show Ends p e below s _ _ _ (T78.setTop (mkF m 9 #[.val (.ref x0), .val (.int (5 : Int32))] []))
                      refine Ends.by ?_ (fun _ k => XS.iloadN X78.here hx rfl (hb hby d5_9) rfl k)
                      show Ends p e below s _ _ _ (T78.setTop (mkF m 10 #[.val (.ref x0), .val (.int (5 : Int32))] [(.int (5 : Int32))]))
                      refine Ends.by ?_ (fun _ k => XS.aloadN X78.here hx rfl (hb hby d5_10) rfl rfl k)
                      show Ends p e below s _ _ _ (T78.setTop (mkF m 11 #[.val (.ref x0), .val (.int (5 : Int32))] [(.ref x0), (.int (5 : Int32))]))
                      obtain ⟨T92, X92, e92, st92⟩ := getF X78 hx hZ hown (host := "") (Or.inl (hw _ (List.mem_of_getElem? (i := 24) rfl))) Via.refl e78 F3 (g := (mkF m 11 #[.val (.ref x0), .val (.int (5 : Int32))] [(.ref x0), (.int (5 : Int32))])) rfl rfl (hb hby d5_11)
                      refine Ends.by ?_ st92
                      show Ends p e below s _ _ _ (T92.setTop (mkF m 14 #[.val (.ref x0), .val (.int (5 : Int32))] [(.int y2), (.int (5 : Int32))]))
                      by_cases hc93 : (5 : Int32) < y2
                      · have hv94 := hv91.trans (if_pos hc93)
                        refine Ends.by ?_ (fun _ k => XS.icmpNo X92.here hx rfl (hb hby d5_14) rfl (XT.ii_ge_f hc93) k)
                        show Ends p e below s _ _ _ (T92.setTop (mkF m 17 #[.val (.ref x0), .val (.int (5 : Int32))] []))
                        refine Ends.by ?_ (fun _ k => XS.aloadN X92.here hx rfl (hb hby d5_17) rfl rfl k)
                        show Ends p e below s _ _ _ (T92.setTop (mkF m 18 #[.val (.ref x0), .val (.int (5 : Int32))] [(.ref x0)]))
                        obtain ⟨T95, X95, e95, st95⟩ := getF X92 hx hZ hown (host := "") (Or.inl (hw _ (List.mem_of_getElem? (i := 15) rfl))) Via.refl e92 F1 (g := (mkF m 18 #[.val (.ref x0), .val (.int (5 : Int32))] [(.ref x0)])) rfl rfl (hb hby d5_18)
                        refine Ends.by ?_ st95
                        show Ends p e below s _ _ _ (T95.setTop (mkF m 21 #[.val (.ref x0), .val (.int (5 : Int32))] [(.ref ya)]))
                        refine Ends.by ?_ (fun _ k => XS.aloadN X95.here hx rfl (hb hby d5_21) rfl rfl k)
                        show Ends p e below s _ _ _ (T95.setTop (mkF m 22 #[.val (.ref x0), .val (.int (5 : Int32))] [(.ref x0), (.ref ya)]))
                        obtain ⟨T96, X96, e96, st96⟩ := getF X95 hx hZ hown (host := "") (Or.inl (hw _ (List.mem_of_getElem? (i := 22) rfl))) Via.refl e95 F2 (g := (mkF m 22 #[.val (.ref x0), .val (.int (5 : Int32))] [(.ref x0), (.ref ya)])) rfl rfl (hb hby d5_22)
                        refine Ends.by ?_ st96
                        show Ends p e below s _ _ _ (T96.setTop (mkF m 25 #[.val (.ref x0), .val (.int (5 : Int32))] [(.int y1), (.ref ya)]))
                        refine Ends.by ?_ (fun _ k => XS.iloadN X96.here hx rfl (hb hby d5_25) rfl k)
                        show Ends p e below s _ _ _ (T96.setTop (mkF m 26 #[.val (.ref x0), .val (.int (5 : Int32))] [(.int (5 : Int32)), (.int y1), (.ref ya)]))
                        refine Ends.by ?_ (fun _ k => XS.iadd X96.here hx rfl (hb hby d5_26) rfl k)
                        show Ends p e below s _ _ _ (T96.setTop (mkF m 27 #[.val (.ref x0), .val (.int (5 : Int32))] [(.int (y1 + (5 : Int32))), (.ref ya)]))
                        refine Ends.bald ?_ X96 hx hZ e96 V0 (own_idx (5 : Int32) 5 (by decide) (by decide) hs hsum hc93) (hb hby d5_27)
                        show Ends p e below s _ _ _ (T96.setTop (mkF m 28 #[.val (.ref x0), .val (.int (5 : Int32))] [(.int (g ((y1 + (5 : Int32))).toNatClampNeg))]))
                        by_cases hc97 : (g ((y1 + (5 : Int32))).toNatClampNeg) = (0 : Int32)
                        · have hv98 := hv94.trans (if_pos hc97)
                          refine Ends.by ?_ (fun _ k => XS.ifYes X96.here hx rfl (pc0 := 28) (pc' := 37) rfl (hb hby d5_28) rfl (XT.i0_eq_t hc97) (by decide) (by decide) k)
                          show Ends p e below s _ _ _ (T96.setTop (mkF m 37 #[.val (.ref x0), .val (.int (5 : Int32))] []))
                          refine Ends.by ?_ (fun _ k => XS.aloadN X96.here hx rfl (hb hby d5_37) rfl rfl k)
                          show Ends p e below s _ _ _ (T96.setTop (mkF m 38 #[.val (.ref x0), .val (.int (5 : Int32))] [(.ref x0)]))
                          refine Ends.by ?_ (fun _ k => XS.iloadN X96.here hx rfl (hb hby d5_38) rfl k)
                          show Ends p e below s _ _ _ (T96.setTop (mkF m 39 #[.val (.ref x0), .val (.int (5 : Int32))] [(.int (5 : Int32)), (.ref x0)]))
                          obtain ⟨T99, h99, X99, e99, W99, st99⟩ := putF X96 hx hZ hown (host := "") (Or.inl (hw _ (List.mem_of_getElem? (i := 26) rfl))) Via.refl e96 F4 E0 (Or.inl (hw _ (List.mem_of_getElem? (i := 27) rfl))) (hw _ (List.mem_of_getElem? (i := 7) rfl)) (ty := .int) (by decide) rfl rfl (g := (mkF m 39 #[.val (.ref x0), .val (.int (5 : Int32))] [(.int (5 : Int32)), (.ref x0)])) rfl rfl (hb hby d5_39)
                          have Fw99 := Fld.same W99 F4
                          have f100 := Exa.wr W99 E0
                          have f101 := V0.other W99 hne
                          have f102 := Fld.other W99 F1 (Or.inr (slot_ne (Or.inl (hw _ (List.mem_of_getElem? (i := 16) rfl))) (Or.inl (hw _ (List.mem_of_getElem? (i := 27) rfl))) (by decide) (t := (.array .byte)) (t' := .int) (by decide) (by decide)))
                          have f103 := Fld.other W99 F2 (Or.inr (slot_ne (Or.inl (hw _ (List.mem_of_getElem? (i := 23) rfl))) (Or.inl (hw _ (List.mem_of_getElem? (i := 27) rfl))) (by decide) (t := .int) (t' := .int) (by decide) (by decide)))
                          have f104 := Fld.other W99 F3 (Or.inr (slot_ne (Or.inl (hw _ (List.mem_of_getElem? (i := 25) rfl))) (Or.inl (hw _ (List.mem_of_getElem? (i := 27) rfl))) (by decide) (t := .int) (t' := .int) (by decide) (by decide)))
                          have K106 := (Keep.refl h0 [x0]).wr W99 (Or.inl (by simp))
                          have N99 := Fr.snoc X99 N0 g0
                          have Zs107 : n0 ≤ h99.size := Nat.le_trans Z0 (Keep.of_wr W99).1
                          refine Ends.by ?_ st99
                          show Ends p e below s _ _ _ (T99.setTop (mkF m 42 #[.val (.ref x0), .val (.int (5 : Int32))] []))
                          refine Ends.by ?_ (fun _ k => XS.aloadN X99.here hx rfl (hb hby d5_42) rfl rfl k)
                          show Ends p e below s _ _ _ (T99.setTop (mkF m 43 #[.val (.ref x0), .val (.int (5 : Int32))] [(.ref x0)]))
                          obtain ⟨T108, X108, e108, st108⟩ := getF X99 hx hZ hown (host := "") (Or.inl (hw _ (List.mem_of_getElem? (i := 26) rfl))) Via.refl e99 Fw99 (g := (mkF m 43 #[.val (.ref x0), .val (.int (5 : Int32))] [(.ref x0)])) rfl rfl (hb hby d5_43)
                          refine Ends.by ?_ st108
                          show Ends p e below s _ _ _ (T108.setTop (mkF m 46 #[.val (.ref x0), .val (.int (5 : Int32))] [(.int (5 : Int32))]))
                          exact Ends.retI X108 hx Bd.notSynchronized Bd.returns (hb hby d5_46) (by rw [e108, hv98]; exact ⟨rfl, N99, K106, f100, f102, f103, f104, Fw99⟩) (by decide) (by decide)
                        · have hv109 := hv94.trans (if_neg hc97)
                          refine Ends.by ?_ (fun _ k => XS.ifNo X96.here hx rfl (hb hby d5_28) rfl (XT.i0_eq_f hc97) k)
                          show Ends p e below s _ _ _ (T96.setTop (mkF m 31 #[.val (.ref x0), .val (.int (5 : Int32))] []))
                          refine Ends.by ?_ (fun _ k => XS.iinc X96.here hx rfl (hb hby d5_31) rfl (l' := #[.val (.ref x0), .val (.int (6 : Int32))]) rfl k)
                          show Ends p e below s _ _ _ (T96.setTop (mkF m 34 #[.val (.ref x0), .val (.int (6 : Int32))] []))
                          refine Ends.by ?_ (fun _ k => XS.goto X96.here hx rfl (pc0 := 34) (pc' := 9) rfl (hb hby d5_34) (by decide) (by decide) k)
                          show Ends p e below s _ _ _ (T96.setTop (mkF m 9 #[.val (.ref x0), .val (.int (6 : Int32))] []))
                          refine Ends.by ?_ (fun _ k => XS.iloadN X96.here hx rfl (hb hby d5_9) rfl k)
                          show Ends p e below s _ _ _ (T96.setTop (mkF m 10 #[.val (.ref x0), .val (.int (6 : Int32))] [(.int (6 : Int32))]))
                          refine Ends.by ?_ (fun _ k => XS.aloadN X96.here hx rfl (hb hby d5_10) rfl rfl k)
                          show Ends p e below s _ _ _ (T96.setTop (mkF m 11 #[.val (.ref x0), .val (.int (6 : Int32))] [(.ref x0), (.int (6 : Int32))]))
                          obtain ⟨T110, X110, e110, st110⟩ := getF X96 hx hZ hown (host := "") (Or.inl (hw _ (List.mem_of_getElem? (i := 24) rfl))) Via.refl e96 F3 (g := (mkF m 11 #[.val (.ref x0), .val (.int (6 : Int32))] [(.ref x0), (.int (6 : Int32))])) rfl rfl (hb hby d5_11)
                          refine Ends.by ?_ st110
                          show Ends p e below s _ _ _ (T110.setTop (mkF m 14 #[.val (.ref x0), .val (.int (6 : Int32))] [(.int y2), (.int (6 : Int32))]))
                          refine Ends.by ?_ (fun _ k => XS.icmpYes X110.here hx rfl (pc0 := 14) (pc' := 37) rfl (hb hby d5_14) rfl (XT.ii_ge_t h6) (by decide) (by decide) k)
                          show Ends p e below s _ _ _ (T110.setTop (mkF m 37 #[.val (.ref x0), .val (.int (6 : Int32))] []))
                          refine Ends.by ?_ (fun _ k => XS.aloadN X110.here hx rfl (hb hby d5_37) rfl rfl k)
                          show Ends p e below s _ _ _ (T110.setTop (mkF m 38 #[.val (.ref x0), .val (.int (6 : Int32))] [(.ref x0)]))
                          refine Ends.by ?_ (fun _ k => XS.iloadN X110.here hx rfl (hb hby d5_38) rfl k)
                          show Ends p e below s _ _ _ (T110.setTop (mkF m 39 #[.val (.ref x0), .val (.int (6 : Int32))] [(.int (6 : Int32)), (.ref x0)]))
                          obtain ⟨T111, h111, X111, e111, W111, st111⟩ := putF X110 hx hZ hown (host := "") (Or.inl (hw _ (List.mem_of_getElem? (i := 26) rfl))) Via.refl e110 F4 E0 (Or.inl (hw _ (List.mem_of_getElem? (i := 27) rfl))) (hw _ (List.mem_of_getElem? (i := 7) rfl)) (ty := .int) (by decide) rfl rfl (g := (mkF m 39 #[.val (.ref x0), .val (.int (6 : Int32))] [(.int (6 : Int32)), (.ref x0)])) rfl rfl (hb hby d5_39)
                          have Fw111 := Fld.same W111 F4
                          have f112 := Exa.wr W111 E0
                          have f113 := V0.other W111 hne
                          have f114 := Fld.other W111 F1 (Or.inr (slot_ne (Or.inl (hw _ (List.mem_of_getElem? (i := 16) rfl))) (Or.inl (hw _ (List.mem_of_getElem? (i := 27) rfl))) (by decide) (t := (.array .byte)) (t' := .int) (by decide) (by decide)))
                          have f115 := Fld.other W111 F2 (Or.inr (slot_ne (Or.inl (hw _ (List.mem_of_getElem? (i := 23) rfl))) (Or.inl (hw _ (List.mem_of_getElem? (i := 27) rfl))) (by decide) (t := .int) (t' := .int) (by decide) (by decide)))
                          have f116 := Fld.other W111 F3 (Or.inr (slot_ne (Or.inl (hw _ (List.mem_of_getElem? (i := 25) rfl))) (Or.inl (hw _ (List.mem_of_getElem? (i := 27) rfl))) (by decide) (t := .int) (t' := .int) (by decide) (by decide)))
                          have K118 := (Keep.refl h0 [x0]).wr W111 (Or.inl (by simp))
                          have N111 := Fr.snoc X111 N0 g0
                          have Zs119 : n0 ≤ h111.size := Nat.le_trans Z0 (Keep.of_wr W111).1
                          refine Ends.by ?_ st111
                          show Ends p e below s _ _ _ (T111.setTop (mkF m 42 #[.val (.ref x0), .val (.int (6 : Int32))] []))
                          refine Ends.by ?_ (fun _ k => XS.aloadN X111.here hx rfl (hb hby d5_42) rfl rfl k)
                          show Ends p e below s _ _ _ (T111.setTop (mkF m 43 #[.val (.ref x0), .val (.int (6 : Int32))] [(.ref x0)]))
                          obtain ⟨T120, X120, e120, st120⟩ := getF X111 hx hZ hown (host := "") (Or.inl (hw _ (List.mem_of_getElem? (i := 26) rfl))) Via.refl e111 Fw111 (g := (mkF m 43 #[.val (.ref x0), .val (.int (6 : Int32))] [(.ref x0)])) rfl rfl (hb hby d5_43)
                          refine Ends.by ?_ st120
                          show Ends p e below s _ _ _ (T120.setTop (mkF m 46 #[.val (.ref x0), .val (.int (6 : Int32))] [(.int (6 : Int32))]))
                          exact Ends.retI X120 hx Bd.notSynchronized Bd.returns (hb hby d5_46) (by rw [e120, hv109]; exact ⟨rfl, N111, K118, f112, f114, f115, f116, Fw111⟩) (by decide) (by decide)
                      · have hv121 := hv91.trans (if_neg hc93)
                        refine Ends.by ?_ (fun _ k => XS.icmpYes X92.here hx rfl (pc0 := 14) (pc' := 37) rfl (hb hby d5_14) rfl (XT.ii_ge_t hc93) (by decide) (by decide) k)
                        show Ends p e below s _ _ _ (T92.setTop (mkF m 37 #[.val (.ref x0), .val (.int (5 : Int32))] []))
                        refine Ends.by ?_ (fun _ k => XS.aloadN X92.here hx rfl (hb hby d5_37) rfl rfl k)
                        show Ends p e below s _ _ _ (T92.setTop (mkF m 38 #[.val (.ref x0), .val (.int (5 : Int32))] [(.ref x0)]))
                        refine Ends.by ?_ (fun _ k => XS.iloadN X92.here hx rfl (hb hby d5_38) rfl k)
                        show Ends p e below s _ _ _ (T92.setTop (mkF m 39 #[.val (.ref x0), .val (.int (5 : Int32))] [(.int (5 : Int32)), (.ref x0)]))
                        obtain ⟨T122, h122, X122, e122, W122, st122⟩ := putF X92 hx hZ hown (host := "") (Or.inl (hw _ (List.mem_of_getElem? (i := 26) rfl))) Via.refl e92 F4 E0 (Or.inl (hw _ (List.mem_of_getElem? (i := 27) rfl))) (hw _ (List.mem_of_getElem? (i := 7) rfl)) (ty := .int) (by decide) rfl rfl (g := (mkF m 39 #[.val (.ref x0), .val (.int (5 : Int32))] [(.int (5 : Int32)), (.ref x0)])) rfl rfl (hb hby d5_39)
                        have Fw122 := Fld.same W122 F4
                        have f123 := Exa.wr W122 E0
                        have f124 := V0.other W122 hne
                        have f125 := Fld.other W122 F1 (Or.inr (slot_ne (Or.inl (hw _ (List.mem_of_getElem? (i := 16) rfl))) (Or.inl (hw _ (List.mem_of_getElem? (i := 27) rfl))) (by decide) (t := (.array .byte)) (t' := .int) (by decide) (by decide)))
                        have f126 := Fld.other W122 F2 (Or.inr (slot_ne (Or.inl (hw _ (List.mem_of_getElem? (i := 23) rfl))) (Or.inl (hw _ (List.mem_of_getElem? (i := 27) rfl))) (by decide) (t := .int) (t' := .int) (by decide) (by decide)))
                        have f127 := Fld.other W122 F3 (Or.inr (slot_ne (Or.inl (hw _ (List.mem_of_getElem? (i := 25) rfl))) (Or.inl (hw _ (List.mem_of_getElem? (i := 27) rfl))) (by decide) (t := .int) (t' := .int) (by decide) (by decide)))
                        have K129 := (Keep.refl h0 [x0]).wr W122 (Or.inl (by simp))
                        have N122 := Fr.snoc X122 N0 g0
                        have Zs130 : n0 ≤ h122.size := Nat.le_trans Z0 (Keep.of_wr W122).1
                        refine Ends.by ?_ st122
                        show Ends p e below s _ _ _ (T122.setTop (mkF m 42 #[.val (.ref x0), .val (.int (5 : Int32))] []))
                        refine Ends.by ?_ (fun _ k => XS.aloadN X122.here hx rfl (hb hby d5_42) rfl rfl k)
                        show Ends p e below s _ _ _ (T122.setTop (mkF m 43 #[.val (.ref x0), .val (.int (5 : Int32))] [(.ref x0)]))
                        obtain ⟨T131, X131, e131, st131⟩ := getF X122 hx hZ hown (host := "") (Or.inl (hw _ (List.mem_of_getElem? (i := 26) rfl))) Via.refl e122 Fw122 (g := (mkF m 43 #[.val (.ref x0), .val (.int (5 : Int32))] [(.ref x0)])) rfl rfl (hb hby d5_43)
                        refine Ends.by ?_ st131
                        show Ends p e below s _ _ _ (T131.setTop (mkF m 46 #[.val (.ref x0), .val (.int (5 : Int32))] [(.int (5 : Int32))]))
                        exact Ends.retI X131 hx Bd.notSynchronized Bd.returns (hb hby d5_46) (by rw [e131, hv121]; exact ⟨rfl, N122, K129, f123, f125, f126, f127, Fw122⟩) (by decide) (by decide)
                  · have hv132 := hv73.trans (if_neg hc75)
                    refine Ends.by ?_ (fun _ k => XS.icmpYes X74.here hx rfl (pc0 := 14) (pc' := 37) rfl (hb hby d5_14) rfl (XT.ii_ge_t hc75) (by decide) (by decide) k)
                    show Ends p e below s _ _ _ (T74.setTop (mkF m 37 #[.val (.ref x0), .val (.int (4 : Int32))] []))
                    refine Ends.by ?_ (fun _ k => XS.aloadN X74.here hx rfl (hb hby d5_37) rfl rfl k)
                    show Ends p e below s _ _ _ (T74.setTop (mkF m 38 #[.val (.ref x0), .val (.int (4 : Int32))] [(.ref x0)]))
                    refine Ends.by ?_ (fun _ k => XS.iloadN X74.here hx rfl (hb hby d5_38) rfl k)
                    show Ends p e below s _ _ _ (T74.setTop (mkF m 39 #[.val (.ref x0), .val (.int (4 : Int32))] [(.int (4 : Int32)), (.ref x0)]))
                    obtain ⟨T133, h133, X133, e133, W133, st133⟩ := putF X74 hx hZ hown (host := "") (Or.inl (hw _ (List.mem_of_getElem? (i := 26) rfl))) Via.refl e74 F4 E0 (Or.inl (hw _ (List.mem_of_getElem? (i := 27) rfl))) (hw _ (List.mem_of_getElem? (i := 7) rfl)) (ty := .int) (by decide) rfl rfl (g := (mkF m 39 #[.val (.ref x0), .val (.int (4 : Int32))] [(.int (4 : Int32)), (.ref x0)])) rfl rfl (hb hby d5_39)
                    have Fw133 := Fld.same W133 F4
                    have f134 := Exa.wr W133 E0
                    have f135 := V0.other W133 hne
                    have f136 := Fld.other W133 F1 (Or.inr (slot_ne (Or.inl (hw _ (List.mem_of_getElem? (i := 16) rfl))) (Or.inl (hw _ (List.mem_of_getElem? (i := 27) rfl))) (by decide) (t := (.array .byte)) (t' := .int) (by decide) (by decide)))
                    have f137 := Fld.other W133 F2 (Or.inr (slot_ne (Or.inl (hw _ (List.mem_of_getElem? (i := 23) rfl))) (Or.inl (hw _ (List.mem_of_getElem? (i := 27) rfl))) (by decide) (t := .int) (t' := .int) (by decide) (by decide)))
                    have f138 := Fld.other W133 F3 (Or.inr (slot_ne (Or.inl (hw _ (List.mem_of_getElem? (i := 25) rfl))) (Or.inl (hw _ (List.mem_of_getElem? (i := 27) rfl))) (by decide) (t := .int) (t' := .int) (by decide) (by decide)))
                    have K140 := (Keep.refl h0 [x0]).wr W133 (Or.inl (by simp))
                    have N133 := Fr.snoc X133 N0 g0
                    have Zs141 : n0 ≤ h133.size := Nat.le_trans Z0 (Keep.of_wr W133).1
                    refine Ends.by ?_ st133
                    show Ends p e below s _ _ _ (T133.setTop (mkF m 42 #[.val (.ref x0), .val (.int (4 : Int32))] []))
                    refine Ends.by ?_ (fun _ k => XS.aloadN X133.here hx rfl (hb hby d5_42) rfl rfl k)
                    show Ends p e below s _ _ _ (T133.setTop (mkF m 43 #[.val (.ref x0), .val (.int (4 : Int32))] [(.ref x0)]))
                    obtain ⟨T142, X142, e142, st142⟩ := getF X133 hx hZ hown (host := "") (Or.inl (hw _ (List.mem_of_getElem? (i := 26) rfl))) Via.refl e133 Fw133 (g := (mkF m 43 #[.val (.ref x0), .val (.int (4 : Int32))] [(.ref x0)])) rfl rfl (hb hby d5_43)
                    refine Ends.by ?_ st142
                    show Ends p e below s _ _ _ (T142.setTop (mkF m 46 #[.val (.ref x0), .val (.int (4 : Int32))] [(.int (4 : Int32))]))
                    exact Ends.retI X142 hx Bd.notSynchronized Bd.returns (hb hby d5_46) (by rw [e142, hv132]; exact ⟨rfl, N133, K140, f134, f136, f137, f138, Fw133⟩) (by decide) (by decide)
              · have hv143 := hv55.trans (if_neg hc57)
                refine Ends.by ?_ (fun _ k => XS.icmpYes X56.here hx rfl (pc0 := 14) (pc' := 37) rfl (hb hby d5_14) rfl (XT.ii_ge_t hc57) (by decide) (by decide) k)
                show Ends p e below s _ _ _ (T56.setTop (mkF m 37 #[.val (.ref x0), .val (.int (3 : Int32))] []))
                refine Ends.by ?_ (fun _ k => XS.aloadN X56.here hx rfl (hb hby d5_37) rfl rfl k)
                show Ends p e below s _ _ _ (T56.setTop (mkF m 38 #[.val (.ref x0), .val (.int (3 : Int32))] [(.ref x0)]))
                refine Ends.by ?_ (fun _ k => XS.iloadN X56.here hx rfl (hb hby d5_38) rfl k)
                show Ends p e below s _ _ _ (T56.setTop (mkF m 39 #[.val (.ref x0), .val (.int (3 : Int32))] [(.int (3 : Int32)), (.ref x0)]))
                obtain ⟨T144, h144, X144, e144, W144, st144⟩ := putF X56 hx hZ hown (host := "") (Or.inl (hw _ (List.mem_of_getElem? (i := 26) rfl))) Via.refl e56 F4 E0 (Or.inl (hw _ (List.mem_of_getElem? (i := 27) rfl))) (hw _ (List.mem_of_getElem? (i := 7) rfl)) (ty := .int) (by decide) rfl rfl (g := (mkF m 39 #[.val (.ref x0), .val (.int (3 : Int32))] [(.int (3 : Int32)), (.ref x0)])) rfl rfl (hb hby d5_39)
                have Fw144 := Fld.same W144 F4
                have f145 := Exa.wr W144 E0
                have f146 := V0.other W144 hne
                have f147 := Fld.other W144 F1 (Or.inr (slot_ne (Or.inl (hw _ (List.mem_of_getElem? (i := 16) rfl))) (Or.inl (hw _ (List.mem_of_getElem? (i := 27) rfl))) (by decide) (t := (.array .byte)) (t' := .int) (by decide) (by decide)))
                have f148 := Fld.other W144 F2 (Or.inr (slot_ne (Or.inl (hw _ (List.mem_of_getElem? (i := 23) rfl))) (Or.inl (hw _ (List.mem_of_getElem? (i := 27) rfl))) (by decide) (t := .int) (t' := .int) (by decide) (by decide)))
                have f149 := Fld.other W144 F3 (Or.inr (slot_ne (Or.inl (hw _ (List.mem_of_getElem? (i := 25) rfl))) (Or.inl (hw _ (List.mem_of_getElem? (i := 27) rfl))) (by decide) (t := .int) (t' := .int) (by decide) (by decide)))
                have K151 := (Keep.refl h0 [x0]).wr W144 (Or.inl (by simp))
                have N144 := Fr.snoc X144 N0 g0
                have Zs152 : n0 ≤ h144.size := Nat.le_trans Z0 (Keep.of_wr W144).1
                refine Ends.by ?_ st144
                show Ends p e below s _ _ _ (T144.setTop (mkF m 42 #[.val (.ref x0), .val (.int (3 : Int32))] []))
                refine Ends.by ?_ (fun _ k => XS.aloadN X144.here hx rfl (hb hby d5_42) rfl rfl k)
                show Ends p e below s _ _ _ (T144.setTop (mkF m 43 #[.val (.ref x0), .val (.int (3 : Int32))] [(.ref x0)]))
                obtain ⟨T153, X153, e153, st153⟩ := getF X144 hx hZ hown (host := "") (Or.inl (hw _ (List.mem_of_getElem? (i := 26) rfl))) Via.refl e144 Fw144 (g := (mkF m 43 #[.val (.ref x0), .val (.int (3 : Int32))] [(.ref x0)])) rfl rfl (hb hby d5_43)
                refine Ends.by ?_ st153
                show Ends p e below s _ _ _ (T153.setTop (mkF m 46 #[.val (.ref x0), .val (.int (3 : Int32))] [(.int (3 : Int32))]))
                exact Ends.retI X153 hx Bd.notSynchronized Bd.returns (hb hby d5_46) (by rw [e153, hv143]; exact ⟨rfl, N144, K151, f145, f147, f148, f149, Fw144⟩) (by decide) (by decide)
          · have hv154 := hv37.trans (if_neg hc39)
            refine Ends.by ?_ (fun _ k => XS.icmpYes X38.here hx rfl (pc0 := 14) (pc' := 37) rfl (hb hby d5_14) rfl (XT.ii_ge_t hc39) (by decide) (by decide) k)
            show Ends p e below s _ _ _ (T38.setTop (mkF m 37 #[.val (.ref x0), .val (.int (2 : Int32))] []))
            refine Ends.by ?_ (fun _ k => XS.aloadN X38.here hx rfl (hb hby d5_37) rfl rfl k)
            show Ends p e below s _ _ _ (T38.setTop (mkF m 38 #[.val (.ref x0), .val (.int (2 : Int32))] [(.ref x0)]))
            refine Ends.by ?_ (fun _ k => XS.iloadN X38.here hx rfl (hb hby d5_38) rfl k)
            show Ends p e below s _ _ _ (T38.setTop (mkF m 39 #[.val (.ref x0), .val (.int (2 : Int32))] [(.int (2 : Int32)), (.ref x0)]))
            obtain ⟨T155, h155, X155, e155, W155, st155⟩ := putF X38 hx hZ hown (host := "") (Or.inl (hw _ (List.mem_of_getElem? (i := 26) rfl))) Via.refl e38 F4 E0 (Or.inl (hw _ (List.mem_of_getElem? (i := 27) rfl))) (hw _ (List.mem_of_getElem? (i := 7) rfl)) (ty := .int) (by decide) rfl rfl (g := (mkF m 39 #[.val (.ref x0), .val (.int (2 : Int32))] [(.int (2 : Int32)), (.ref x0)])) rfl rfl (hb hby d5_39)
            have Fw155 := Fld.same W155 F4
            have f156 := Exa.wr W155 E0
            have f157 := V0.other W155 hne
            have f158 := Fld.other W155 F1 (Or.inr (slot_ne (Or.inl (hw _ (List.mem_of_getElem? (i := 16) rfl))) (Or.inl (hw _ (List.mem_of_getElem? (i := 27) rfl))) (by decide) (t := (.array .byte)) (t' := .int) (by decide) (by decide)))
            have f159 := Fld.other W155 F2 (Or.inr (slot_ne (Or.inl (hw _ (List.mem_of_getElem? (i := 23) rfl))) (Or.inl (hw _ (List.mem_of_getElem? (i := 27) rfl))) (by decide) (t := .int) (t' := .int) (by decide) (by decide)))
            have f160 := Fld.other W155 F3 (Or.inr (slot_ne (Or.inl (hw _ (List.mem_of_getElem? (i := 25) rfl))) (Or.inl (hw _ (List.mem_of_getElem? (i := 27) rfl))) (by decide) (t := .int) (t' := .int) (by decide) (by decide)))
            have K162 := (Keep.refl h0 [x0]).wr W155 (Or.inl (by simp))
            have N155 := Fr.snoc X155 N0 g0
            have Zs163 : n0 ≤ h155.size := Nat.le_trans Z0 (Keep.of_wr W155).1
            refine Ends.by ?_ st155
            show Ends p e below s _ _ _ (T155.setTop (mkF m 42 #[.val (.ref x0), .val (.int (2 : Int32))] []))
            refine Ends.by ?_ (fun _ k => XS.aloadN X155.here hx rfl (hb hby d5_42) rfl rfl k)
            show Ends p e below s _ _ _ (T155.setTop (mkF m 43 #[.val (.ref x0), .val (.int (2 : Int32))] [(.ref x0)]))
            obtain ⟨T164, X164, e164, st164⟩ := getF X155 hx hZ hown (host := "") (Or.inl (hw _ (List.mem_of_getElem? (i := 26) rfl))) Via.refl e155 Fw155 (g := (mkF m 43 #[.val (.ref x0), .val (.int (2 : Int32))] [(.ref x0)])) rfl rfl (hb hby d5_43)
            refine Ends.by ?_ st164
            show Ends p e below s _ _ _ (T164.setTop (mkF m 46 #[.val (.ref x0), .val (.int (2 : Int32))] [(.int (2 : Int32))]))
            exact Ends.retI X164 hx Bd.notSynchronized Bd.returns (hb hby d5_46) (by rw [e164, hv154]; exact ⟨rfl, N155, K162, f156, f158, f159, f160, Fw155⟩) (by decide) (by decide)
      · have hv165 := hv19.trans (if_neg hc21)
        refine Ends.by ?_ (fun _ k => XS.icmpYes X20.here hx rfl (pc0 := 14) (pc' := 37) rfl (hb hby d5_14) rfl (XT.ii_ge_t hc21) (by decide) (by decide) k)
        show Ends p e below s _ _ _ (T20.setTop (mkF m 37 #[.val (.ref x0), .val (.int (1 : Int32))] []))
        refine Ends.by ?_ (fun _ k => XS.aloadN X20.here hx rfl (hb hby d5_37) rfl rfl k)
        show Ends p e below s _ _ _ (T20.setTop (mkF m 38 #[.val (.ref x0), .val (.int (1 : Int32))] [(.ref x0)]))
        refine Ends.by ?_ (fun _ k => XS.iloadN X20.here hx rfl (hb hby d5_38) rfl k)
        show Ends p e below s _ _ _ (T20.setTop (mkF m 39 #[.val (.ref x0), .val (.int (1 : Int32))] [(.int (1 : Int32)), (.ref x0)]))
        obtain ⟨T166, h166, X166, e166, W166, st166⟩ := putF X20 hx hZ hown (host := "") (Or.inl (hw _ (List.mem_of_getElem? (i := 26) rfl))) Via.refl e20 F4 E0 (Or.inl (hw _ (List.mem_of_getElem? (i := 27) rfl))) (hw _ (List.mem_of_getElem? (i := 7) rfl)) (ty := .int) (by decide) rfl rfl (g := (mkF m 39 #[.val (.ref x0), .val (.int (1 : Int32))] [(.int (1 : Int32)), (.ref x0)])) rfl rfl (hb hby d5_39)
        have Fw166 := Fld.same W166 F4
        have f167 := Exa.wr W166 E0
        have f168 := V0.other W166 hne
        have f169 := Fld.other W166 F1 (Or.inr (slot_ne (Or.inl (hw _ (List.mem_of_getElem? (i := 16) rfl))) (Or.inl (hw _ (List.mem_of_getElem? (i := 27) rfl))) (by decide) (t := (.array .byte)) (t' := .int) (by decide) (by decide)))
        have f170 := Fld.other W166 F2 (Or.inr (slot_ne (Or.inl (hw _ (List.mem_of_getElem? (i := 23) rfl))) (Or.inl (hw _ (List.mem_of_getElem? (i := 27) rfl))) (by decide) (t := .int) (t' := .int) (by decide) (by decide)))
        have f171 := Fld.other W166 F3 (Or.inr (slot_ne (Or.inl (hw _ (List.mem_of_getElem? (i := 25) rfl))) (Or.inl (hw _ (List.mem_of_getElem? (i := 27) rfl))) (by decide) (t := .int) (t' := .int) (by decide) (by decide)))
        have K173 := (Keep.refl h0 [x0]).wr W166 (Or.inl (by simp))
        have N166 := Fr.snoc X166 N0 g0
        have Zs174 : n0 ≤ h166.size := Nat.le_trans Z0 (Keep.of_wr W166).1
        refine Ends.by ?_ st166
        show Ends p e below s _ _ _ (T166.setTop (mkF m 42 #[.val (.ref x0), .val (.int (1 : Int32))] []))
        refine Ends.by ?_ (fun _ k => XS.aloadN X166.here hx rfl (hb hby d5_42) rfl rfl k)
        show Ends p e below s _ _ _ (T166.setTop (mkF m 43 #[.val (.ref x0), .val (.int (1 : Int32))] [(.ref x0)]))
        obtain ⟨T175, X175, e175, st175⟩ := getF X166 hx hZ hown (host := "") (Or.inl (hw _ (List.mem_of_getElem? (i := 26) rfl))) Via.refl e166 Fw166 (g := (mkF m 43 #[.val (.ref x0), .val (.int (1 : Int32))] [(.ref x0)])) rfl rfl (hb hby d5_43)
        refine Ends.by ?_ st175
        show Ends p e below s _ _ _ (T175.setTop (mkF m 46 #[.val (.ref x0), .val (.int (1 : Int32))] [(.int (1 : Int32))]))
        exact Ends.retI X175 hx Bd.notSynchronized Bd.returns (hb hby d5_46) (by rw [e175, hv165]; exact ⟨rfl, N166, K173, f167, f169, f170, f171, Fw166⟩) (by decide) (by decide)
  · have hv176 := hv0.trans (if_neg hc3)
    refine Ends.by ?_ (fun _ k => XS.icmpYes X2.here hx rfl (pc0 := 14) (pc' := 37) rfl (hb hby d5_14) rfl (XT.ii_ge_t hc3) (by decide) (by decide) k)
    show Ends p e below s _ _ _ (T2.setTop (mkF m 37 #[.val (.ref x0), .val (.int (0 : Int32))] []))
    refine Ends.by ?_ (fun _ k => XS.aloadN X2.here hx rfl (hb hby d5_37) rfl rfl k)
    show Ends p e below s _ _ _ (T2.setTop (mkF m 38 #[.val (.ref x0), .val (.int (0 : Int32))] [(.ref x0)]))
    refine Ends.by ?_ (fun _ k => XS.iloadN X2.here hx rfl (hb hby d5_38) rfl k)
    show Ends p e below s _ _ _ (T2.setTop (mkF m 39 #[.val (.ref x0), .val (.int (0 : Int32))] [(.int (0 : Int32)), (.ref x0)]))
    obtain ⟨T177, h177, X177, e177, W177, st177⟩ := putF X2 hx hZ hown (host := "") (Or.inl (hw _ (List.mem_of_getElem? (i := 26) rfl))) Via.refl e2 F4 E0 (Or.inl (hw _ (List.mem_of_getElem? (i := 27) rfl))) (hw _ (List.mem_of_getElem? (i := 7) rfl)) (ty := .int) (by decide) rfl rfl (g := (mkF m 39 #[.val (.ref x0), .val (.int (0 : Int32))] [(.int (0 : Int32)), (.ref x0)])) rfl rfl (hb hby d5_39)
    have Fw177 := Fld.same W177 F4
    have f178 := Exa.wr W177 E0
    have f179 := V0.other W177 hne
    have f180 := Fld.other W177 F1 (Or.inr (slot_ne (Or.inl (hw _ (List.mem_of_getElem? (i := 16) rfl))) (Or.inl (hw _ (List.mem_of_getElem? (i := 27) rfl))) (by decide) (t := (.array .byte)) (t' := .int) (by decide) (by decide)))
    have f181 := Fld.other W177 F2 (Or.inr (slot_ne (Or.inl (hw _ (List.mem_of_getElem? (i := 23) rfl))) (Or.inl (hw _ (List.mem_of_getElem? (i := 27) rfl))) (by decide) (t := .int) (t' := .int) (by decide) (by decide)))
    have f182 := Fld.other W177 F3 (Or.inr (slot_ne (Or.inl (hw _ (List.mem_of_getElem? (i := 25) rfl))) (Or.inl (hw _ (List.mem_of_getElem? (i := 27) rfl))) (by decide) (t := .int) (t' := .int) (by decide) (by decide)))
    have K184 := (Keep.refl h0 [x0]).wr W177 (Or.inl (by simp))
    have N177 := Fr.snoc X177 N0 g0
    have Zs185 : n0 ≤ h177.size := Nat.le_trans Z0 (Keep.of_wr W177).1
    refine Ends.by ?_ st177
    show Ends p e below s _ _ _ (T177.setTop (mkF m 42 #[.val (.ref x0), .val (.int (0 : Int32))] []))
    refine Ends.by ?_ (fun _ k => XS.aloadN X177.here hx rfl (hb hby d5_42) rfl rfl k)
    show Ends p e below s _ _ _ (T177.setTop (mkF m 43 #[.val (.ref x0), .val (.int (0 : Int32))] [(.ref x0)]))
    obtain ⟨T186, X186, e186, st186⟩ := getF X177 hx hZ hown (host := "") (Or.inl (hw _ (List.mem_of_getElem? (i := 26) rfl))) Via.refl e177 Fw177 (g := (mkF m 43 #[.val (.ref x0), .val (.int (0 : Int32))] [(.ref x0)])) rfl rfl (hb hby d5_43)
    refine Ends.by ?_ st186
    show Ends p e below s _ _ _ (T186.setTop (mkF m 46 #[.val (.ref x0), .val (.int (0 : Int32))] [(.int (0 : Int32))]))
    exact Ends.retI X186 hx Bd.notSynchronized Bd.returns (hb hby d5_46) (by rw [e186, hv176]; exact ⟨rfl, N177, K184, f178, f180, f181, f182, Fw177⟩) (by decide) (by decide)

theorem ef_rmLb (m : MethodId) (x0 : Addr) : entryFrame m #[(.ref x0)] 2 = mkF m 0 #[.val (.ref x0), .unset] [] := by first | (simp [entryFrame, mkF, argsToLocals, Value.category]; done) | rfl
set_option maxRecDepth 65536 in
set_option maxHeartbeats 40000000 in
theorem rmLb (l : Launch) (Z : State) (a0 : Array Value) (hw : ∀ d ∈ tables_1, d.before a0 Z = true) (ws : List Jvm.Cond) (x0 : Addr) (yl : Int32) (h0 : Heap) (n0 : Nat) (Z0 : n0 ≤ h0.size) (F4 : Fld Z h0 x0 "quotewright/StringView" "length" "I" (.int yl)) (hl : ¬ (yl < (0 : Int32))) :
    MetFree l (⟨"quotewright/StringView", "length", "()I"⟩ : MethodName) (head1 (Jvm.Cond.code (⟨"quotewright/StringView", "length", "()I"⟩ : MethodName) prog_40_method_3_code 2 (some .int) :: ws) ({ frames := 0, cells := 0, slots := 0, locals := 0 } : Room)) (fun a U => a = #[(.ref x0)] ∧ Z.Warmed39 U.vm ∧ U.heap = h0) (fun _ _ _ _ _ => True) (fun _ U o U' => ∃ v L, o = .returned v ∧ (QP (some (.int yl)) h0 n0) v U'.heap L ∧ FrameEnd U o U' L ({ frames := 0, cells := 0, slots := 0, locals := 0 } : Room).cells ({ frames := 0, cells := 0, slots := 0, locals := 0 } : Room).slots) := by
  refine MetFree.of_bodySF (plainFor_of_name pn_1) hisR ?_
  intro p e s m args below meth c s₁ Bd hml0 hP hK
  obtain ⟨rfl, hZ, hh⟩ := hP
  have hx := Bd.exec
  have hby := Bd.bytes
  have hml : c.maxLocals = 2 := hml0
  have hown : s.vm.findClass "quotewright/StringView" = some m.cls := findClass_of_methodNamed Bd.named
  have hnm := (name_of_methodNamed Bd.named Bd.method).1
  have X0 : Stand p l e ({ frames := 0, cells := 0, slots := 0, locals := 0 } : Room) s m #[(.ref x0)] below meth c s₁ [] 0 0 := Stand.of_body Bd
  have e0 : s₁.heap = h0 := by rw [← hh, Bd.state]; rfl
  have N0 := Fr.nil n0
  show Ends p e below s (QP (some (.int yl)) h0 n0) ({ frames := 0, cells := 0, slots := 0, locals := 0 } : Room).cells ({ frames := 0, cells := 0, slots := 0, locals := 0 } : Room).slots (s₁.setTop (entryFrame m #[(.ref x0)] 2))
  rw [ef_rmLb m x0]
  show Ends p e below s _ _ _ (s₁.setTop (mkF m 0 #[.val (.ref x0), .unset] []))
  refine Ends.by ?_ (fun _ k => XS.aloadN X0.here hx rfl (hb hby d5_0) rfl rfl k)
  show Ends p e below s _ _ _ (s₁.setTop (mkF m 1 #[.val (.ref x0), .unset] [(.ref x0)]))
  obtain ⟨T1, X1, e1, st1⟩ := getF X0 hx hZ hown (host := "") (Or.inl (hw _ (List.mem_of_getElem? (i := 26) rfl))) Via.refl e0 F4 (g := (mkF m 1 #[.val (.ref x0), .unset] [(.ref x0)])) rfl rfl (hb hby d5_1)
  refine Ends.by ?_ st1
  show Ends p e below s _ _ _ (T1.setTop (mkF m 4 #[.val (.ref x0), .unset] [(.int yl)]))
  refine Ends.by ?_ (fun _ k => XS.ifYes X1.here hx rfl (pc0 := 4) (pc' := 42) rfl (hb hby d5_4) rfl (XT.i0_ge_t hl) (by decide) (by decide) k)
  show Ends p e below s _ _ _ (T1.setTop (mkF m 42 #[.val (.ref x0), .unset] []))
  refine Ends.by ?_ (fun _ k => XS.aloadN X1.here hx rfl (hb hby d5_42) rfl rfl k)
  show Ends p e below s _ _ _ (T1.setTop (mkF m 43 #[.val (.ref x0), .unset] [(.ref x0)]))
  obtain ⟨T2, X2, e2, st2⟩ := getF X1 hx hZ hown (host := "") (Or.inl (hw _ (List.mem_of_getElem? (i := 26) rfl))) Via.refl e1 F4 (g := (mkF m 43 #[.val (.ref x0), .unset] [(.ref x0)])) rfl rfl (hb hby d5_43)
  refine Ends.by ?_ st2
  show Ends p e below s _ _ _ (T2.setTop (mkF m 46 #[.val (.ref x0), .unset] [(.int yl)]))
  exact Ends.retI X2 hx Bd.notSynchronized Bd.returns (hb hby d5_46) (by rw [e2]; exact ⟨rfl, N0, rfl⟩) (by decide) (by decide)

theorem own_len {x0 ya xr : Addr} {s fl : Int32} {g : Nat → Int32} (hs : 0 ≤ s.toInt) (hf : 0 ≤ fl.toInt) (h6 : ¬ ((6 : Int32) < fl)) : fLa x0 ya s fl g = f6 xr s fl g ∧ ¬ (fLa x0 ya s fl g < (0 : Int32)) := by
  have e6 : (6 : Int32).toInt = 6 := rfl
  have hz : s + (0 : Int32) = s := Int32.add_zero s
  rw [Int32.lt_iff_toInt_lt] at h6
  have hc : fl = 0 ∨ fl = 1 ∨ fl = 2 ∨ fl = 3 ∨ fl = 4 ∨ fl = 5 ∨ fl = 6 := by
    simp only [← Int32.toInt_inj]
    have e0 : (0 : Int32).toInt = 0 := rfl
    have e1 : (1 : Int32).toInt = 1 := rfl
    have e2 : (2 : Int32).toInt = 2 := rfl
    have e3 : (3 : Int32).toInt = 3 := rfl
    have e4 : (4 : Int32).toInt = 4 := rfl
    have e5 : (5 : Int32).toInt = 5 := rfl
    omega
  clear h6 hf hs
  unfold fLa
  simp only [f6_87, f6_72, f6_57, f6_42, f6_27, f6_12, f6, hz]
  generalize g (s.toNatClampNeg) = b0
  generalize g ((s + (1 : Int32)).toNatClampNeg) = b1
  generalize g ((s + (2 : Int32)).toNatClampNeg) = b2
  generalize g ((s + (3 : Int32)).toNatClampNeg) = b3
  generalize g ((s + (4 : Int32)).toNatClampNeg) = b4
  generalize g ((s + (5 : Int32)).toNatClampNeg) = b5
  rcases hc with rfl | rfl | rfl | rfl | rfl | rfl | rfl <;>
  · by_cases q0 : b0 = 0 <;> by_cases q1 : b1 = 0 <;> by_cases q2 : b2 = 0 <;> by_cases q3 : b3 = 0 <;> by_cases q4 : b4 = 0 <;> by_cases q5 : b5 = 0 <;> simp [q0, q1, q2, q3, q4, q5]
theorem own_s (x : Int32) : ∃ a : Int32, a = (x &&& (2147483647 : Int32)) % (6 : Int32) ∧ 0 ≤ a.toInt ∧ a.toInt < 6 := by
  refine ⟨_, rfl, ?_⟩
  have h := c_mask x 2147483647 31 (by decide) (by decide)
  have h2 := (c_irem (x &&& (2147483647 : Int32)) 6 6 (by decide)).1 (by omega)
  omega
theorem own_f (x s : Int32) (h1 : 0 ≤ s.toInt) (h2 : s.toInt < 6) : ∃ a : Int32, a = (x &&& (2147483647 : Int32)) % ((7 : Int32) - s) ∧ 0 ≤ a.toInt ∧ s.toInt + a.toInt ≤ 6 ∧ ¬ ((6 : Int32) < a) := by
  refine ⟨_, rfl, ?_⟩
  have h := c_mask x 2147483647 31 (by decide) (by decide)
  have q1 := c_isub 7 s
  have q2 := rng32 (7 - s)
  have e7 : (7 : Int32).toInt = 7 := rfl
  have e6 : (6 : Int32).toInt = 6 := rfl
  have h3 := (c_iremV (x &&& (2147483647 : Int32)) (7 - s)).1 (by omega) (by omega)
  rw [Int32.lt_iff_toInt_lt]
  omega
theorem own_nz {s : Int32} (h1 : 0 ≤ s.toInt) (h2 : s.toInt < 6) : ((7 : Int32) - s) ≠ 0 := fun q => by
  have q1 := c_isub 7 s
  have q2 := rng32 (7 - s)
  have e7 : (7 : Int32).toInt = 7 := rfl
  have q3 := congrArg Int32.toInt q
  have e0 : (0 : Int32).toInt = 0 := rfl
  omega
theorem pd_0 : parseMethodDescriptor "(JII)B" = some ⟨[.long, .int, .int], some .byte⟩ := by decide +kernel
theorem pd_1 : parseMethodDescriptor "()V" = some ⟨[], none⟩ := by decide +kernel
theorem pd_2 : parseMethodDescriptor "([BII)Lquotewright/StringView;" = some ⟨[(.array .byte), .int, .int], some (.object "quotewright/StringView")⟩ := by decide +kernel
theorem pd_3 : parseMethodDescriptor "()I" = some ⟨[], some .int⟩ := by decide +kernel
theorem pd_4 : parseMethodDescriptor "([BII)I" = some ⟨[(.array .byte), .int, .int], some .int⟩ := by decide +kernel
theorem ef_rm0 (m : MethodId) (x0 : Int64) (x1 : Int32) (x2 : Int32) (x3 : Int32) (x4 : Int32) (x5 : Int32) : entryFrame m #[(.long x0), (.int x1), (.int x2), (.int x3), (.int x4), (.int x5)] maxLocals = mkF m 0 #[.val (.long x0), .second, .val (.int x1), .val (.int x2), .val (.int x3), .val (.int x4), .val (.int x5), .unset, .unset, .unset, .unset, .unset, .unset, .unset, .unset, .unset] [] := by first | (simp [entryFrame, mkF, argsToLocals, Value.category, maxLocals]; done) | rfl
set_option maxRecDepth 65536 in
set_option maxHeartbeats 40000000 in
theorem rm0 (l : Launch) (Z : State) (a0 : Array Value) (hw : ∀ d ∈ tables_1, d.before a0 Z = true) (ws : List Jvm.Cond) (x0 : Int64) (x1 : Int32) (x2 : Int32) (x3 : Int32) (x4 : Int32) (x5 : Int32) (h0 : Heap) (n0 : Nat) (Z0 : n0 ≤ h0.size) :
    MetFree l x (head1 (Jvm.Cond.code x code maxLocals ret :: ws) room_1) (fun a U => a = #[(.long x0), (.int x1), (.int x2), (.int x3), (.int x4), (.int x5)] ∧ Z.Warmed39 U.vm ∧ U.heap = h0) (fun _ _ _ _ _ => True) (fun _ U o U' => ∃ v L, o = .returned v ∧ (QL n0) v U'.heap L ∧ FrameEnd U o U' L room_1.cells room_1.slots) := by
  refine MetFree.of_bodySF (plainFor_of_name pn_0) hisR ?_
  intro p e s m args below meth c s₁ Bd hml0 hP hK
  obtain ⟨rfl, hZ, hh⟩ := hP
  have hx := Bd.exec
  have hby := Bd.bytes
  have hml : c.maxLocals = 16 := hml0
  have hown : s.vm.findClass "quotewright/StringViewLengthPinLaw" = some m.cls := findClass_of_methodNamed Bd.named
  have hnm := (name_of_methodNamed Bd.named Bd.method).1
  have X0 : Stand p l e room_1 s m #[(.long x0), (.int x1), (.int x2), (.int x3), (.int x4), (.int x5)] below meth c s₁ [] 0 0 := Stand.of_body Bd
  have e0 : s₁.heap = h0 := by rw [← hh, Bd.state]; rfl
  have N0 := Fr.nil n0
  show Ends p e below s (QL n0) room_1.cells room_1.slots (s₁.setTop (entryFrame m #[(.long x0), (.int x1), (.int x2), (.int x3), (.int x4), (.int x5)] maxLocals))
  rw [ef_rm0 m x0 x1 x2 x3 x4 x5]
  show Ends p e below s _ _ _ (s₁.setTop (mkF m 0 #[.val (.long x0), .second, .val (.int x1), .val (.int x2), .val (.int x3), .val (.int x4), .val (.int x5), .unset, .unset, .unset, .unset, .unset, .unset, .unset, .unset, .unset] []))
  refine Ends.by ?_ (fun _ k => XS.bipush X0.here hx rfl (hb hby at_0) k)
  show Ends p e below s _ _ _ (s₁.setTop (mkF m 2 #[.val (.long x0), .second, .val (.int x1), .val (.int x2), .val (.int x3), .val (.int x4), .val (.int x5), .unset, .unset, .unset, .unset, .unset, .unset, .unset, .unset, .unset] [(.int (6 : Int32))]))
  obtain ⟨T1, h1, X1, e1, E1, V1, st1⟩ := newAr X0 hx hZ (hw _ (List.mem_of_getElem? (i := 0) rfl)) rfl e0 (n := 6) (z := (6 : Int32)) (cap := 6) (by decide) (by decide) (by decide) (by decide) (by decide) (Ls := #[.val (.long x0), .second, .val (.int x1), .val (.int x2), .val (.int x3), .val (.int x4), .val (.int x5), .unset, .unset, .unset, .unset, .unset, .unset, .unset, .unset, .unset]) (S := []) (hb hby at_2)
  obtain ⟨b1, g1⟩ : ∃ z, z = h0.size := ⟨_, rfl⟩
  rw [← g1] at V1 st1
  have gn1 : n0 ≤ b1 := Nat.le_trans Z0 (Nat.le_of_eq g1.symm)
  have Zs2 : n0 ≤ h1.size := Nat.le_trans Z0 E1.1
  refine Ends.by ?_ st1
  show Ends p e below s _ _ _ (T1.setTop (mkF m 4 #[.val (.long x0), .second, .val (.int x1), .val (.int x2), .val (.int x3), .val (.int x4), .val (.int x5), .unset, .unset, .unset, .unset, .unset, .unset, .unset, .unset, .unset] [(.ref b1)]))
  refine Ends.by ?_ (fun _ k => XS.astore X1.here hx rfl (hb hby at_4) rfl rfl (l' := #[.val (.long x0), .second, .val (.int x1), .val (.int x2), .val (.int x3), .val (.int x4), .val (.int x5), .val (.ref b1), .unset, .unset, .unset, .unset, .unset, .unset, .unset, .unset]) rfl k)
  show Ends p e below s _ _ _ (T1.setTop (mkF m 6 #[.val (.long x0), .second, .val (.int x1), .val (.int x2), .val (.int x3), .val (.int x4), .val (.int x5), .val (.ref b1), .unset, .unset, .unset, .unset, .unset, .unset, .unset, .unset] []))
  refine Ends.by ?_ (fun _ k => XS.aload X1.here hx rfl (hb hby at_6) rfl rfl k)
  show Ends p e below s _ _ _ (T1.setTop (mkF m 8 #[.val (.long x0), .second, .val (.int x1), .val (.int x2), .val (.int x3), .val (.int x4), .val (.int x5), .val (.ref b1), .unset, .unset, .unset, .unset, .unset, .unset, .unset, .unset] [(.ref b1)]))
  refine Ends.by ?_ (fun _ k => XS.iconst X1.here hx rfl (hb hby at_8) k)
  show Ends p e below s _ _ _ (T1.setTop (mkF m 9 #[.val (.long x0), .second, .val (.int x1), .val (.int x2), .val (.int x3), .val (.int x4), .val (.int x5), .val (.ref b1), .unset, .unset, .unset, .unset, .unset, .unset, .unset, .unset] [(.int (0 : Int32)), (.ref b1)]))
  refine Ends.by ?_ (fun _ k => XS.lloadN X1.here hx rfl (hb hby at_9) rfl k)
  show Ends p e below s _ _ _ (T1.setTop (mkF m 10 #[.val (.long x0), .second, .val (.int x1), .val (.int x2), .val (.int x3), .val (.int x4), .val (.int x5), .val (.ref b1), .unset, .unset, .unset, .unset, .unset, .unset, .unset, .unset] [(.long x0), (.int (0 : Int32)), (.ref b1)]))
  refine Ends.by ?_ (fun _ k => XS.iloadN X1.here hx rfl (hb hby at_10) rfl k)
  show Ends p e below s _ _ _ (T1.setTop (mkF m 11 #[.val (.long x0), .second, .val (.int x1), .val (.int x2), .val (.int x3), .val (.int x4), .val (.int x5), .val (.ref b1), .unset, .unset, .unset, .unset, .unset, .unset, .unset, .unset] [(.int x1), (.long x0), (.int (0 : Int32)), (.ref b1)]))
  refine Ends.by ?_ (fun _ k => XS.iconst X1.here hx rfl (hb hby at_11) k)
  show Ends p e below s _ _ _ (T1.setTop (mkF m 12 #[.val (.long x0), .second, .val (.int x1), .val (.int x2), .val (.int x3), .val (.int x4), .val (.int x5), .val (.ref b1), .unset, .unset, .unset, .unset, .unset, .unset, .unset, .unset] [(.int (0 : Int32)), (.int x1), (.long x0), (.int (0 : Int32)), (.ref b1)]))
  obtain ⟨v3, _, ⟨T3, L3, k3, n3⟩, -, X3, ⟨Lc3, hQ3, l3, y3, z3⟩, st3⟩ := Jvm.LawKit.callS X1 hx (y := (⟨"quotewright/StringViewLengthPinLaw", "pick", "(JII)B"⟩ : MethodName)) hown (mvT hZ (hw _ (List.mem_of_getElem? (i := 1) rfl))) (mvT hZ (hw _ (List.mem_of_getElem? (i := 2) rfl))) (mvT hZ (hw _ (List.mem_of_getElem? (i := 3) rfl))) (mvT hZ (hw _ (List.mem_of_getElem? (i := 4) rfl))) (by decide) (backOf (W := 2) (rm1 l Z a0 hw [] x0 x1 (0 : Int32) h1 n0 Zs2) hZ (hw _ (List.mem_of_getElem? (i := 4) rfl)) (hw _ (List.mem_of_getElem? (i := 3) rfl)) (by decide) (by decide)) (g := (mkF m 12 #[.val (.long x0), .second, .val (.int x1), .val (.int x2), .val (.int x3), .val (.int x4), .val (.int x5), .val (.ref b1), .unset, .unset, .unset, .unset, .unset, .unset, .unset, .unset] [(.int (0 : Int32)), (.int x1), (.long x0), (.int (0 : Int32)), (.ref b1)])) rfl (by rw [hml]; rfl) (argsL := [(.long x0), (.int x1), (.int (0 : Int32))]) (rest := [(.int (0 : Int32)), (.ref b1)]) (lenOf pd_0 rfl) rfl (by show 2 * 0 + _ ≤ _; exact Nat.le_of_eq rfl) (hb hby at_12) (fun _ _ => ⟨rfl, e1, (by decide : 1 + 0 ≤ _), (by decide : 6 + 0 ≤ _)⟩)
  dsimp only [Pt.U, Pt.locs, Pt.cells, Pt.slots] at X3 l3 y3 z3 st3 hQ3
  subst l3 y3 z3
  obtain ⟨rfl, N3q, e3⟩ := hQ3
  have N3 := Fr.app N0 N3q
  refine Ends.by ?_ st3
  show Ends p e below s _ _ _ (T3.setTop (mkF m 15 #[.val (.long x0), .second, .val (.int x1), .val (.int x2), .val (.int x3), .val (.int x4), .val (.int x5), .val (.ref b1), .unset, .unset, .unset, .unset, .unset, .unset, .unset, .unset] [(.int (f1 x0 x1 (0 : Int32))), (.int (0 : Int32)), (.ref b1)]))
  obtain ⟨T4, h4, X4, e4, W4, V4, st4⟩ := stBA X3 hx hZ e3 V1 (j := (0 : Int32)) (x := (f1 x0 x1 (0 : Int32))) (by decide) (Ls := #[.val (.long x0), .second, .val (.int x1), .val (.int x2), .val (.int x3), .val (.int x4), .val (.int x5), .val (.ref b1), .unset, .unset, .unset, .unset, .unset, .unset, .unset, .unset]) (S := []) (hb hby at_15)
  have N4 := Fr.snoc X4 N3 gn1
  have Zs6 : n0 ≤ h4.size := Nat.le_trans Zs2 (Keep.of_wr W4).1
  refine Ends.by ?_ st4
  show Ends p e below s _ _ _ (T4.setTop (mkF m 16 #[.val (.long x0), .second, .val (.int x1), .val (.int x2), .val (.int x3), .val (.int x4), .val (.int x5), .val (.ref b1), .unset, .unset, .unset, .unset, .unset, .unset, .unset, .unset] []))
  refine Ends.by ?_ (fun _ k => XS.aload X4.here hx rfl (hb hby at_16) rfl rfl k)
  show Ends p e below s _ _ _ (T4.setTop (mkF m 18 #[.val (.long x0), .second, .val (.int x1), .val (.int x2), .val (.int x3), .val (.int x4), .val (.int x5), .val (.ref b1), .unset, .unset, .unset, .unset, .unset, .unset, .unset, .unset] [(.ref b1)]))
  refine Ends.by ?_ (fun _ k => XS.iconst X4.here hx rfl (hb hby at_18) k)
  show Ends p e below s _ _ _ (T4.setTop (mkF m 19 #[.val (.long x0), .second, .val (.int x1), .val (.int x2), .val (.int x3), .val (.int x4), .val (.int x5), .val (.ref b1), .unset, .unset, .unset, .unset, .unset, .unset, .unset, .unset] [(.int (1 : Int32)), (.ref b1)]))
  refine Ends.by ?_ (fun _ k => XS.lloadN X4.here hx rfl (hb hby at_19) rfl k)
  show Ends p e below s _ _ _ (T4.setTop (mkF m 20 #[.val (.long x0), .second, .val (.int x1), .val (.int x2), .val (.int x3), .val (.int x4), .val (.int x5), .val (.ref b1), .unset, .unset, .unset, .unset, .unset, .unset, .unset, .unset] [(.long x0), (.int (1 : Int32)), (.ref b1)]))
  refine Ends.by ?_ (fun _ k => XS.iloadN X4.here hx rfl (hb hby at_20) rfl k)
  show Ends p e below s _ _ _ (T4.setTop (mkF m 21 #[.val (.long x0), .second, .val (.int x1), .val (.int x2), .val (.int x3), .val (.int x4), .val (.int x5), .val (.ref b1), .unset, .unset, .unset, .unset, .unset, .unset, .unset, .unset] [(.int x1), (.long x0), (.int (1 : Int32)), (.ref b1)]))
  refine Ends.by ?_ (fun _ k => XS.iconst X4.here hx rfl (hb hby at_21) k)
  show Ends p e below s _ _ _ (T4.setTop (mkF m 22 #[.val (.long x0), .second, .val (.int x1), .val (.int x2), .val (.int x3), .val (.int x4), .val (.int x5), .val (.ref b1), .unset, .unset, .unset, .unset, .unset, .unset, .unset, .unset] [(.int (1 : Int32)), (.int x1), (.long x0), (.int (1 : Int32)), (.ref b1)]))
  obtain ⟨v7, _, ⟨T7, L7, k7, n7⟩, -, X7, ⟨Lc7, hQ7, l7, y7, z7⟩, st7⟩ := Jvm.LawKit.callS X4 hx (y := (⟨"quotewright/StringViewLengthPinLaw", "pick", "(JII)B"⟩ : MethodName)) hown (mvT hZ (hw _ (List.mem_of_getElem? (i := 1) rfl))) (mvT hZ (hw _ (List.mem_of_getElem? (i := 2) rfl))) (mvT hZ (hw _ (List.mem_of_getElem? (i := 3) rfl))) (mvT hZ (hw _ (List.mem_of_getElem? (i := 4) rfl))) (by decide) (backOf (W := 2) (rm1 l Z a0 hw [] x0 x1 (1 : Int32) h4 n0 Zs6) hZ (hw _ (List.mem_of_getElem? (i := 4) rfl)) (hw _ (List.mem_of_getElem? (i := 3) rfl)) (by decide) (by decide)) (g := (mkF m 22 #[.val (.long x0), .second, .val (.int x1), .val (.int x2), .val (.int x3), .val (.int x4), .val (.int x5), .val (.ref b1), .unset, .unset, .unset, .unset, .unset, .unset, .unset, .unset] [(.int (1 : Int32)), (.int x1), (.long x0), (.int (1 : Int32)), (.ref b1)])) rfl (by rw [hml]; rfl) (argsL := [(.long x0), (.int x1), (.int (1 : Int32))]) (rest := [(.int (1 : Int32)), (.ref b1)]) (lenOf pd_0 rfl) rfl (by show 2 * 0 + _ ≤ _; exact Nat.le_of_eq rfl) (hb hby at_22) (fun _ _ => ⟨rfl, e4, (by decide : 1 + 0 ≤ _), (by decide : 6 + 0 ≤ _)⟩)
  dsimp only [Pt.U, Pt.locs, Pt.cells, Pt.slots] at X7 l7 y7 z7 st7 hQ7
  subst l7 y7 z7
  obtain ⟨rfl, N7q, e7⟩ := hQ7
  have N7 := Fr.app N4 N7q
  refine Ends.by ?_ st7
  show Ends p e below s _ _ _ (T7.setTop (mkF m 25 #[.val (.long x0), .second, .val (.int x1), .val (.int x2), .val (.int x3), .val (.int x4), .val (.int x5), .val (.ref b1), .unset, .unset, .unset, .unset, .unset, .unset, .unset, .unset] [(.int (f1 x0 x1 (1 : Int32))), (.int (1 : Int32)), (.ref b1)]))
  obtain ⟨T8, h8, X8, e8, W8, V8, st8⟩ := stBA X7 hx hZ e7 V4 (j := (1 : Int32)) (x := (f1 x0 x1 (1 : Int32))) (by decide) (Ls := #[.val (.long x0), .second, .val (.int x1), .val (.int x2), .val (.int x3), .val (.int x4), .val (.int x5), .val (.ref b1), .unset, .unset, .unset, .unset, .unset, .unset, .unset, .unset]) (S := []) (hb hby at_25)
  have N8 := Fr.snoc X8 N7 gn1
  have Zs10 : n0 ≤ h8.size := Nat.le_trans Zs6 (Keep.of_wr W8).1
  refine Ends.by ?_ st8
  show Ends p e below s _ _ _ (T8.setTop (mkF m 26 #[.val (.long x0), .second, .val (.int x1), .val (.int x2), .val (.int x3), .val (.int x4), .val (.int x5), .val (.ref b1), .unset, .unset, .unset, .unset, .unset, .unset, .unset, .unset] []))
  refine Ends.by ?_ (fun _ k => XS.aload X8.here hx rfl (hb hby at_26) rfl rfl k)
  show Ends p e below s _ _ _ (T8.setTop (mkF m 28 #[.val (.long x0), .second, .val (.int x1), .val (.int x2), .val (.int x3), .val (.int x4), .val (.int x5), .val (.ref b1), .unset, .unset, .unset, .unset, .unset, .unset, .unset, .unset] [(.ref b1)]))
  refine Ends.by ?_ (fun _ k => XS.iconst X8.here hx rfl (hb hby at_28) k)
  show Ends p e below s _ _ _ (T8.setTop (mkF m 29 #[.val (.long x0), .second, .val (.int x1), .val (.int x2), .val (.int x3), .val (.int x4), .val (.int x5), .val (.ref b1), .unset, .unset, .unset, .unset, .unset, .unset, .unset, .unset] [(.int (2 : Int32)), (.ref b1)]))
  refine Ends.by ?_ (fun _ k => XS.lloadN X8.here hx rfl (hb hby at_29) rfl k)
  show Ends p e below s _ _ _ (T8.setTop (mkF m 30 #[.val (.long x0), .second, .val (.int x1), .val (.int x2), .val (.int x3), .val (.int x4), .val (.int x5), .val (.ref b1), .unset, .unset, .unset, .unset, .unset, .unset, .unset, .unset] [(.long x0), (.int (2 : Int32)), (.ref b1)]))
  refine Ends.by ?_ (fun _ k => XS.iloadN X8.here hx rfl (hb hby at_30) rfl k)
  show Ends p e below s _ _ _ (T8.setTop (mkF m 31 #[.val (.long x0), .second, .val (.int x1), .val (.int x2), .val (.int x3), .val (.int x4), .val (.int x5), .val (.ref b1), .unset, .unset, .unset, .unset, .unset, .unset, .unset, .unset] [(.int x1), (.long x0), (.int (2 : Int32)), (.ref b1)]))
  refine Ends.by ?_ (fun _ k => XS.iconst X8.here hx rfl (hb hby at_31) k)
  show Ends p e below s _ _ _ (T8.setTop (mkF m 32 #[.val (.long x0), .second, .val (.int x1), .val (.int x2), .val (.int x3), .val (.int x4), .val (.int x5), .val (.ref b1), .unset, .unset, .unset, .unset, .unset, .unset, .unset, .unset] [(.int (2 : Int32)), (.int x1), (.long x0), (.int (2 : Int32)), (.ref b1)]))
  obtain ⟨v11, _, ⟨T11, L11, k11, n11⟩, -, X11, ⟨Lc11, hQ11, l11, y11, z11⟩, st11⟩ := Jvm.LawKit.callS X8 hx (y := (⟨"quotewright/StringViewLengthPinLaw", "pick", "(JII)B"⟩ : MethodName)) hown (mvT hZ (hw _ (List.mem_of_getElem? (i := 1) rfl))) (mvT hZ (hw _ (List.mem_of_getElem? (i := 2) rfl))) (mvT hZ (hw _ (List.mem_of_getElem? (i := 3) rfl))) (mvT hZ (hw _ (List.mem_of_getElem? (i := 4) rfl))) (by decide) (backOf (W := 2) (rm1 l Z a0 hw [] x0 x1 (2 : Int32) h8 n0 Zs10) hZ (hw _ (List.mem_of_getElem? (i := 4) rfl)) (hw _ (List.mem_of_getElem? (i := 3) rfl)) (by decide) (by decide)) (g := (mkF m 32 #[.val (.long x0), .second, .val (.int x1), .val (.int x2), .val (.int x3), .val (.int x4), .val (.int x5), .val (.ref b1), .unset, .unset, .unset, .unset, .unset, .unset, .unset, .unset] [(.int (2 : Int32)), (.int x1), (.long x0), (.int (2 : Int32)), (.ref b1)])) rfl (by rw [hml]; rfl) (argsL := [(.long x0), (.int x1), (.int (2 : Int32))]) (rest := [(.int (2 : Int32)), (.ref b1)]) (lenOf pd_0 rfl) rfl (by show 2 * 0 + _ ≤ _; exact Nat.le_of_eq rfl) (hb hby at_32) (fun _ _ => ⟨rfl, e8, (by decide : 1 + 0 ≤ _), (by decide : 6 + 0 ≤ _)⟩)
  dsimp only [Pt.U, Pt.locs, Pt.cells, Pt.slots] at X11 l11 y11 z11 st11 hQ11
  subst l11 y11 z11
  obtain ⟨rfl, N11q, e11⟩ := hQ11
  have N11 := Fr.app N8 N11q
  refine Ends.by ?_ st11
  show Ends p e below s _ _ _ (T11.setTop (mkF m 35 #[.val (.long x0), .second, .val (.int x1), .val (.int x2), .val (.int x3), .val (.int x4), .val (.int x5), .val (.ref b1), .unset, .unset, .unset, .unset, .unset, .unset, .unset, .unset] [(.int (f1 x0 x1 (2 : Int32))), (.int (2 : Int32)), (.ref b1)]))
  obtain ⟨T12, h12, X12, e12, W12, V12, st12⟩ := stBA X11 hx hZ e11 V8 (j := (2 : Int32)) (x := (f1 x0 x1 (2 : Int32))) (by decide) (Ls := #[.val (.long x0), .second, .val (.int x1), .val (.int x2), .val (.int x3), .val (.int x4), .val (.int x5), .val (.ref b1), .unset, .unset, .unset, .unset, .unset, .unset, .unset, .unset]) (S := []) (hb hby at_35)
  have N12 := Fr.snoc X12 N11 gn1
  have Zs14 : n0 ≤ h12.size := Nat.le_trans Zs10 (Keep.of_wr W12).1
  refine Ends.by ?_ st12
  show Ends p e below s _ _ _ (T12.setTop (mkF m 36 #[.val (.long x0), .second, .val (.int x1), .val (.int x2), .val (.int x3), .val (.int x4), .val (.int x5), .val (.ref b1), .unset, .unset, .unset, .unset, .unset, .unset, .unset, .unset] []))
  refine Ends.by ?_ (fun _ k => XS.aload X12.here hx rfl (hb hby at_36) rfl rfl k)
  show Ends p e below s _ _ _ (T12.setTop (mkF m 38 #[.val (.long x0), .second, .val (.int x1), .val (.int x2), .val (.int x3), .val (.int x4), .val (.int x5), .val (.ref b1), .unset, .unset, .unset, .unset, .unset, .unset, .unset, .unset] [(.ref b1)]))
  refine Ends.by ?_ (fun _ k => XS.iconst X12.here hx rfl (hb hby at_38) k)
  show Ends p e below s _ _ _ (T12.setTop (mkF m 39 #[.val (.long x0), .second, .val (.int x1), .val (.int x2), .val (.int x3), .val (.int x4), .val (.int x5), .val (.ref b1), .unset, .unset, .unset, .unset, .unset, .unset, .unset, .unset] [(.int (3 : Int32)), (.ref b1)]))
  refine Ends.by ?_ (fun _ k => XS.lloadN X12.here hx rfl (hb hby at_39) rfl k)
  show Ends p e below s _ _ _ (T12.setTop (mkF m 40 #[.val (.long x0), .second, .val (.int x1), .val (.int x2), .val (.int x3), .val (.int x4), .val (.int x5), .val (.ref b1), .unset, .unset, .unset, .unset, .unset, .unset, .unset, .unset] [(.long x0), (.int (3 : Int32)), (.ref b1)]))
  refine Ends.by ?_ (fun _ k => XS.iloadN X12.here hx rfl (hb hby at_40) rfl k)
  show Ends p e below s _ _ _ (T12.setTop (mkF m 41 #[.val (.long x0), .second, .val (.int x1), .val (.int x2), .val (.int x3), .val (.int x4), .val (.int x5), .val (.ref b1), .unset, .unset, .unset, .unset, .unset, .unset, .unset, .unset] [(.int x1), (.long x0), (.int (3 : Int32)), (.ref b1)]))
  refine Ends.by ?_ (fun _ k => XS.iconst X12.here hx rfl (hb hby at_41) k)
  show Ends p e below s _ _ _ (T12.setTop (mkF m 42 #[.val (.long x0), .second, .val (.int x1), .val (.int x2), .val (.int x3), .val (.int x4), .val (.int x5), .val (.ref b1), .unset, .unset, .unset, .unset, .unset, .unset, .unset, .unset] [(.int (3 : Int32)), (.int x1), (.long x0), (.int (3 : Int32)), (.ref b1)]))
  obtain ⟨v15, _, ⟨T15, L15, k15, n15⟩, -, X15, ⟨Lc15, hQ15, l15, y15, z15⟩, st15⟩ := Jvm.LawKit.callS X12 hx (y := (⟨"quotewright/StringViewLengthPinLaw", "pick", "(JII)B"⟩ : MethodName)) hown (mvT hZ (hw _ (List.mem_of_getElem? (i := 1) rfl))) (mvT hZ (hw _ (List.mem_of_getElem? (i := 2) rfl))) (mvT hZ (hw _ (List.mem_of_getElem? (i := 3) rfl))) (mvT hZ (hw _ (List.mem_of_getElem? (i := 4) rfl))) (by decide) (backOf (W := 2) (rm1 l Z a0 hw [] x0 x1 (3 : Int32) h12 n0 Zs14) hZ (hw _ (List.mem_of_getElem? (i := 4) rfl)) (hw _ (List.mem_of_getElem? (i := 3) rfl)) (by decide) (by decide)) (g := (mkF m 42 #[.val (.long x0), .second, .val (.int x1), .val (.int x2), .val (.int x3), .val (.int x4), .val (.int x5), .val (.ref b1), .unset, .unset, .unset, .unset, .unset, .unset, .unset, .unset] [(.int (3 : Int32)), (.int x1), (.long x0), (.int (3 : Int32)), (.ref b1)])) rfl (by rw [hml]; rfl) (argsL := [(.long x0), (.int x1), (.int (3 : Int32))]) (rest := [(.int (3 : Int32)), (.ref b1)]) (lenOf pd_0 rfl) rfl (by show 2 * 0 + _ ≤ _; exact Nat.le_of_eq rfl) (hb hby at_42) (fun _ _ => ⟨rfl, e12, (by decide : 1 + 0 ≤ _), (by decide : 6 + 0 ≤ _)⟩)
  dsimp only [Pt.U, Pt.locs, Pt.cells, Pt.slots] at X15 l15 y15 z15 st15 hQ15
  subst l15 y15 z15
  obtain ⟨rfl, N15q, e15⟩ := hQ15
  have N15 := Fr.app N12 N15q
  refine Ends.by ?_ st15
  show Ends p e below s _ _ _ (T15.setTop (mkF m 45 #[.val (.long x0), .second, .val (.int x1), .val (.int x2), .val (.int x3), .val (.int x4), .val (.int x5), .val (.ref b1), .unset, .unset, .unset, .unset, .unset, .unset, .unset, .unset] [(.int (f1 x0 x1 (3 : Int32))), (.int (3 : Int32)), (.ref b1)]))
  obtain ⟨T16, h16, X16, e16, W16, V16, st16⟩ := stBA X15 hx hZ e15 V12 (j := (3 : Int32)) (x := (f1 x0 x1 (3 : Int32))) (by decide) (Ls := #[.val (.long x0), .second, .val (.int x1), .val (.int x2), .val (.int x3), .val (.int x4), .val (.int x5), .val (.ref b1), .unset, .unset, .unset, .unset, .unset, .unset, .unset, .unset]) (S := []) (hb hby at_45)
  have N16 := Fr.snoc X16 N15 gn1
  have Zs18 : n0 ≤ h16.size := Nat.le_trans Zs14 (Keep.of_wr W16).1
  refine Ends.by ?_ st16
  show Ends p e below s _ _ _ (T16.setTop (mkF m 46 #[.val (.long x0), .second, .val (.int x1), .val (.int x2), .val (.int x3), .val (.int x4), .val (.int x5), .val (.ref b1), .unset, .unset, .unset, .unset, .unset, .unset, .unset, .unset] []))
  refine Ends.by ?_ (fun _ k => XS.aload X16.here hx rfl (hb hby at_46) rfl rfl k)
  show Ends p e below s _ _ _ (T16.setTop (mkF m 48 #[.val (.long x0), .second, .val (.int x1), .val (.int x2), .val (.int x3), .val (.int x4), .val (.int x5), .val (.ref b1), .unset, .unset, .unset, .unset, .unset, .unset, .unset, .unset] [(.ref b1)]))
  refine Ends.by ?_ (fun _ k => XS.iconst X16.here hx rfl (hb hby at_48) k)
  show Ends p e below s _ _ _ (T16.setTop (mkF m 49 #[.val (.long x0), .second, .val (.int x1), .val (.int x2), .val (.int x3), .val (.int x4), .val (.int x5), .val (.ref b1), .unset, .unset, .unset, .unset, .unset, .unset, .unset, .unset] [(.int (4 : Int32)), (.ref b1)]))
  refine Ends.by ?_ (fun _ k => XS.lloadN X16.here hx rfl (hb hby at_49) rfl k)
  show Ends p e below s _ _ _ (T16.setTop (mkF m 50 #[.val (.long x0), .second, .val (.int x1), .val (.int x2), .val (.int x3), .val (.int x4), .val (.int x5), .val (.ref b1), .unset, .unset, .unset, .unset, .unset, .unset, .unset, .unset] [(.long x0), (.int (4 : Int32)), (.ref b1)]))
  refine Ends.by ?_ (fun _ k => XS.iloadN X16.here hx rfl (hb hby at_50) rfl k)
  show Ends p e below s _ _ _ (T16.setTop (mkF m 51 #[.val (.long x0), .second, .val (.int x1), .val (.int x2), .val (.int x3), .val (.int x4), .val (.int x5), .val (.ref b1), .unset, .unset, .unset, .unset, .unset, .unset, .unset, .unset] [(.int x1), (.long x0), (.int (4 : Int32)), (.ref b1)]))
  refine Ends.by ?_ (fun _ k => XS.iconst X16.here hx rfl (hb hby at_51) k)
  show Ends p e below s _ _ _ (T16.setTop (mkF m 52 #[.val (.long x0), .second, .val (.int x1), .val (.int x2), .val (.int x3), .val (.int x4), .val (.int x5), .val (.ref b1), .unset, .unset, .unset, .unset, .unset, .unset, .unset, .unset] [(.int (4 : Int32)), (.int x1), (.long x0), (.int (4 : Int32)), (.ref b1)]))
  obtain ⟨v19, _, ⟨T19, L19, k19, n19⟩, -, X19, ⟨Lc19, hQ19, l19, y19, z19⟩, st19⟩ := Jvm.LawKit.callS X16 hx (y := (⟨"quotewright/StringViewLengthPinLaw", "pick", "(JII)B"⟩ : MethodName)) hown (mvT hZ (hw _ (List.mem_of_getElem? (i := 1) rfl))) (mvT hZ (hw _ (List.mem_of_getElem? (i := 2) rfl))) (mvT hZ (hw _ (List.mem_of_getElem? (i := 3) rfl))) (mvT hZ (hw _ (List.mem_of_getElem? (i := 4) rfl))) (by decide) (backOf (W := 2) (rm1 l Z a0 hw [] x0 x1 (4 : Int32) h16 n0 Zs18) hZ (hw _ (List.mem_of_getElem? (i := 4) rfl)) (hw _ (List.mem_of_getElem? (i := 3) rfl)) (by decide) (by decide)) (g := (mkF m 52 #[.val (.long x0), .second, .val (.int x1), .val (.int x2), .val (.int x3), .val (.int x4), .val (.int x5), .val (.ref b1), .unset, .unset, .unset, .unset, .unset, .unset, .unset, .unset] [(.int (4 : Int32)), (.int x1), (.long x0), (.int (4 : Int32)), (.ref b1)])) rfl (by rw [hml]; rfl) (argsL := [(.long x0), (.int x1), (.int (4 : Int32))]) (rest := [(.int (4 : Int32)), (.ref b1)]) (lenOf pd_0 rfl) rfl (by show 2 * 0 + _ ≤ _; exact Nat.le_of_eq rfl) (hb hby at_52) (fun _ _ => ⟨rfl, e16, (by decide : 1 + 0 ≤ _), (by decide : 6 + 0 ≤ _)⟩)
  dsimp only [Pt.U, Pt.locs, Pt.cells, Pt.slots] at X19 l19 y19 z19 st19 hQ19
  subst l19 y19 z19
  obtain ⟨rfl, N19q, e19⟩ := hQ19
  have N19 := Fr.app N16 N19q
  refine Ends.by ?_ st19
  show Ends p e below s _ _ _ (T19.setTop (mkF m 55 #[.val (.long x0), .second, .val (.int x1), .val (.int x2), .val (.int x3), .val (.int x4), .val (.int x5), .val (.ref b1), .unset, .unset, .unset, .unset, .unset, .unset, .unset, .unset] [(.int (f1 x0 x1 (4 : Int32))), (.int (4 : Int32)), (.ref b1)]))
  obtain ⟨T20, h20, X20, e20, W20, V20, st20⟩ := stBA X19 hx hZ e19 V16 (j := (4 : Int32)) (x := (f1 x0 x1 (4 : Int32))) (by decide) (Ls := #[.val (.long x0), .second, .val (.int x1), .val (.int x2), .val (.int x3), .val (.int x4), .val (.int x5), .val (.ref b1), .unset, .unset, .unset, .unset, .unset, .unset, .unset, .unset]) (S := []) (hb hby at_55)
  have N20 := Fr.snoc X20 N19 gn1
  have Zs22 : n0 ≤ h20.size := Nat.le_trans Zs18 (Keep.of_wr W20).1
  refine Ends.by ?_ st20
  show Ends p e below s _ _ _ (T20.setTop (mkF m 56 #[.val (.long x0), .second, .val (.int x1), .val (.int x2), .val (.int x3), .val (.int x4), .val (.int x5), .val (.ref b1), .unset, .unset, .unset, .unset, .unset, .unset, .unset, .unset] []))
  refine Ends.by ?_ (fun _ k => XS.aload X20.here hx rfl (hb hby at_56) rfl rfl k)
  show Ends p e below s _ _ _ (T20.setTop (mkF m 58 #[.val (.long x0), .second, .val (.int x1), .val (.int x2), .val (.int x3), .val (.int x4), .val (.int x5), .val (.ref b1), .unset, .unset, .unset, .unset, .unset, .unset, .unset, .unset] [(.ref b1)]))
  refine Ends.by ?_ (fun _ k => XS.iconst X20.here hx rfl (hb hby at_58) k)
  show Ends p e below s _ _ _ (T20.setTop (mkF m 59 #[.val (.long x0), .second, .val (.int x1), .val (.int x2), .val (.int x3), .val (.int x4), .val (.int x5), .val (.ref b1), .unset, .unset, .unset, .unset, .unset, .unset, .unset, .unset] [(.int (5 : Int32)), (.ref b1)]))
  refine Ends.by ?_ (fun _ k => XS.lloadN X20.here hx rfl (hb hby at_59) rfl k)
  show Ends p e below s _ _ _ (T20.setTop (mkF m 60 #[.val (.long x0), .second, .val (.int x1), .val (.int x2), .val (.int x3), .val (.int x4), .val (.int x5), .val (.ref b1), .unset, .unset, .unset, .unset, .unset, .unset, .unset, .unset] [(.long x0), (.int (5 : Int32)), (.ref b1)]))
  refine Ends.by ?_ (fun _ k => XS.iloadN X20.here hx rfl (hb hby at_60) rfl k)
  show Ends p e below s _ _ _ (T20.setTop (mkF m 61 #[.val (.long x0), .second, .val (.int x1), .val (.int x2), .val (.int x3), .val (.int x4), .val (.int x5), .val (.ref b1), .unset, .unset, .unset, .unset, .unset, .unset, .unset, .unset] [(.int x1), (.long x0), (.int (5 : Int32)), (.ref b1)]))
  refine Ends.by ?_ (fun _ k => XS.iconst X20.here hx rfl (hb hby at_61) k)
  show Ends p e below s _ _ _ (T20.setTop (mkF m 62 #[.val (.long x0), .second, .val (.int x1), .val (.int x2), .val (.int x3), .val (.int x4), .val (.int x5), .val (.ref b1), .unset, .unset, .unset, .unset, .unset, .unset, .unset, .unset] [(.int (5 : Int32)), (.int x1), (.long x0), (.int (5 : Int32)), (.ref b1)]))
  obtain ⟨v23, _, ⟨T23, L23, k23, n23⟩, -, X23, ⟨Lc23, hQ23, l23, y23, z23⟩, st23⟩ := Jvm.LawKit.callS X20 hx (y := (⟨"quotewright/StringViewLengthPinLaw", "pick", "(JII)B"⟩ : MethodName)) hown (mvT hZ (hw _ (List.mem_of_getElem? (i := 1) rfl))) (mvT hZ (hw _ (List.mem_of_getElem? (i := 2) rfl))) (mvT hZ (hw _ (List.mem_of_getElem? (i := 3) rfl))) (mvT hZ (hw _ (List.mem_of_getElem? (i := 4) rfl))) (by decide) (backOf (W := 2) (rm1 l Z a0 hw [] x0 x1 (5 : Int32) h20 n0 Zs22) hZ (hw _ (List.mem_of_getElem? (i := 4) rfl)) (hw _ (List.mem_of_getElem? (i := 3) rfl)) (by decide) (by decide)) (g := (mkF m 62 #[.val (.long x0), .second, .val (.int x1), .val (.int x2), .val (.int x3), .val (.int x4), .val (.int x5), .val (.ref b1), .unset, .unset, .unset, .unset, .unset, .unset, .unset, .unset] [(.int (5 : Int32)), (.int x1), (.long x0), (.int (5 : Int32)), (.ref b1)])) rfl (by rw [hml]; rfl) (argsL := [(.long x0), (.int x1), (.int (5 : Int32))]) (rest := [(.int (5 : Int32)), (.ref b1)]) (lenOf pd_0 rfl) rfl (by show 2 * 0 + _ ≤ _; exact Nat.le_of_eq rfl) (hb hby at_62) (fun _ _ => ⟨rfl, e20, (by decide : 1 + 0 ≤ _), (by decide : 6 + 0 ≤ _)⟩)
  dsimp only [Pt.U, Pt.locs, Pt.cells, Pt.slots] at X23 l23 y23 z23 st23 hQ23
  subst l23 y23 z23
  obtain ⟨rfl, N23q, e23⟩ := hQ23
  have N23 := Fr.app N20 N23q
  refine Ends.by ?_ st23
  show Ends p e below s _ _ _ (T23.setTop (mkF m 65 #[.val (.long x0), .second, .val (.int x1), .val (.int x2), .val (.int x3), .val (.int x4), .val (.int x5), .val (.ref b1), .unset, .unset, .unset, .unset, .unset, .unset, .unset, .unset] [(.int (f1 x0 x1 (5 : Int32))), (.int (5 : Int32)), (.ref b1)]))
  obtain ⟨T24, h24, X24, e24, W24, V24, st24⟩ := stBA X23 hx hZ e23 V20 (j := (5 : Int32)) (x := (f1 x0 x1 (5 : Int32))) (by decide) (Ls := #[.val (.long x0), .second, .val (.int x1), .val (.int x2), .val (.int x3), .val (.int x4), .val (.int x5), .val (.ref b1), .unset, .unset, .unset, .unset, .unset, .unset, .unset, .unset]) (S := []) (hb hby at_65)
  have N24 := Fr.snoc X24 N23 gn1
  have Zs26 : n0 ≤ h24.size := Nat.le_trans Zs22 (Keep.of_wr W24).1
  refine Ends.by ?_ st24
  show Ends p e below s _ _ _ (T24.setTop (mkF m 66 #[.val (.long x0), .second, .val (.int x1), .val (.int x2), .val (.int x3), .val (.int x4), .val (.int x5), .val (.ref b1), .unset, .unset, .unset, .unset, .unset, .unset, .unset, .unset] []))
  obtain ⟨gg, Vg⟩ : ∃ g, Ary Z h24 b1 .byte 6 g := ⟨_, V24⟩
  refine Ends.by ?_ (fun _ k => XS.iloadN X24.here hx rfl (hb hby at_66) rfl k)
  show Ends p e below s _ _ _ (T24.setTop (mkF m 67 #[.val (.long x0), .second, .val (.int x1), .val (.int x2), .val (.int x3), .val (.int x4), .val (.int x5), .val (.ref b1), .unset, .unset, .unset, .unset, .unset, .unset, .unset, .unset] [(.int x2)]))
  refine Ends.by ?_ (X24.ldcInt hx hown (mvT hZ (hw _ (List.mem_of_getElem? (i := 5) rfl))) (g := (mkF m 67 #[.val (.long x0), .second, .val (.int x1), .val (.int x2), .val (.int x3), .val (.int x4), .val (.int x5), .val (.ref b1), .unset, .unset, .unset, .unset, .unset, .unset, .unset, .unset] [(.int x2)])) rfl (hb hby at_67))
  show Ends p e below s _ _ _ (T24.setTop (mkF m 69 #[.val (.long x0), .second, .val (.int x1), .val (.int x2), .val (.int x3), .val (.int x4), .val (.int x5), .val (.ref b1), .unset, .unset, .unset, .unset, .unset, .unset, .unset, .unset] [(.int (2147483647 : Int32)), (.int x2)]))
  refine Ends.by ?_ (fun _ k => XS.iand X24.here hx rfl (hb hby at_69) rfl k)
  show Ends p e below s _ _ _ (T24.setTop (mkF m 70 #[.val (.long x0), .second, .val (.int x1), .val (.int x2), .val (.int x3), .val (.int x4), .val (.int x5), .val (.ref b1), .unset, .unset, .unset, .unset, .unset, .unset, .unset, .unset] [(.int (x2 &&& (2147483647 : Int32)))]))
  refine Ends.by ?_ (fun _ k => XS.bipush X24.here hx rfl (hb hby at_70) k)
  show Ends p e below s _ _ _ (T24.setTop (mkF m 72 #[.val (.long x0), .second, .val (.int x1), .val (.int x2), .val (.int x3), .val (.int x4), .val (.int x5), .val (.ref b1), .unset, .unset, .unset, .unset, .unset, .unset, .unset, .unset] [(.int (6 : Int32)), (.int (x2 &&& (2147483647 : Int32)))]))
  refine Ends.by ?_ (fun _ k => iremM X24 hx rfl (hb hby at_72) rfl (by decide) k)
  show Ends p e below s _ _ _ (T24.setTop (mkF m 73 #[.val (.long x0), .second, .val (.int x1), .val (.int x2), .val (.int x3), .val (.int x4), .val (.int x5), .val (.ref b1), .unset, .unset, .unset, .unset, .unset, .unset, .unset, .unset] [(.int ((x2 &&& (2147483647 : Int32)) % (6 : Int32)))]))
  obtain ⟨sA, hsA, sA1, sA2⟩ := own_s x2
  rw [← hsA]
  show Ends p e below s _ _ _ (T24.setTop (mkF m 73 #[.val (.long x0), .second, .val (.int x1), .val (.int x2), .val (.int x3), .val (.int x4), .val (.int x5), .val (.ref b1), .unset, .unset, .unset, .unset, .unset, .unset, .unset, .unset] [(.int sA)]))
  refine Ends.by ?_ (fun _ k => XS.istore X24.here hx rfl (hb hby at_73) rfl (l' := #[.val (.long x0), .second, .val (.int x1), .val (.int x2), .val (.int x3), .val (.int x4), .val (.int x5), .val (.ref b1), .val (.int sA), .unset, .unset, .unset, .unset, .unset, .unset, .unset]) rfl k)
  show Ends p e below s _ _ _ (T24.setTop (mkF m 75 #[.val (.long x0), .second, .val (.int x1), .val (.int x2), .val (.int x3), .val (.int x4), .val (.int x5), .val (.ref b1), .val (.int sA), .unset, .unset, .unset, .unset, .unset, .unset, .unset] []))
  refine Ends.by ?_ (fun _ k => XS.iload X24.here hx rfl (hb hby at_75) rfl k)
  show Ends p e below s _ _ _ (T24.setTop (mkF m 77 #[.val (.long x0), .second, .val (.int x1), .val (.int x2), .val (.int x3), .val (.int x4), .val (.int x5), .val (.ref b1), .val (.int sA), .unset, .unset, .unset, .unset, .unset, .unset, .unset] [(.int x3)]))
  refine Ends.by ?_ (X24.ldcInt hx hown (mvT hZ (hw _ (List.mem_of_getElem? (i := 5) rfl))) (g := (mkF m 77 #[.val (.long x0), .second, .val (.int x1), .val (.int x2), .val (.int x3), .val (.int x4), .val (.int x5), .val (.ref b1), .val (.int sA), .unset, .unset, .unset, .unset, .unset, .unset, .unset] [(.int x3)])) rfl (hb hby at_77))
  show Ends p e below s _ _ _ (T24.setTop (mkF m 79 #[.val (.long x0), .second, .val (.int x1), .val (.int x2), .val (.int x3), .val (.int x4), .val (.int x5), .val (.ref b1), .val (.int sA), .unset, .unset, .unset, .unset, .unset, .unset, .unset] [(.int (2147483647 : Int32)), (.int x3)]))
  refine Ends.by ?_ (fun _ k => XS.iand X24.here hx rfl (hb hby at_79) rfl k)
  show Ends p e below s _ _ _ (T24.setTop (mkF m 80 #[.val (.long x0), .second, .val (.int x1), .val (.int x2), .val (.int x3), .val (.int x4), .val (.int x5), .val (.ref b1), .val (.int sA), .unset, .unset, .unset, .unset, .unset, .unset, .unset] [(.int (x3 &&& (2147483647 : Int32)))]))
  refine Ends.by ?_ (fun _ k => XS.bipush X24.here hx rfl (hb hby at_80) k)
  show Ends p e below s _ _ _ (T24.setTop (mkF m 82 #[.val (.long x0), .second, .val (.int x1), .val (.int x2), .val (.int x3), .val (.int x4), .val (.int x5), .val (.ref b1), .val (.int sA), .unset, .unset, .unset, .unset, .unset, .unset, .unset] [(.int (7 : Int32)), (.int (x3 &&& (2147483647 : Int32)))]))
  refine Ends.by ?_ (fun _ k => XS.iload X24.here hx rfl (hb hby at_82) rfl k)
  show Ends p e below s _ _ _ (T24.setTop (mkF m 84 #[.val (.long x0), .second, .val (.int x1), .val (.int x2), .val (.int x3), .val (.int x4), .val (.int x5), .val (.ref b1), .val (.int sA), .unset, .unset, .unset, .unset, .unset, .unset, .unset] [(.int sA), (.int (7 : Int32)), (.int (x3 &&& (2147483647 : Int32)))]))
  refine Ends.by ?_ (fun _ k => XS.isub X24.here hx rfl (hb hby at_84) rfl k)
  show Ends p e below s _ _ _ (T24.setTop (mkF m 85 #[.val (.long x0), .second, .val (.int x1), .val (.int x2), .val (.int x3), .val (.int x4), .val (.int x5), .val (.ref b1), .val (.int sA), .unset, .unset, .unset, .unset, .unset, .unset, .unset] [(.int ((7 : Int32) - sA)), (.int (x3 &&& (2147483647 : Int32)))]))
  refine Ends.by ?_ (fun _ k => iremM X24 hx rfl (hb hby at_85) rfl (own_nz sA1 sA2) k)
  show Ends p e below s _ _ _ (T24.setTop (mkF m 86 #[.val (.long x0), .second, .val (.int x1), .val (.int x2), .val (.int x3), .val (.int x4), .val (.int x5), .val (.ref b1), .val (.int sA), .unset, .unset, .unset, .unset, .unset, .unset, .unset] [(.int ((x3 &&& (2147483647 : Int32)) % ((7 : Int32) - sA)))]))
  obtain ⟨fA, hfA, fA1, hsA, hA6⟩ := own_f x3 sA sA1 sA2
  rw [← hfA]
  show Ends p e below s _ _ _ (T24.setTop (mkF m 86 #[.val (.long x0), .second, .val (.int x1), .val (.int x2), .val (.int x3), .val (.int x4), .val (.int x5), .val (.ref b1), .val (.int sA), .unset, .unset, .unset, .unset, .unset, .unset, .unset] [(.int fA)]))
  refine Ends.by ?_ (fun _ k => XS.istore X24.here hx rfl (hb hby at_86) rfl (l' := #[.val (.long x0), .second, .val (.int x1), .val (.int x2), .val (.int x3), .val (.int x4), .val (.int x5), .val (.ref b1), .val (.int sA), .val (.int fA), .unset, .unset, .unset, .unset, .unset, .unset]) rfl k)
  show Ends p e below s _ _ _ (T24.setTop (mkF m 88 #[.val (.long x0), .second, .val (.int x1), .val (.int x2), .val (.int x3), .val (.int x4), .val (.int x5), .val (.ref b1), .val (.int sA), .val (.int fA), .unset, .unset, .unset, .unset, .unset, .unset] []))
  refine Ends.by ?_ (fun _ k => XS.iload X24.here hx rfl (hb hby at_88) rfl k)
  show Ends p e below s _ _ _ (T24.setTop (mkF m 90 #[.val (.long x0), .second, .val (.int x1), .val (.int x2), .val (.int x3), .val (.int x4), .val (.int x5), .val (.ref b1), .val (.int sA), .val (.int fA), .unset, .unset, .unset, .unset, .unset, .unset] [(.int x4)]))
  refine Ends.by ?_ (X24.ldcInt hx hown (mvT hZ (hw _ (List.mem_of_getElem? (i := 5) rfl))) (g := (mkF m 90 #[.val (.long x0), .second, .val (.int x1), .val (.int x2), .val (.int x3), .val (.int x4), .val (.int x5), .val (.ref b1), .val (.int sA), .val (.int fA), .unset, .unset, .unset, .unset, .unset, .unset] [(.int x4)])) rfl (hb hby at_90))
  show Ends p e below s _ _ _ (T24.setTop (mkF m 92 #[.val (.long x0), .second, .val (.int x1), .val (.int x2), .val (.int x3), .val (.int x4), .val (.int x5), .val (.ref b1), .val (.int sA), .val (.int fA), .unset, .unset, .unset, .unset, .unset, .unset] [(.int (2147483647 : Int32)), (.int x4)]))
  refine Ends.by ?_ (fun _ k => XS.iand X24.here hx rfl (hb hby at_92) rfl k)
  show Ends p e below s _ _ _ (T24.setTop (mkF m 93 #[.val (.long x0), .second, .val (.int x1), .val (.int x2), .val (.int x3), .val (.int x4), .val (.int x5), .val (.ref b1), .val (.int sA), .val (.int fA), .unset, .unset, .unset, .unset, .unset, .unset] [(.int (x4 &&& (2147483647 : Int32)))]))
  refine Ends.by ?_ (fun _ k => XS.bipush X24.here hx rfl (hb hby at_93) k)
  show Ends p e below s _ _ _ (T24.setTop (mkF m 95 #[.val (.long x0), .second, .val (.int x1), .val (.int x2), .val (.int x3), .val (.int x4), .val (.int x5), .val (.ref b1), .val (.int sA), .val (.int fA), .unset, .unset, .unset, .unset, .unset, .unset] [(.int (6 : Int32)), (.int (x4 &&& (2147483647 : Int32)))]))
  refine Ends.by ?_ (fun _ k => iremM X24 hx rfl (hb hby at_95) rfl (by decide) k)
  show Ends p e below s _ _ _ (T24.setTop (mkF m 96 #[.val (.long x0), .second, .val (.int x1), .val (.int x2), .val (.int x3), .val (.int x4), .val (.int x5), .val (.ref b1), .val (.int sA), .val (.int fA), .unset, .unset, .unset, .unset, .unset, .unset] [(.int ((x4 &&& (2147483647 : Int32)) % (6 : Int32)))]))
  obtain ⟨sB, hsB, sB1, sB2⟩ := own_s x4
  rw [← hsB]
  show Ends p e below s _ _ _ (T24.setTop (mkF m 96 #[.val (.long x0), .second, .val (.int x1), .val (.int x2), .val (.int x3), .val (.int x4), .val (.int x5), .val (.ref b1), .val (.int sA), .val (.int fA), .unset, .unset, .unset, .unset, .unset, .unset] [(.int sB)]))
  refine Ends.by ?_ (fun _ k => XS.istore X24.here hx rfl (hb hby at_96) rfl (l' := #[.val (.long x0), .second, .val (.int x1), .val (.int x2), .val (.int x3), .val (.int x4), .val (.int x5), .val (.ref b1), .val (.int sA), .val (.int fA), .val (.int sB), .unset, .unset, .unset, .unset, .unset]) rfl k)
  show Ends p e below s _ _ _ (T24.setTop (mkF m 98 #[.val (.long x0), .second, .val (.int x1), .val (.int x2), .val (.int x3), .val (.int x4), .val (.int x5), .val (.ref b1), .val (.int sA), .val (.int fA), .val (.int sB), .unset, .unset, .unset, .unset, .unset] []))
  refine Ends.by ?_ (fun _ k => XS.iload X24.here hx rfl (hb hby at_98) rfl k)
  show Ends p e below s _ _ _ (T24.setTop (mkF m 100 #[.val (.long x0), .second, .val (.int x1), .val (.int x2), .val (.int x3), .val (.int x4), .val (.int x5), .val (.ref b1), .val (.int sA), .val (.int fA), .val (.int sB), .unset, .unset, .unset, .unset, .unset] [(.int x5)]))
  refine Ends.by ?_ (X24.ldcInt hx hown (mvT hZ (hw _ (List.mem_of_getElem? (i := 5) rfl))) (g := (mkF m 100 #[.val (.long x0), .second, .val (.int x1), .val (.int x2), .val (.int x3), .val (.int x4), .val (.int x5), .val (.ref b1), .val (.int sA), .val (.int fA), .val (.int sB), .unset, .unset, .unset, .unset, .unset] [(.int x5)])) rfl (hb hby at_100))
  show Ends p e below s _ _ _ (T24.setTop (mkF m 102 #[.val (.long x0), .second, .val (.int x1), .val (.int x2), .val (.int x3), .val (.int x4), .val (.int x5), .val (.ref b1), .val (.int sA), .val (.int fA), .val (.int sB), .unset, .unset, .unset, .unset, .unset] [(.int (2147483647 : Int32)), (.int x5)]))
  refine Ends.by ?_ (fun _ k => XS.iand X24.here hx rfl (hb hby at_102) rfl k)
  show Ends p e below s _ _ _ (T24.setTop (mkF m 103 #[.val (.long x0), .second, .val (.int x1), .val (.int x2), .val (.int x3), .val (.int x4), .val (.int x5), .val (.ref b1), .val (.int sA), .val (.int fA), .val (.int sB), .unset, .unset, .unset, .unset, .unset] [(.int (x5 &&& (2147483647 : Int32)))]))
  refine Ends.by ?_ (fun _ k => XS.bipush X24.here hx rfl (hb hby at_103) k)
  show Ends p e below s _ _ _ (T24.setTop (mkF m 105 #[.val (.long x0), .second, .val (.int x1), .val (.int x2), .val (.int x3), .val (.int x4), .val (.int x5), .val (.ref b1), .val (.int sA), .val (.int fA), .val (.int sB), .unset, .unset, .unset, .unset, .unset] [(.int (7 : Int32)), (.int (x5 &&& (2147483647 : Int32)))]))
  refine Ends.by ?_ (fun _ k => XS.iload X24.here hx rfl (hb hby at_105) rfl k)
  show Ends p e below s _ _ _ (T24.setTop (mkF m 107 #[.val (.long x0), .second, .val (.int x1), .val (.int x2), .val (.int x3), .val (.int x4), .val (.int x5), .val (.ref b1), .val (.int sA), .val (.int fA), .val (.int sB), .unset, .unset, .unset, .unset, .unset] [(.int sB), (.int (7 : Int32)), (.int (x5 &&& (2147483647 : Int32)))]))
  refine Ends.by ?_ (fun _ k => XS.isub X24.here hx rfl (hb hby at_107) rfl k)
  show Ends p e below s _ _ _ (T24.setTop (mkF m 108 #[.val (.long x0), .second, .val (.int x1), .val (.int x2), .val (.int x3), .val (.int x4), .val (.int x5), .val (.ref b1), .val (.int sA), .val (.int fA), .val (.int sB), .unset, .unset, .unset, .unset, .unset] [(.int ((7 : Int32) - sB)), (.int (x5 &&& (2147483647 : Int32)))]))
  refine Ends.by ?_ (fun _ k => iremM X24 hx rfl (hb hby at_108) rfl (own_nz sB1 sB2) k)
  show Ends p e below s _ _ _ (T24.setTop (mkF m 109 #[.val (.long x0), .second, .val (.int x1), .val (.int x2), .val (.int x3), .val (.int x4), .val (.int x5), .val (.ref b1), .val (.int sA), .val (.int fA), .val (.int sB), .unset, .unset, .unset, .unset, .unset] [(.int ((x5 &&& (2147483647 : Int32)) % ((7 : Int32) - sB)))]))
  obtain ⟨fB, hfB, fB1, hsB, hB6⟩ := own_f x5 sB sB1 sB2
  rw [← hfB]
  show Ends p e below s _ _ _ (T24.setTop (mkF m 109 #[.val (.long x0), .second, .val (.int x1), .val (.int x2), .val (.int x3), .val (.int x4), .val (.int x5), .val (.ref b1), .val (.int sA), .val (.int fA), .val (.int sB), .unset, .unset, .unset, .unset, .unset] [(.int fB)]))
  refine Ends.by ?_ (fun _ k => XS.istore X24.here hx rfl (hb hby at_109) rfl (l' := #[.val (.long x0), .second, .val (.int x1), .val (.int x2), .val (.int x3), .val (.int x4), .val (.int x5), .val (.ref b1), .val (.int sA), .val (.int fA), .val (.int sB), .val (.int fB), .unset, .unset, .unset, .unset]) rfl k)
  show Ends p e below s _ _ _ (T24.setTop (mkF m 111 #[.val (.long x0), .second, .val (.int x1), .val (.int x2), .val (.int x3), .val (.int x4), .val (.int x5), .val (.ref b1), .val (.int sA), .val (.int fA), .val (.int sB), .val (.int fB), .unset, .unset, .unset, .unset] []))
  obtain ⟨T27, h27, X27, e27, E27, A27, D27, -, st27⟩ := newO X24 hx hZ hown (hw _ (List.mem_of_getElem? (i := 6) rfl)) (hw _ (List.mem_of_getElem? (i := 7) rfl)) (hw _ (List.mem_of_getElem? (i := 8) rfl)) e24 (g := (mkF m 111 #[.val (.long x0), .second, .val (.int x1), .val (.int x2), .val (.int x3), .val (.int x4), .val (.int x5), .val (.ref b1), .val (.int sA), .val (.int fA), .val (.int sB), .val (.int fB), .unset, .unset, .unset, .unset] [])) rfl (hb hby at_111) (by decide) (by decide)
  obtain ⟨b27, g27⟩ : ∃ z, z = h24.size := ⟨_, rfl⟩
  rw [← g27] at A27 D27 st27
  have ne28 : b1 ≠ b27 := Nat.ne_of_lt (Nat.lt_of_lt_of_le Vg.lt (Nat.le_of_eq g27.symm))
  have gn27 : n0 ≤ b27 := Nat.le_trans Zs26 (Nat.le_of_eq g27.symm)
  have f29 := Vg.ext E27
  have F27_bytes : Fld Z h27 b27 "quotewright/StringView" "bytes" "[B" .null := D27 (Or.inl (hw _ (List.mem_of_getElem? (i := 16) rfl))) (ty := (.array .byte)) (by decide)
  have F27_start : Fld Z h27 b27 "quotewright/StringView" "start" "I" (.int (0 : Int32)) := D27 (Or.inl (hw _ (List.mem_of_getElem? (i := 23) rfl))) (ty := .int) (by decide)
  have F27_fieldLength : Fld Z h27 b27 "quotewright/StringView" "fieldLength" "I" (.int (0 : Int32)) := D27 (Or.inl (hw _ (List.mem_of_getElem? (i := 25) rfl))) (ty := .int) (by decide)
  have F27_length : Fld Z h27 b27 "quotewright/StringView" "length" "I" (.int (0 : Int32)) := D27 (Or.inl (hw _ (List.mem_of_getElem? (i := 27) rfl))) (ty := .int) (by decide)
  have Zs30 : n0 ≤ h27.size := Nat.le_trans Zs26 E27.1
  refine Ends.by ?_ st27
  show Ends p e below s _ _ _ (T27.setTop (mkF m 114 #[.val (.long x0), .second, .val (.int x1), .val (.int x2), .val (.int x3), .val (.int x4), .val (.int x5), .val (.ref b1), .val (.int sA), .val (.int fA), .val (.int sB), .val (.int fB), .unset, .unset, .unset, .unset] [(.ref b27)]))
  refine Ends.by ?_ (fun _ k => XS.dup X27.here hx rfl (hb hby at_114) rfl rfl k)
  show Ends p e below s _ _ _ (T27.setTop (mkF m 115 #[.val (.long x0), .second, .val (.int x1), .val (.int x2), .val (.int x3), .val (.int x4), .val (.int x5), .val (.ref b1), .val (.int sA), .val (.int fA), .val (.int sB), .val (.int fB), .unset, .unset, .unset, .unset] [(.ref b27), (.ref b27)]))
  obtain ⟨v31, _, ⟨T31, L31, k31, n31⟩, -, X31, ⟨Lc31, hQ31, l31, y31, z31⟩, st31⟩ := X27.specialBack hx (y := (⟨"quotewright/StringView", "<init>", "()V"⟩ : MethodName)) rfl hown (mvT hZ (hw _ (List.mem_of_getElem? (i := 9) rfl))) (mvT hZ (hw _ (List.mem_of_getElem? (i := 10) rfl))) (mvT hZ (hw _ (List.mem_of_getElem? (i := 11) rfl))) (by decide) (backOf (W := 1) (rm2 l Z a0 hw [] b27 h27 n0 Zs30 A27 F27_bytes F27_start F27_fieldLength F27_length gn27) hZ (hw _ (List.mem_of_getElem? (i := 11) rfl)) (hw _ (List.mem_of_getElem? (i := 8) rfl)) (by decide) (by decide)) (g := (mkF m 115 #[.val (.long x0), .second, .val (.int x1), .val (.int x2), .val (.int x3), .val (.int x4), .val (.int x5), .val (.ref b1), .val (.int sA), .val (.int fA), .val (.int sB), .val (.int fB), .unset, .unset, .unset, .unset] [(.ref b27), (.ref b27)])) rfl (by rw [hml]; rfl) (Steps.refl _) (a := b27) (argsL := []) (rest := [(.ref b27)]) (lenOf pd_1 rfl) rfl (by show 2 * 0 + _ ≤ _; exact Nat.le_of_eq rfl) (hb hby at_115) (fun _ _ => ⟨rfl, e27, (by decide : 2 + 1 ≤ _), (by decide : 10 + 0 ≤ _)⟩)
  dsimp only [Pt.U, Pt.locs, Pt.cells, Pt.slots] at X31 l31 y31 z31 st31 hQ31
  subst l31 y31 z31
  obtain ⟨rfl, N31q, K31, Ex31, ⟨bb31, Fa31⟩, Fb31, Fc31, Fd31⟩ := hQ31
  have N31 := Fr.app N24 N31q
  have f32 := f29.keep K31 (by simp [ne28])
  have f33 := A27.keep K31
  have Zs38 : n0 ≤ T31.heap.size := Nat.le_trans Zs30 K31.1
  refine Ends.go st31 ?_
  show Ends p e below s _ _ _ (T31.setTop (mkF m 118 #[.val (.long x0), .second, .val (.int x1), .val (.int x2), .val (.int x3), .val (.int x4), .val (.int x5), .val (.ref b1), .val (.int sA), .val (.int fA), .val (.int sB), .val (.int fB), .unset, .unset, .unset, .unset] [(.ref b27)]))
  refine Ends.by ?_ (fun _ k => XS.astore X31.here hx rfl (hb hby at_118) rfl rfl (l' := #[.val (.long x0), .second, .val (.int x1), .val (.int x2), .val (.int x3), .val (.int x4), .val (.int x5), .val (.ref b1), .val (.int sA), .val (.int fA), .val (.int sB), .val (.int fB), .val (.ref b27), .unset, .unset, .unset]) rfl k)
  show Ends p e below s _ _ _ (T31.setTop (mkF m 120 #[.val (.long x0), .second, .val (.int x1), .val (.int x2), .val (.int x3), .val (.int x4), .val (.int x5), .val (.ref b1), .val (.int sA), .val (.int fA), .val (.int sB), .val (.int fB), .val (.ref b27), .unset, .unset, .unset] []))
  refine Ends.by ?_ (fun _ k => XS.aload X31.here hx rfl (hb hby at_120) rfl rfl k)
  show Ends p e below s _ _ _ (T31.setTop (mkF m 122 #[.val (.long x0), .second, .val (.int x1), .val (.int x2), .val (.int x3), .val (.int x4), .val (.int x5), .val (.ref b1), .val (.int sA), .val (.int fA), .val (.int sB), .val (.int fB), .val (.ref b27), .unset, .unset, .unset] [(.ref b27)]))
  refine Ends.by ?_ (fun _ k => XS.aload X31.here hx rfl (hb hby at_122) rfl rfl k)
  show Ends p e below s _ _ _ (T31.setTop (mkF m 124 #[.val (.long x0), .second, .val (.int x1), .val (.int x2), .val (.int x3), .val (.int x4), .val (.int x5), .val (.ref b1), .val (.int sA), .val (.int fA), .val (.int sB), .val (.int fB), .val (.ref b27), .unset, .unset, .unset] [(.ref b1), (.ref b27)]))
  refine Ends.by ?_ (fun _ k => XS.iload X31.here hx rfl (hb hby at_124) rfl k)
  show Ends p e below s _ _ _ (T31.setTop (mkF m 126 #[.val (.long x0), .second, .val (.int x1), .val (.int x2), .val (.int x3), .val (.int x4), .val (.int x5), .val (.ref b1), .val (.int sA), .val (.int fA), .val (.int sB), .val (.int fB), .val (.ref b27), .unset, .unset, .unset] [(.int sA), (.ref b1), (.ref b27)]))
  refine Ends.by ?_ (fun _ k => XS.iload X31.here hx rfl (hb hby at_126) rfl k)
  show Ends p e below s _ _ _ (T31.setTop (mkF m 128 #[.val (.long x0), .second, .val (.int x1), .val (.int x2), .val (.int x3), .val (.int x4), .val (.int x5), .val (.ref b1), .val (.int sA), .val (.int fA), .val (.int sB), .val (.int fB), .val (.ref b27), .unset, .unset, .unset] [(.int fA), (.int sA), (.ref b1), (.ref b27)]))
  obtain ⟨cq39, kq39, q39a, q39b, q39c⟩ := isOf hZ rfl Ex31
  obtain ⟨v39, _, ⟨T39, L39, k39, n39⟩, -, X39, ⟨Lc39, hQ39, l39, y39, z39⟩, st39⟩ := X31.virtualBack hx (y := (⟨"quotewright/StringView", "wrap", "([BII)Lquotewright/StringView;"⟩ : MethodName)) (z := (⟨"quotewright/StringView", "wrap", "([BII)Lquotewright/StringView;"⟩ : MethodName)) hown (mvT hZ (hw _ (List.mem_of_getElem? (i := 17) rfl))) (mvT hZ (hw _ (List.mem_of_getElem? (i := 18) rfl))) (notFace_of_selects (args := #[]) (mvT hZ (hw _ (List.mem_of_getElem? (i := 20) rfl)))) (mvT hZ (hw _ (List.mem_of_getElem? (i := 20) rfl))) (mvT hZ (hw _ (List.mem_of_getElem? (i := 19) rfl))) (by decide) (backOf (W := 0) (rm4 l Z a0 hw [] b27 b1 sA fA (.ref bb31) (.int (0 : Int32)) (.int (0 : Int32)) (.int (0 : Int32)) T31.heap n0 Zs38 Ex31 Fa31 Fb31 Fc31 Fd31 gn27) hZ (hw _ (List.mem_of_getElem? (i := 21) rfl)) (hw _ (List.mem_of_getElem? (i := 8) rfl)) (by decide) (by decide)) q39a q39c (g := (mkF m 128 #[.val (.long x0), .second, .val (.int x1), .val (.int x2), .val (.int x3), .val (.int x4), .val (.int x5), .val (.ref b1), .val (.int sA), .val (.int fA), .val (.int sB), .val (.int fB), .val (.ref b27), .unset, .unset, .unset] [(.int fA), (.int sA), (.ref b1), (.ref b27)])) rfl (by rw [hml]; rfl) (Steps.refl _) (argsL := [(.ref b1), (.int sA), (.int fA)]) (rest := []) (lenOf pd_2 rfl) rfl (by show 2 * 0 + _ ≤ _; exact Nat.le_of_eq rfl) (hb hby at_128) (fun _ _ => ⟨rfl, rfl, (by decide : 3 + 0 ≤ _), (by decide : 10 + 0 ≤ _)⟩)
  dsimp only [Pt.U, Pt.locs, Pt.cells, Pt.slots] at X39 l39 y39 z39 st39 hQ39
  subst l39 y39 z39
  obtain ⟨rfl, N39q, K39, Ex39, Fa39, Fb39, Fc39, Fd39⟩ := hQ39
  have N39 := Fr.app N31 N39q
  have f40 := f32.keep K39 (by simp [ne28])
  have f41 := Ex31.keep K39
  have Zs46 : n0 ≤ T39.heap.size := Nat.le_trans Zs38 K39.1
  refine Ends.go st39 ?_
  show Ends p e below s _ _ _ (T39.setTop (mkF m 131 #[.val (.long x0), .second, .val (.int x1), .val (.int x2), .val (.int x3), .val (.int x4), .val (.int x5), .val (.ref b1), .val (.int sA), .val (.int fA), .val (.int sB), .val (.int fB), .val (.ref b27), .unset, .unset, .unset] [(.ref b27)]))
  refine Ends.by ?_ (fun _ k => XS.pop X39.here hx rfl (hb hby at_131) rfl rfl k)
  show Ends p e below s _ _ _ (T39.setTop (mkF m 132 #[.val (.long x0), .second, .val (.int x1), .val (.int x2), .val (.int x3), .val (.int x4), .val (.int x5), .val (.ref b1), .val (.int sA), .val (.int fA), .val (.int sB), .val (.int fB), .val (.ref b27), .unset, .unset, .unset] []))
  refine Ends.by ?_ (fun _ k => XS.aload X39.here hx rfl (hb hby at_132) rfl rfl k)
  show Ends p e below s _ _ _ (T39.setTop (mkF m 134 #[.val (.long x0), .second, .val (.int x1), .val (.int x2), .val (.int x3), .val (.int x4), .val (.int x5), .val (.ref b1), .val (.int sA), .val (.int fA), .val (.int sB), .val (.int fB), .val (.ref b27), .unset, .unset, .unset] [(.ref b27)]))
  obtain ⟨cq47, kq47, q47a, q47b, q47c⟩ := isOf hZ rfl Ex39
  obtain ⟨v47, _, ⟨T47, L47, k47, n47⟩, -, X47, ⟨Lc47, hQ47, l47, y47, z47⟩, st47⟩ := X39.virtualBack hx (y := (⟨"quotewright/StringView", "length", "()I"⟩ : MethodName)) (z := (⟨"quotewright/StringView", "length", "()I"⟩ : MethodName)) hown (mvT hZ (hw _ (List.mem_of_getElem? (i := 28) rfl))) (mvT hZ (hw _ (List.mem_of_getElem? (i := 29) rfl))) (notFace_of_selects (args := #[]) (mvT hZ (hw _ (List.mem_of_getElem? (i := 31) rfl)))) (mvT hZ (hw _ (List.mem_of_getElem? (i := 31) rfl))) (mvT hZ (hw _ (List.mem_of_getElem? (i := 30) rfl))) (by decide) (backOf (W := 0) (rmLa l Z a0 hw [] b27 b1 sA fA gg T39.heap n0 Zs46 f40 sA1 hsA hA6 ne28 Ex39 Fa39 Fb39 Fc39 Fd39 gn27) hZ (hw _ (List.mem_of_getElem? (i := 32) rfl)) (hw _ (List.mem_of_getElem? (i := 8) rfl)) (by decide) (by decide)) q47a q47c (g := (mkF m 134 #[.val (.long x0), .second, .val (.int x1), .val (.int x2), .val (.int x3), .val (.int x4), .val (.int x5), .val (.ref b1), .val (.int sA), .val (.int fA), .val (.int sB), .val (.int fB), .val (.ref b27), .unset, .unset, .unset] [(.ref b27)])) rfl (by rw [hml]; rfl) (Steps.refl _) (argsL := []) (rest := []) (lenOf pd_3 rfl) rfl (by show 2 * 0 + _ ≤ _; exact Nat.le_of_eq rfl) (hb hby at_134) (fun _ _ => ⟨rfl, rfl, (by decide : 3 + 0 ≤ _), (by decide : 10 + 0 ≤ _)⟩)
  dsimp only [Pt.U, Pt.locs, Pt.cells, Pt.slots] at X47 l47 y47 z47 st47 hQ47
  subst l47 y47 z47
  obtain ⟨rfl, N47q, K47, Ex47, Fa47, Fb47, Fc47, Fd47⟩ := hQ47
  have N47 := Fr.app N39 N47q
  have f48 := f40.keep K47 (by simp [ne28])
  have f49 := Ex39.keep K47
  have Zs54 : n0 ≤ T47.heap.size := Nat.le_trans Zs46 K47.1
  refine Ends.go st47 ?_
  show Ends p e below s _ _ _ (T47.setTop (mkF m 137 #[.val (.long x0), .second, .val (.int x1), .val (.int x2), .val (.int x3), .val (.int x4), .val (.int x5), .val (.ref b1), .val (.int sA), .val (.int fA), .val (.int sB), .val (.int fB), .val (.ref b27), .unset, .unset, .unset] [(.int (fLa b27 b1 sA fA gg))]))
  refine Ends.by ?_ (fun _ k => XS.istore X47.here hx rfl (hb hby at_137) rfl (l' := #[.val (.long x0), .second, .val (.int x1), .val (.int x2), .val (.int x3), .val (.int x4), .val (.int x5), .val (.ref b1), .val (.int sA), .val (.int fA), .val (.int sB), .val (.int fB), .val (.ref b27), .val (.int (fLa b27 b1 sA fA gg)), .unset, .unset]) rfl k)
  show Ends p e below s _ _ _ (T47.setTop (mkF m 139 #[.val (.long x0), .second, .val (.int x1), .val (.int x2), .val (.int x3), .val (.int x4), .val (.int x5), .val (.ref b1), .val (.int sA), .val (.int fA), .val (.int sB), .val (.int fB), .val (.ref b27), .val (.int (fLa b27 b1 sA fA gg)), .unset, .unset] []))
  refine Ends.by ?_ (fun _ k => XS.aload X47.here hx rfl (hb hby at_139) rfl rfl k)
  show Ends p e below s _ _ _ (T47.setTop (mkF m 141 #[.val (.long x0), .second, .val (.int x1), .val (.int x2), .val (.int x3), .val (.int x4), .val (.int x5), .val (.ref b1), .val (.int sA), .val (.int fA), .val (.int sB), .val (.int fB), .val (.ref b27), .val (.int (fLa b27 b1 sA fA gg)), .unset, .unset] [(.ref b27)]))
  obtain ⟨cq55, kq55, q55a, q55b, q55c⟩ := isOf hZ rfl Ex47
  obtain ⟨v55, _, ⟨T55, L55, k55, n55⟩, -, X55, ⟨Lc55, hQ55, l55, y55, z55⟩, st55⟩ := X47.virtualBack hx (y := (⟨"quotewright/StringView", "length", "()I"⟩ : MethodName)) (z := (⟨"quotewright/StringView", "length", "()I"⟩ : MethodName)) hown (mvT hZ (hw _ (List.mem_of_getElem? (i := 28) rfl))) (mvT hZ (hw _ (List.mem_of_getElem? (i := 29) rfl))) (notFace_of_selects (args := #[]) (mvT hZ (hw _ (List.mem_of_getElem? (i := 31) rfl)))) (mvT hZ (hw _ (List.mem_of_getElem? (i := 31) rfl))) (mvT hZ (hw _ (List.mem_of_getElem? (i := 30) rfl))) (by decide) (backOf (W := 0) (rmLb l Z a0 hw [] b27 (fLa b27 b1 sA fA gg) T47.heap n0 Zs54 Fd47 (own_len (xr := 0) sA1 fA1 hA6).2) hZ (hw _ (List.mem_of_getElem? (i := 32) rfl)) (hw _ (List.mem_of_getElem? (i := 8) rfl)) (by decide) (by decide)) q55a q55c (g := (mkF m 141 #[.val (.long x0), .second, .val (.int x1), .val (.int x2), .val (.int x3), .val (.int x4), .val (.int x5), .val (.ref b1), .val (.int sA), .val (.int fA), .val (.int sB), .val (.int fB), .val (.ref b27), .val (.int (fLa b27 b1 sA fA gg)), .unset, .unset] [(.ref b27)])) rfl (by rw [hml]; rfl) (Steps.refl _) (argsL := []) (rest := []) (lenOf pd_3 rfl) rfl (by show 2 * 0 + _ ≤ _; exact Nat.le_of_eq rfl) (hb hby at_141) (fun _ _ => ⟨rfl, rfl, (by decide : 3 + 0 ≤ _), (by decide : 10 + 0 ≤ _)⟩)
  dsimp only [Pt.U, Pt.locs, Pt.cells, Pt.slots] at X55 l55 y55 z55 st55 hQ55
  subst l55 y55 z55
  obtain ⟨rfl, N55q, e55⟩ := hQ55
  have N55 := Fr.app N47 N55q
  refine Ends.go st55 ?_
  show Ends p e below s _ _ _ (T55.setTop (mkF m 144 #[.val (.long x0), .second, .val (.int x1), .val (.int x2), .val (.int x3), .val (.int x4), .val (.int x5), .val (.ref b1), .val (.int sA), .val (.int fA), .val (.int sB), .val (.int fB), .val (.ref b27), .val (.int (fLa b27 b1 sA fA gg)), .unset, .unset] [(.int (fLa b27 b1 sA fA gg))]))
  refine Ends.by ?_ (fun _ k => XS.istore X55.here hx rfl (hb hby at_144) rfl (l' := #[.val (.long x0), .second, .val (.int x1), .val (.int x2), .val (.int x3), .val (.int x4), .val (.int x5), .val (.ref b1), .val (.int sA), .val (.int fA), .val (.int sB), .val (.int fB), .val (.ref b27), .val (.int (fLa b27 b1 sA fA gg)), .val (.int (fLa b27 b1 sA fA gg)), .unset]) rfl k)
  show Ends p e below s _ _ _ (T55.setTop (mkF m 146 #[.val (.long x0), .second, .val (.int x1), .val (.int x2), .val (.int x3), .val (.int x4), .val (.int x5), .val (.ref b1), .val (.int sA), .val (.int fA), .val (.int sB), .val (.int fB), .val (.ref b27), .val (.int (fLa b27 b1 sA fA gg)), .val (.int (fLa b27 b1 sA fA gg)), .unset] []))
  refine Ends.by ?_ (fun _ k => XS.aload X55.here hx rfl (hb hby at_146) rfl rfl k)
  show Ends p e below s _ _ _ (T55.setTop (mkF m 148 #[.val (.long x0), .second, .val (.int x1), .val (.int x2), .val (.int x3), .val (.int x4), .val (.int x5), .val (.ref b1), .val (.int sA), .val (.int fA), .val (.int sB), .val (.int fB), .val (.ref b27), .val (.int (fLa b27 b1 sA fA gg)), .val (.int (fLa b27 b1 sA fA gg)), .unset] [(.ref b27)]))
  refine Ends.by ?_ (fun _ k => XS.aload X55.here hx rfl (hb hby at_148) rfl rfl k)
  show Ends p e below s _ _ _ (T55.setTop (mkF m 150 #[.val (.long x0), .second, .val (.int x1), .val (.int x2), .val (.int x3), .val (.int x4), .val (.int x5), .val (.ref b1), .val (.int sA), .val (.int fA), .val (.int sB), .val (.int fB), .val (.ref b27), .val (.int (fLa b27 b1 sA fA gg)), .val (.int (fLa b27 b1 sA fA gg)), .unset] [(.ref b1), (.ref b27)]))
  refine Ends.by ?_ (fun _ k => XS.iload X55.here hx rfl (hb hby at_150) rfl k)
  show Ends p e below s _ _ _ (T55.setTop (mkF m 152 #[.val (.long x0), .second, .val (.int x1), .val (.int x2), .val (.int x3), .val (.int x4), .val (.int x5), .val (.ref b1), .val (.int sA), .val (.int fA), .val (.int sB), .val (.int fB), .val (.ref b27), .val (.int (fLa b27 b1 sA fA gg)), .val (.int (fLa b27 b1 sA fA gg)), .unset] [(.int sB), (.ref b1), (.ref b27)]))
  refine Ends.by ?_ (fun _ k => XS.iload X55.here hx rfl (hb hby at_152) rfl k)
  show Ends p e below s _ _ _ (T55.setTop (mkF m 154 #[.val (.long x0), .second, .val (.int x1), .val (.int x2), .val (.int x3), .val (.int x4), .val (.int x5), .val (.ref b1), .val (.int sA), .val (.int fA), .val (.int sB), .val (.int fB), .val (.ref b27), .val (.int (fLa b27 b1 sA fA gg)), .val (.int (fLa b27 b1 sA fA gg)), .unset] [(.int fB), (.int sB), (.ref b1), (.ref b27)]))
  obtain ⟨cq56, kq56, q56a, q56b, q56c⟩ := isOf hZ e55 Ex47
  obtain ⟨v56, _, ⟨T56, L56, k56, n56⟩, -, X56, ⟨Lc56, hQ56, l56, y56, z56⟩, st56⟩ := X55.virtualBack hx (y := (⟨"quotewright/StringView", "wrap", "([BII)Lquotewright/StringView;"⟩ : MethodName)) (z := (⟨"quotewright/StringView", "wrap", "([BII)Lquotewright/StringView;"⟩ : MethodName)) hown (mvT hZ (hw _ (List.mem_of_getElem? (i := 17) rfl))) (mvT hZ (hw _ (List.mem_of_getElem? (i := 18) rfl))) (notFace_of_selects (args := #[]) (mvT hZ (hw _ (List.mem_of_getElem? (i := 20) rfl)))) (mvT hZ (hw _ (List.mem_of_getElem? (i := 20) rfl))) (mvT hZ (hw _ (List.mem_of_getElem? (i := 19) rfl))) (by decide) (backOf (W := 0) (rm4 l Z a0 hw [] b27 b1 sB fB (.ref b1) (.int sA) (.int fA) (.int (fLa b27 b1 sA fA gg)) T47.heap n0 Zs54 Ex47 Fa47 Fb47 Fc47 Fd47 gn27) hZ (hw _ (List.mem_of_getElem? (i := 21) rfl)) (hw _ (List.mem_of_getElem? (i := 8) rfl)) (by decide) (by decide)) q56a q56c (g := (mkF m 154 #[.val (.long x0), .second, .val (.int x1), .val (.int x2), .val (.int x3), .val (.int x4), .val (.int x5), .val (.ref b1), .val (.int sA), .val (.int fA), .val (.int sB), .val (.int fB), .val (.ref b27), .val (.int (fLa b27 b1 sA fA gg)), .val (.int (fLa b27 b1 sA fA gg)), .unset] [(.int fB), (.int sB), (.ref b1), (.ref b27)])) rfl (by rw [hml]; rfl) (Steps.refl _) (argsL := [(.ref b1), (.int sB), (.int fB)]) (rest := []) (lenOf pd_2 rfl) rfl (by show 2 * 0 + _ ≤ _; exact Nat.le_of_eq rfl) (hb hby at_154) (fun _ _ => ⟨rfl, e55, (by decide : 3 + 0 ≤ _), (by decide : 10 + 0 ≤ _)⟩)
  dsimp only [Pt.U, Pt.locs, Pt.cells, Pt.slots] at X56 l56 y56 z56 st56 hQ56
  subst l56 y56 z56
  obtain ⟨rfl, N56q, K56, Ex56, Fa56, Fb56, Fc56, Fd56⟩ := hQ56
  have N56 := Fr.app N55 N56q
  have f57 := f48.keep K56 (by simp [ne28])
  have f58 := Ex47.keep K56
  have Zs63 : n0 ≤ T56.heap.size := Nat.le_trans Zs54 K56.1
  refine Ends.go st56 ?_
  show Ends p e below s _ _ _ (T56.setTop (mkF m 157 #[.val (.long x0), .second, .val (.int x1), .val (.int x2), .val (.int x3), .val (.int x4), .val (.int x5), .val (.ref b1), .val (.int sA), .val (.int fA), .val (.int sB), .val (.int fB), .val (.ref b27), .val (.int (fLa b27 b1 sA fA gg)), .val (.int (fLa b27 b1 sA fA gg)), .unset] [(.ref b27)]))
  refine Ends.by ?_ (fun _ k => XS.pop X56.here hx rfl (hb hby at_157) rfl rfl k)
  show Ends p e below s _ _ _ (T56.setTop (mkF m 158 #[.val (.long x0), .second, .val (.int x1), .val (.int x2), .val (.int x3), .val (.int x4), .val (.int x5), .val (.ref b1), .val (.int sA), .val (.int fA), .val (.int sB), .val (.int fB), .val (.ref b27), .val (.int (fLa b27 b1 sA fA gg)), .val (.int (fLa b27 b1 sA fA gg)), .unset] []))
  refine Ends.by ?_ (fun _ k => XS.aload X56.here hx rfl (hb hby at_158) rfl rfl k)
  show Ends p e below s _ _ _ (T56.setTop (mkF m 160 #[.val (.long x0), .second, .val (.int x1), .val (.int x2), .val (.int x3), .val (.int x4), .val (.int x5), .val (.ref b1), .val (.int sA), .val (.int fA), .val (.int sB), .val (.int fB), .val (.ref b27), .val (.int (fLa b27 b1 sA fA gg)), .val (.int (fLa b27 b1 sA fA gg)), .unset] [(.ref b27)]))
  obtain ⟨cq64, kq64, q64a, q64b, q64c⟩ := isOf hZ rfl Ex56
  obtain ⟨v64, _, ⟨T64, L64, k64, n64⟩, -, X64, ⟨Lc64, hQ64, l64, y64, z64⟩, st64⟩ := X56.virtualBack hx (y := (⟨"quotewright/StringView", "length", "()I"⟩ : MethodName)) (z := (⟨"quotewright/StringView", "length", "()I"⟩ : MethodName)) hown (mvT hZ (hw _ (List.mem_of_getElem? (i := 28) rfl))) (mvT hZ (hw _ (List.mem_of_getElem? (i := 29) rfl))) (notFace_of_selects (args := #[]) (mvT hZ (hw _ (List.mem_of_getElem? (i := 31) rfl)))) (mvT hZ (hw _ (List.mem_of_getElem? (i := 31) rfl))) (mvT hZ (hw _ (List.mem_of_getElem? (i := 30) rfl))) (by decide) (backOf (W := 0) (rmLa l Z a0 hw [] b27 b1 sB fB gg T56.heap n0 Zs63 f57 sB1 hsB hB6 ne28 Ex56 Fa56 Fb56 Fc56 Fd56 gn27) hZ (hw _ (List.mem_of_getElem? (i := 32) rfl)) (hw _ (List.mem_of_getElem? (i := 8) rfl)) (by decide) (by decide)) q64a q64c (g := (mkF m 160 #[.val (.long x0), .second, .val (.int x1), .val (.int x2), .val (.int x3), .val (.int x4), .val (.int x5), .val (.ref b1), .val (.int sA), .val (.int fA), .val (.int sB), .val (.int fB), .val (.ref b27), .val (.int (fLa b27 b1 sA fA gg)), .val (.int (fLa b27 b1 sA fA gg)), .unset] [(.ref b27)])) rfl (by rw [hml]; rfl) (Steps.refl _) (argsL := []) (rest := []) (lenOf pd_3 rfl) rfl (by show 2 * 0 + _ ≤ _; exact Nat.le_of_eq rfl) (hb hby at_160) (fun _ _ => ⟨rfl, rfl, (by decide : 3 + 0 ≤ _), (by decide : 10 + 0 ≤ _)⟩)
  dsimp only [Pt.U, Pt.locs, Pt.cells, Pt.slots] at X64 l64 y64 z64 st64 hQ64
  subst l64 y64 z64
  obtain ⟨rfl, N64q, K64, Ex64, Fa64, Fb64, Fc64, Fd64⟩ := hQ64
  have N64 := Fr.app N56 N64q
  have f65 := f57.keep K64 (by simp [ne28])
  have f66 := Ex56.keep K64
  have Zs71 : n0 ≤ T64.heap.size := Nat.le_trans Zs63 K64.1
  refine Ends.go st64 ?_
  show Ends p e below s _ _ _ (T64.setTop (mkF m 163 #[.val (.long x0), .second, .val (.int x1), .val (.int x2), .val (.int x3), .val (.int x4), .val (.int x5), .val (.ref b1), .val (.int sA), .val (.int fA), .val (.int sB), .val (.int fB), .val (.ref b27), .val (.int (fLa b27 b1 sA fA gg)), .val (.int (fLa b27 b1 sA fA gg)), .unset] [(.int (fLa b27 b1 sB fB gg))]))
  refine Ends.by ?_ (fun _ k => XS.istore X64.here hx rfl (hb hby at_163) rfl (l' := #[.val (.long x0), .second, .val (.int x1), .val (.int x2), .val (.int x3), .val (.int x4), .val (.int x5), .val (.ref b1), .val (.int sA), .val (.int fA), .val (.int sB), .val (.int fB), .val (.ref b27), .val (.int (fLa b27 b1 sA fA gg)), .val (.int (fLa b27 b1 sA fA gg)), .val (.int (fLa b27 b1 sB fB gg))]) rfl k)
  show Ends p e below s _ _ _ (T64.setTop (mkF m 165 #[.val (.long x0), .second, .val (.int x1), .val (.int x2), .val (.int x3), .val (.int x4), .val (.int x5), .val (.ref b1), .val (.int sA), .val (.int fA), .val (.int sB), .val (.int fB), .val (.ref b27), .val (.int (fLa b27 b1 sA fA gg)), .val (.int (fLa b27 b1 sA fA gg)), .val (.int (fLa b27 b1 sB fB gg))] []))
  refine Ends.by ?_ (fun _ k => XS.iload X64.here hx rfl (hb hby at_165) rfl k)
  show Ends p e below s _ _ _ (T64.setTop (mkF m 167 #[.val (.long x0), .second, .val (.int x1), .val (.int x2), .val (.int x3), .val (.int x4), .val (.int x5), .val (.ref b1), .val (.int sA), .val (.int fA), .val (.int sB), .val (.int fB), .val (.ref b27), .val (.int (fLa b27 b1 sA fA gg)), .val (.int (fLa b27 b1 sA fA gg)), .val (.int (fLa b27 b1 sB fB gg))] [(.int (fLa b27 b1 sA fA gg))]))
  refine Ends.by ?_ (fun _ k => XS.aload X64.here hx rfl (hb hby at_167) rfl rfl k)
  show Ends p e below s _ _ _ (T64.setTop (mkF m 169 #[.val (.long x0), .second, .val (.int x1), .val (.int x2), .val (.int x3), .val (.int x4), .val (.int x5), .val (.ref b1), .val (.int sA), .val (.int fA), .val (.int sB), .val (.int fB), .val (.ref b27), .val (.int (fLa b27 b1 sA fA gg)), .val (.int (fLa b27 b1 sA fA gg)), .val (.int (fLa b27 b1 sB fB gg))] [(.ref b1), (.int (fLa b27 b1 sA fA gg))]))
  refine Ends.by ?_ (fun _ k => XS.iload X64.here hx rfl (hb hby at_169) rfl k)
  show Ends p e below s _ _ _ (T64.setTop (mkF m 171 #[.val (.long x0), .second, .val (.int x1), .val (.int x2), .val (.int x3), .val (.int x4), .val (.int x5), .val (.ref b1), .val (.int sA), .val (.int fA), .val (.int sB), .val (.int fB), .val (.ref b27), .val (.int (fLa b27 b1 sA fA gg)), .val (.int (fLa b27 b1 sA fA gg)), .val (.int (fLa b27 b1 sB fB gg))] [(.int sA), (.ref b1), (.int (fLa b27 b1 sA fA gg))]))
  refine Ends.by ?_ (fun _ k => XS.iload X64.here hx rfl (hb hby at_171) rfl k)
  show Ends p e below s _ _ _ (T64.setTop (mkF m 173 #[.val (.long x0), .second, .val (.int x1), .val (.int x2), .val (.int x3), .val (.int x4), .val (.int x5), .val (.ref b1), .val (.int sA), .val (.int fA), .val (.int sB), .val (.int fB), .val (.ref b27), .val (.int (fLa b27 b1 sA fA gg)), .val (.int (fLa b27 b1 sA fA gg)), .val (.int (fLa b27 b1 sB fB gg))] [(.int fA), (.int sA), (.ref b1), (.int (fLa b27 b1 sA fA gg))]))
  obtain ⟨v72, _, ⟨T72, L72, k72, n72⟩, -, X72, ⟨Lc72, hQ72, l72, y72, z72⟩, st72⟩ := Jvm.LawKit.callS X64 hx (y := (⟨"quotewright/StringViewLengthPinLaw", "ref", "([BII)I"⟩ : MethodName)) hown (mvT hZ (hw _ (List.mem_of_getElem? (i := 33) rfl))) (mvT hZ (hw _ (List.mem_of_getElem? (i := 34) rfl))) (mvT hZ (hw _ (List.mem_of_getElem? (i := 3) rfl))) (mvT hZ (hw _ (List.mem_of_getElem? (i := 35) rfl))) (by decide) (backOf (W := 1) (rm6 l Z a0 hw [] b1 sA fA gg T64.heap n0 Zs71 f65 sA1 hsA) hZ (hw _ (List.mem_of_getElem? (i := 35) rfl)) (hw _ (List.mem_of_getElem? (i := 3) rfl)) (by decide) (by decide)) (g := (mkF m 173 #[.val (.long x0), .second, .val (.int x1), .val (.int x2), .val (.int x3), .val (.int x4), .val (.int x5), .val (.ref b1), .val (.int sA), .val (.int fA), .val (.int sB), .val (.int fB), .val (.ref b27), .val (.int (fLa b27 b1 sA fA gg)), .val (.int (fLa b27 b1 sA fA gg)), .val (.int (fLa b27 b1 sB fB gg))] [(.int fA), (.int sA), (.ref b1), (.int (fLa b27 b1 sA fA gg))])) rfl (by rw [hml]; rfl) (argsL := [(.ref b1), (.int sA), (.int fA)]) (rest := [(.int (fLa b27 b1 sA fA gg))]) (lenOf pd_4 rfl) rfl (by show 2 * 0 + _ ≤ _; exact Nat.le_of_eq rfl) (hb hby at_173) (fun _ _ => ⟨rfl, rfl, (by decide : 3 + 0 ≤ _), (by decide : 10 + 0 ≤ _)⟩)
  dsimp only [Pt.U, Pt.locs, Pt.cells, Pt.slots] at X72 l72 y72 z72 st72 hQ72
  subst l72 y72 z72
  obtain ⟨rfl, N72q, e72⟩ := hQ72
  have N72 := Fr.app N64 N72q
  refine Ends.by ?_ st72
  show Ends p e below s _ _ _ (T72.setTop (mkF m 176 #[.val (.long x0), .second, .val (.int x1), .val (.int x2), .val (.int x3), .val (.int x4), .val (.int x5), .val (.ref b1), .val (.int sA), .val (.int fA), .val (.int sB), .val (.int fB), .val (.ref b27), .val (.int (fLa b27 b1 sA fA gg)), .val (.int (fLa b27 b1 sA fA gg)), .val (.int (fLa b27 b1 sB fB gg))] [(.int (f6 b1 sA fA gg)), (.int (fLa b27 b1 sA fA gg))]))
  refine Ends.by ?_ (fun _ k => XS.icmpNo X72.here hx rfl (hb hby at_176) rfl (XT.ii_ne_f ((own_len sA1 fA1 hA6).1 : (fLa b27 b1 sA fA gg) = (f6 b1 sA fA gg))) k)
  show Ends p e below s _ _ _ (T72.setTop (mkF m 179 #[.val (.long x0), .second, .val (.int x1), .val (.int x2), .val (.int x3), .val (.int x4), .val (.int x5), .val (.ref b1), .val (.int sA), .val (.int fA), .val (.int sB), .val (.int fB), .val (.ref b27), .val (.int (fLa b27 b1 sA fA gg)), .val (.int (fLa b27 b1 sA fA gg)), .val (.int (fLa b27 b1 sB fB gg))] []))
  refine Ends.by ?_ (fun _ k => XS.iload X72.here hx rfl (hb hby at_179) rfl k)
  show Ends p e below s _ _ _ (T72.setTop (mkF m 181 #[.val (.long x0), .second, .val (.int x1), .val (.int x2), .val (.int x3), .val (.int x4), .val (.int x5), .val (.ref b1), .val (.int sA), .val (.int fA), .val (.int sB), .val (.int fB), .val (.ref b27), .val (.int (fLa b27 b1 sA fA gg)), .val (.int (fLa b27 b1 sA fA gg)), .val (.int (fLa b27 b1 sB fB gg))] [(.int (fLa b27 b1 sA fA gg))]))
  refine Ends.by ?_ (fun _ k => XS.iload X72.here hx rfl (hb hby at_181) rfl k)
  show Ends p e below s _ _ _ (T72.setTop (mkF m 183 #[.val (.long x0), .second, .val (.int x1), .val (.int x2), .val (.int x3), .val (.int x4), .val (.int x5), .val (.ref b1), .val (.int sA), .val (.int fA), .val (.int sB), .val (.int fB), .val (.ref b27), .val (.int (fLa b27 b1 sA fA gg)), .val (.int (fLa b27 b1 sA fA gg)), .val (.int (fLa b27 b1 sB fB gg))] [(.int (fLa b27 b1 sA fA gg)), (.int (fLa b27 b1 sA fA gg))]))
  refine Ends.by ?_ (fun _ k => XS.icmpNo X72.here hx rfl (hb hby at_183) rfl (XT.ii_ne_f (rfl : (fLa b27 b1 sA fA gg) = (fLa b27 b1 sA fA gg))) k)
  show Ends p e below s _ _ _ (T72.setTop (mkF m 186 #[.val (.long x0), .second, .val (.int x1), .val (.int x2), .val (.int x3), .val (.int x4), .val (.int x5), .val (.ref b1), .val (.int sA), .val (.int fA), .val (.int sB), .val (.int fB), .val (.ref b27), .val (.int (fLa b27 b1 sA fA gg)), .val (.int (fLa b27 b1 sA fA gg)), .val (.int (fLa b27 b1 sB fB gg))] []))
  refine Ends.by ?_ (fun _ k => XS.iload X72.here hx rfl (hb hby at_186) rfl k)
  show Ends p e below s _ _ _ (T72.setTop (mkF m 188 #[.val (.long x0), .second, .val (.int x1), .val (.int x2), .val (.int x3), .val (.int x4), .val (.int x5), .val (.ref b1), .val (.int sA), .val (.int fA), .val (.int sB), .val (.int fB), .val (.ref b27), .val (.int (fLa b27 b1 sA fA gg)), .val (.int (fLa b27 b1 sA fA gg)), .val (.int (fLa b27 b1 sB fB gg))] [(.int (fLa b27 b1 sB fB gg))]))
  refine Ends.by ?_ (fun _ k => XS.aload X72.here hx rfl (hb hby at_188) rfl rfl k)
  show Ends p e below s _ _ _ (T72.setTop (mkF m 190 #[.val (.long x0), .second, .val (.int x1), .val (.int x2), .val (.int x3), .val (.int x4), .val (.int x5), .val (.ref b1), .val (.int sA), .val (.int fA), .val (.int sB), .val (.int fB), .val (.ref b27), .val (.int (fLa b27 b1 sA fA gg)), .val (.int (fLa b27 b1 sA fA gg)), .val (.int (fLa b27 b1 sB fB gg))] [(.ref b1), (.int (fLa b27 b1 sB fB gg))]))
  refine Ends.by ?_ (fun _ k => XS.iload X72.here hx rfl (hb hby at_190) rfl k)
  show Ends p e below s _ _ _ (T72.setTop (mkF m 192 #[.val (.long x0), .second, .val (.int x1), .val (.int x2), .val (.int x3), .val (.int x4), .val (.int x5), .val (.ref b1), .val (.int sA), .val (.int fA), .val (.int sB), .val (.int fB), .val (.ref b27), .val (.int (fLa b27 b1 sA fA gg)), .val (.int (fLa b27 b1 sA fA gg)), .val (.int (fLa b27 b1 sB fB gg))] [(.int sB), (.ref b1), (.int (fLa b27 b1 sB fB gg))]))
  refine Ends.by ?_ (fun _ k => XS.iload X72.here hx rfl (hb hby at_192) rfl k)
  show Ends p e below s _ _ _ (T72.setTop (mkF m 194 #[.val (.long x0), .second, .val (.int x1), .val (.int x2), .val (.int x3), .val (.int x4), .val (.int x5), .val (.ref b1), .val (.int sA), .val (.int fA), .val (.int sB), .val (.int fB), .val (.ref b27), .val (.int (fLa b27 b1 sA fA gg)), .val (.int (fLa b27 b1 sA fA gg)), .val (.int (fLa b27 b1 sB fB gg))] [(.int fB), (.int sB), (.ref b1), (.int (fLa b27 b1 sB fB gg))]))
  obtain ⟨v73, _, ⟨T73, L73, k73, n73⟩, -, X73, ⟨Lc73, hQ73, l73, y73, z73⟩, st73⟩ := Jvm.LawKit.callS X72 hx (y := (⟨"quotewright/StringViewLengthPinLaw", "ref", "([BII)I"⟩ : MethodName)) hown (mvT hZ (hw _ (List.mem_of_getElem? (i := 33) rfl))) (mvT hZ (hw _ (List.mem_of_getElem? (i := 34) rfl))) (mvT hZ (hw _ (List.mem_of_getElem? (i := 3) rfl))) (mvT hZ (hw _ (List.mem_of_getElem? (i := 35) rfl))) (by decide) (backOf (W := 1) (rm6 l Z a0 hw [] b1 sB fB gg T64.heap n0 Zs71 f65 sB1 hsB) hZ (hw _ (List.mem_of_getElem? (i := 35) rfl)) (hw _ (List.mem_of_getElem? (i := 3) rfl)) (by decide) (by decide)) (g := (mkF m 194 #[.val (.long x0), .second, .val (.int x1), .val (.int x2), .val (.int x3), .val (.int x4), .val (.int x5), .val (.ref b1), .val (.int sA), .val (.int fA), .val (.int sB), .val (.int fB), .val (.ref b27), .val (.int (fLa b27 b1 sA fA gg)), .val (.int (fLa b27 b1 sA fA gg)), .val (.int (fLa b27 b1 sB fB gg))] [(.int fB), (.int sB), (.ref b1), (.int (fLa b27 b1 sB fB gg))])) rfl (by rw [hml]; rfl) (argsL := [(.ref b1), (.int sB), (.int fB)]) (rest := [(.int (fLa b27 b1 sB fB gg))]) (lenOf pd_4 rfl) rfl (by show 2 * 0 + _ ≤ _; exact Nat.le_of_eq rfl) (hb hby at_194) (fun _ _ => ⟨rfl, e72, (by decide : 3 + 0 ≤ _), (by decide : 10 + 0 ≤ _)⟩)
  dsimp only [Pt.U, Pt.locs, Pt.cells, Pt.slots] at X73 l73 y73 z73 st73 hQ73
  subst l73 y73 z73
  obtain ⟨rfl, N73q, e73⟩ := hQ73
  have N73 := Fr.app N72 N73q
  refine Ends.by ?_ st73
  show Ends p e below s _ _ _ (T73.setTop (mkF m 197 #[.val (.long x0), .second, .val (.int x1), .val (.int x2), .val (.int x3), .val (.int x4), .val (.int x5), .val (.ref b1), .val (.int sA), .val (.int fA), .val (.int sB), .val (.int fB), .val (.ref b27), .val (.int (fLa b27 b1 sA fA gg)), .val (.int (fLa b27 b1 sA fA gg)), .val (.int (fLa b27 b1 sB fB gg))] [(.int (f6 b1 sB fB gg)), (.int (fLa b27 b1 sB fB gg))]))
  refine Ends.by ?_ (fun _ k => XS.icmpNo X73.here hx rfl (hb hby at_197) rfl (XT.ii_ne_f ((own_len sB1 fB1 hB6).1 : (fLa b27 b1 sB fB gg) = (f6 b1 sB fB gg))) k)
  show Ends p e below s _ _ _ (T73.setTop (mkF m 200 #[.val (.long x0), .second, .val (.int x1), .val (.int x2), .val (.int x3), .val (.int x4), .val (.int x5), .val (.ref b1), .val (.int sA), .val (.int fA), .val (.int sB), .val (.int fB), .val (.ref b27), .val (.int (fLa b27 b1 sA fA gg)), .val (.int (fLa b27 b1 sA fA gg)), .val (.int (fLa b27 b1 sB fB gg))] []))
  refine Ends.by ?_ (fun _ k => XS.iconst X73.here hx rfl (hb hby at_200) k)
  show Ends p e below s _ _ _ (T73.setTop (mkF m 201 #[.val (.long x0), .second, .val (.int x1), .val (.int x2), .val (.int x3), .val (.int x4), .val (.int x5), .val (.ref b1), .val (.int sA), .val (.int fA), .val (.int sB), .val (.int fB), .val (.ref b27), .val (.int (fLa b27 b1 sA fA gg)), .val (.int (fLa b27 b1 sA fA gg)), .val (.int (fLa b27 b1 sB fB gg))] [(.int (1 : Int32))]))
  refine Ends.by ?_ (fun _ k => XS.goto X73.here hx rfl (pc0 := 201) (pc' := 205) rfl (hb hby at_201) (by decide) (by decide) k)
  show Ends p e below s _ _ _ (T73.setTop (mkF m 205 #[.val (.long x0), .second, .val (.int x1), .val (.int x2), .val (.int x3), .val (.int x4), .val (.int x5), .val (.ref b1), .val (.int sA), .val (.int fA), .val (.int sB), .val (.int fB), .val (.ref b27), .val (.int (fLa b27 b1 sA fA gg)), .val (.int (fLa b27 b1 sA fA gg)), .val (.int (fLa b27 b1 sB fB gg))] [(.int (1 : Int32))]))
  exact Ends.retN X73 hx Bd.notSynchronized Bd.returns (t := .boolean) (by simp) (hb hby at_205) (w := 1) rfl ⟨rfl, N73⟩ (by decide) (by decide)

set_option maxRecDepth 65536 in
set_option maxHeartbeats 40000000 in
theorem comes_1 {Post : Tables → Env → Array Value → State → Outcome → State → Prop} (hpost : ∀ tb e args s v u, (limb_1_1.after args s (.returned v) u = true ∧ limb_1_2.after args s (.returned v) u = true ∧ True) → FrameEnd s (.returned v) u (Jvm.fieldLocs frame_1_writes args s ++ Jvm.arrayLocs frame_1_arrays args s ++ Jvm.staticLocs frame_1_statics s) 16 128 → Post tb e args s (.returned v) u) :
    ArmFor flags0 classFile x code maxLocals ret World_1 tables_1 room_1 Calls_1 rest_1 Pre_1 Post := by
  intro l hfl _ _ p e ha hc hk s m args below hf hA hF happ hP
  obtain ⟨hcalls, hrest, hpre⟩ := hP
  obtain ⟨-, -, -, hnamed, -, -, -, hat⟩ := (Spec.applies_iff hf).mp happ
  obtain ⟨hg, hn⟩ := and_e (Cond.before_iff.mp (show (Jvm.Cond.and given_1 narrow_1).before args s = true from hpre))
  obtain ⟨g1, g2⟩ := and_e hg
  obtain ⟨g3, g4⟩ := and_e g2
  obtain ⟨g5, g6⟩ := and_e g4
  obtain ⟨g7, g8⟩ := and_e g6
  obtain ⟨g9, g10⟩ := and_e g8
  obtain ⟨g11, g12⟩ := and_e g10
  obtain ⟨w0, w1, w2, w3, w4, w5, rfl⟩ : ∃ w0 w1 w2 w3 w4 w5 : Value, args = #[w0, w1, w2, w3, w4, w5] := by
    have hs : args.size = 6 := by simpa [Cond.value, given_1] using g1
    obtain ⟨L⟩ := args
    match L, hs with
    | [w0, w1, w2, w3, w4, w5], _ => exact ⟨w0, w1, w2, w3, w4, w5, rfl⟩
  have hw := fun d (hd : d ∈ tables_1) => atoms_spec (ws := Jvm.Cond.code x code maxLocals ret :: tables_1) hat d (List.mem_cons_of_mem _ hd)
  obtain ⟨i0, ei0⟩ := isL_v g3
  obtain rfl : w0 = (.long i0) := Option.some.inj ei0
  obtain ⟨i1, ei1⟩ := is_v g5
  obtain rfl : w1 = (.int i1) := Option.some.inj ei1
  obtain ⟨i2, ei2⟩ := is_v g7
  obtain rfl : w2 = (.int i2) := Option.some.inj ei2
  obtain ⟨i3, ei3⟩ := is_v g9
  obtain rfl : w3 = (.int i3) := Option.some.inj ei3
  obtain ⟨i4, ei4⟩ := is_v g11
  obtain rfl : w4 = (.int i4) := Option.some.inj ei4
  obtain ⟨i5, ei5⟩ := is_v g12
  obtain rfl : w5 = (.int i5) := Option.some.inj ei5
  obtain ⟨n, o, h1, h2, h3, v, L, rfl, hQ, hq⟩ := rm0 l s _ hw tables_1 i0 i1 i2 i3 i4 i5 s.heap s.heap.size (Nat.le_refl _) p e ha hc hk s m _ below hf ((Spec.applies_iff_loose hf).mp happ).1 ⟨rfl, State.Warmed39.refl s, rfl⟩ trivial
  obtain ⟨rfl, N⟩ := hQ
  refine ⟨n, _, h1, h2, h3, hpost _ _ _ _ _ _ ⟨Cond.after_iff.mpr rfl, Cond.after_iff.mpr (eq_i res_at (Term.int_eval (1)) rfl), trivial⟩ ⟨hq.1, hq.2.1, (hq.2.2.sift fun y hy => Or.inr (N y hy)).mono (by decide) (by decide)⟩⟩
theorem main_1_1 : Claimed_1_1 := comes_1 fun _ _ _ _ _ _ h hF => ⟨h.1, hF⟩
theorem main_1_2 : Claimed_1_2 := comes_1 fun _ _ _ _ _ _ h hF => ⟨h.2.1, hF⟩
end Jvm.Pilot.@@N@@
namespace Jvm.Pilot.@@N@@
open Jvm Jvm.ClassFile Sem Op Lib Jvm.Free Jvm.Stand Jvm.Pilot.@@N@@.Jvm.D
/-! MADE BY PROGRAM (witnessworld.py) out of the Statement's table words and the real class files: 10 classes; the members and pool entries that the words name. The judged class is class 1, her method 1. -/
namespace start1
open Jvm.ClassFile
def u (s : String) : CpInfo := .utf8 (stringToUtf16 s)
/-- a pool by its gaps: so many unusable entries, then the entry; so many at the end -/
def gap : Nat → List CpInfo → List CpInfo
  | 0, r => r
  | n + 1, r => .unusable :: gap n r
def poolList (es : List (Nat × CpInfo)) (last : Nat) : List CpInfo := es.foldr (fun e r => gap e.1 (e.2 :: r)) (gap last [])
def pool (es : List (Nat × CpInfo)) (last : Nat) : Array CpInfo := ⟨poolList es last⟩
def fileOf (pool : Array CpInfo) (this : Nat) (attrs : Array Attribute := #[]) (ms : Array MethodInfo := #[]) (fl : Nat := 33) (sup : Nat := 0) (ifs : Array Nat := #[]) (fds : Array FieldInfo := #[]) : ClassFile where
  minorVersion := 0
  majorVersion := 65
  constantPool := pool
  accessFlags := fl
  thisClass := this
  superClass := sup
  interfaces := ifs
  fields := fds
  methods := ms
  attributes := attrs
def plain (name : String) (sup : Option ClassId) : Class where
  name := name
  kind := .ordinary
  loader := none
  accessFlags := 33
  super := sup
  interfaces := #[]
  cf := none
  fields := #[]
  methods := #[]
  instanceTypes := #[]
  staticTypes := #[]
  resolved := #[]
  callSites := []
  init := .initialized
  statics := none
  mirror := none

def pool0 : Array CpInfo := pool [(5, u "<init>"), (0, u "()V"), (1, .class_ 10), (1, u "java/lang/Object")] 113

def k0c0 : Code := { maxStack := 0, maxLocals := 1, code := object_method_1_code, exceptionTable := #[], attributes := #[] }
def k0m0 : Method := { name := "<init>", desc := "()V", sig := { parameters := [], returnType := none }, accessFlags := 1, code := some k0c0 }
/-- java/lang/Object -/
def k0 : Class := { plain "java/lang/Object" none with
  accessFlags := 33
  interfaces := #[]
  cf := some (fileOf pool0 8 #[] #[{ accessFlags := 1, nameIndex := 5, descriptorIndex := 6, attributes := #[] }] 33 0 #[] #[])
  fields := #[]
  methods := #[k0m0]
  instanceTypes := #[]
  staticTypes := #[]
  resolved := Array.replicate 124 none
  statics := none }

def pool1 : Array CpInfo := pool [(2, .class_ 4), (0, .nameAndType 5 6), (0, u "java/lang/Object"), (0, u "<init>"), (0, u "()V"), (0, .methodref 8 9), (0, .class_ 10), (0, .nameAndType 11 12), (0, u "quotewright/StringViewLengthPinLaw"), (0, u "pick"), (0, u "(JII)B"), (0, .integer 2147483647), (0, .class_ 15), (0, u "quotewright/StringView"), (0, .methodref 14 3), (0, .methodref 14 18), (0, .nameAndType 19 20), (0, u "wrap"), (0, u "([BII)Lquotewright/StringView;"), (0, .methodref 14 22), (0, .nameAndType 23 24), (0, u "length"), (0, u "()I"), (0, .methodref 8 26), (0, .nameAndType 27 28), (0, u "ref"), (0, u "([BII)I"), (2, u "law"), (0, u "(JIIIII)Z")] 5

def k1m0 : Method := { name := "<init>", desc := "()V", sig := { parameters := [], returnType := none }, accessFlags := 1, code := none }
def k1c1 : Code := { maxStack := 6, maxLocals := 16, code := code, exceptionTable := #[], attributes := #[] }
def k1m1 : Method := { name := "law", desc := "(JIIIII)Z", sig := { parameters := [.long, .int, .int, .int, .int, .int], returnType := some .boolean }, accessFlags := 9, code := some k1c1 }
def k1c2 : Code := { maxStack := 4, maxLocals := 4, code := method_3_code, exceptionTable := #[], attributes := #[] }
def k1m2 : Method := { name := "pick", desc := "(JII)B", sig := { parameters := [.long, .int, .int], returnType := some .byte }, accessFlags := 10, code := some k1c2 }
def k1c3 : Code := { maxStack := 3, maxLocals := 3, code := method_4_code, exceptionTable := #[], attributes := #[] }
def k1m3 : Method := { name := "ref", desc := "([BII)I", sig := { parameters := [(.array .byte), .int, .int], returnType := some .int }, accessFlags := 10, code := some k1c3 }
/-- quotewright/StringViewLengthPinLaw -/
def k1 : Class := { plain "quotewright/StringViewLengthPinLaw" (some 0) with
  accessFlags := 49
  interfaces := #[]
  cf := some (fileOf pool1 8 #[] #[{ accessFlags := 1, nameIndex := 5, descriptorIndex := 6, attributes := #[] }, { accessFlags := 9, nameIndex := 31, descriptorIndex := 32, attributes := #[] }, { accessFlags := 10, nameIndex := 11, descriptorIndex := 12, attributes := #[] }, { accessFlags := 10, nameIndex := 27, descriptorIndex := 28, attributes := #[] }] 49 2 #[] #[])
  fields := #[]
  methods := #[k1m0, k1m1, k1m2, k1m3]
  instanceTypes := #[]
  staticTypes := #[]
  resolved := Array.replicate 38 none
  statics := none }

def pool2 : Array CpInfo := pool [(2, .class_ 4), (1, u "java/lang/CharSequence"), (42, .class_ 48), (0, u "java/lang/CharSequence$1CodePointIterator"), (10, .class_ 60), (0, u "java/lang/CharSequence$1CharIterator"), (5, .class_ 67), (0, u "java/lang/Object")] 63

/-- java/lang/CharSequence -/
def k2 : Class := { plain "java/lang/CharSequence" (some 0) with
  accessFlags := 1537
  interfaces := #[]
  cf := some (fileOf pool2 2 #[.nestMembers #[47, 59]] #[] 1537 66 #[] #[])
  fields := #[]
  methods := #[]
  instanceTypes := #[]
  staticTypes := #[]
  resolved := Array.replicate 131 none
  statics := none }

def pool3 : Array CpInfo := pool [(1, .methodref 2 3), (0, .class_ 4), (0, .nameAndType 5 6), (0, u "java/lang/Object"), (0, u "<init>"), (0, u "()V"), (0, .fieldref 8 9), (0, .class_ 10), (0, .nameAndType 11 12), (0, u "quotewright/StringView"), (0, u "bytes"), (0, u "[B"), (0, .fieldref 8 14), (0, .nameAndType 15 16), (0, u "start"), (0, u "I"), (0, .fieldref 8 18), (0, .nameAndType 19 16), (0, u "fieldLength"), (0, .fieldref 8 21), (0, .nameAndType 22 16), (0, u "length"), (2, u "()I"), (25, .class_ 52), (0, u "java/lang/CharSequence"), (2, u "wrap"), (0, u "([BII)Lquotewright/StringView;")] 7

def k3c0 : Code := { maxStack := 2, maxLocals := 1, code := prog_40_method_1_code, exceptionTable := #[], attributes := #[] }
def k3m0 : Method := { name := "<init>", desc := "()V", sig := { parameters := [], returnType := none }, accessFlags := 0, code := some k3c0 }
def k3c1 : Code := { maxStack := 2, maxLocals := 4, code := prog_40_method_2_code, exceptionTable := #[], attributes := #[] }
def k3m1 : Method := { name := "wrap", desc := "([BII)Lquotewright/StringView;", sig := { parameters := [(.array .byte), .int, .int], returnType := some (.object "quotewright/StringView") }, accessFlags := 0, code := some k3c1 }
def k3c2 : Code := { maxStack := 3, maxLocals := 2, code := prog_40_method_3_code, exceptionTable := #[], attributes := #[] }
def k3m2 : Method := { name := "length", desc := "()I", sig := { parameters := [], returnType := some .int }, accessFlags := 1, code := some k3c2 }
/-- quotewright/StringView -/
def k3 : Class := { plain "quotewright/StringView" (some 0) with
  accessFlags := 48
  interfaces := #[2]
  cf := some (fileOf pool3 8 #[] #[{ accessFlags := 0, nameIndex := 5, descriptorIndex := 6, attributes := #[] }, { accessFlags := 0, nameIndex := 55, descriptorIndex := 56, attributes := #[] }, { accessFlags := 1, nameIndex := 22, descriptorIndex := 25, attributes := #[] }] 48 2 #[51] #[{ accessFlags := 2, nameIndex := 11, descriptorIndex := 12, attributes := #[] }, { accessFlags := 2, nameIndex := 15, descriptorIndex := 16, attributes := #[] }, { accessFlags := 2, nameIndex := 19, descriptorIndex := 16, attributes := #[] }, { accessFlags := 2, nameIndex := 22, descriptorIndex := 16, attributes := #[] }])
  fields := #[{ name := "bytes", type := (.array .byte), accessFlags := 2, slot := 0, constantValue := 0 }, { name := "start", type := .int, accessFlags := 2, slot := 1, constantValue := 0 }, { name := "fieldLength", type := .int, accessFlags := 2, slot := 2, constantValue := 0 }, { name := "length", type := .int, accessFlags := 2, slot := 3, constantValue := 0 }]
  methods := #[k3m0, k3m1, k3m2]
  instanceTypes := #[(.array .byte), .int, .int, .int]
  staticTypes := #[]
  resolved := Array.replicate 64 none
  statics := none }

def pool4 : Array CpInfo := pool [(1, u "java/lang/Cloneable"), (0, .class_ 1), (0, u "java/lang/Object"), (0, .class_ 3)] 3

/-- java/lang/Cloneable -/
def k4 : Class := { plain "java/lang/Cloneable" (some 0) with
  accessFlags := 1537
  interfaces := #[]
  cf := some (fileOf pool4 2 #[] #[] 1537 4 #[] #[])
  fields := #[]
  methods := #[]
  instanceTypes := #[]
  staticTypes := #[]
  resolved := Array.replicate 8 none
  statics := none }

def pool5 : Array CpInfo := pool [(1, u "java/io/Serializable"), (0, .class_ 1), (0, u "java/lang/Object"), (0, .class_ 3)] 3

/-- java/io/Serializable -/
def k5 : Class := { plain "java/io/Serializable" (some 0) with
  accessFlags := 1537
  interfaces := #[]
  cf := some (fileOf pool5 2 #[] #[] 1537 4 #[] #[])
  fields := #[]
  methods := #[]
  instanceTypes := #[]
  staticTypes := #[]
  resolved := Array.replicate 8 none
  statics := none }

/-- the primitive byte -/
def k6 : Class := { plain "byte" none with kind := .primitive 'B', accessFlags := 0x411 }
/-- [B -/
def k7 : Class := { plain "[B" (some 0) with kind := .array 6 .byte, interfaces := #[4, 5], accessFlags := 1041 }

/-- the primitive int -/
def k8 : Class := { plain "int" none with kind := .primitive 'I', accessFlags := 0x411 }
/-- [I -/
def k9 : Class := { plain "[I" (some 0) with kind := .array 8 .int, interfaces := #[4, 5], accessFlags := 1041 }

def heap : Heap := #[]
def classes : Array Class := #[k0, k1, k2, k3, k4, k5, k6, k7, k8, k9]
def interned : List (Array UInt16 × Addr) := []
def slotsUsed : Nat := 0
def theMethod : MethodId := ⟨1, 1⟩
def args0 : Array Value := #[.long 5, .int 7, .int 1, .int 1, .int 1, .int 1]
def aboutOver (below : List Frame) : State where
  vm := { classes := classes, interned := interned.toArray }
  heap := heap
  slotsUsed := slotsUsed
  threads := #[{ frames := .invoking theMethod args0 :: below }]
def below0 : List Frame := [.native { method := ⟨0, 0⟩, args := #[] }]
def about1 : State := aboutOver below0
def p0 : Program := .bare "" "" ""
def e0 : Env := launch0.env 0 0 0
theorem w_frames : about1.frames = Frame.invoking theMethod args0 :: below0 := rfl
set_option maxRecDepth 65536 in
theorem w_args : argsFit about1.vm theMethod args0 = true := by decide +kernel
set_option maxRecDepth 65536 in
theorem w_heap : heapFits about1 = true := by decide +kernel
set_option maxRecDepth 65536 in
theorem w_runnable : about1.curStatus? = some .runnable := by decide +kernel
set_option maxRecDepth 65536 in
theorem w_alone : about1.alone = true := by decide +kernel
set_option maxRecDepth 65536 in
theorem w_named : about1.methodNamed? x = some theMethod := by decide +kernel
set_option maxRecDepth 65536 in
theorem w_hears : about1.hears theMethod below0 = true := by decide +kernel
set_option maxRecDepth 65536 in
theorem w_ripe : about1.ripe theMethod args0 below0 = true := by decide +kernel
theorem w_running : about1.status = .running := rfl
set_option maxRecDepth 65536 in
theorem w_room : about1.hasRoom e0.platform room_1 = true :=
  launch0.hasRoom_least _ room_1 (by decide +kernel) (by decide +kernel) (by decide +kernel) (by decide +kernel) (by decide +kernel) (by decide +kernel)
theorem allAtoms_all (ts : List Jvm.Cond) (a : Array Jvm.Value) (st : Jvm.State) : (allAtoms ts).before a st = ts.all (fun c => c.before a st) := by
  induction ts with
  | nil => rfl
  | cons c t ih =>
    show (Jvm.Cond.and c (allAtoms t)).before a st = _
    rw [Jvm.Cond.before_and, ih, List.all_cons]
def words1 : List Jvm.Cond := Jvm.Cond.code x code maxLocals ret :: tables_1
/-- a 'code' word, met by the world's own term for the bytes: nothing is compared byte by byte -/
theorem code_word {y : MethodName} {bytes : ByteArray} {mx : Nat} {rt : Option FieldType} {a : Array Value} {s : State} {m : MethodId} {meth : Method} {c : Code} (h1 : s.methodNamed? y = some m) (h2 : s.vm.method? m = some meth) (h3 : meth.code = some c) (h4 : c.code = bytes)
    (h5 : (c.maxLocals == mx && c.exceptionTable.isEmpty && decide (c.maxStack ≤ mostOperands) && decide (meth.sig.returnType = rt) && !meth.locks && decide (parseMethodDescriptor y.desc = some meth.sig)) = true) : (Jvm.Cond.code y bytes mx rt).before a s = true := by
  simp only [Bool.and_eq_true, beq_iff_eq, Bool.not_eq_true', decide_eq_true_eq] at h5
  obtain ⟨⟨⟨⟨⟨g1, g2⟩, g3⟩, g4⟩, g5⟩, g6⟩ := h5
  simp [Cond.before, Cond.holds, Cond.value, h1, h2, h3, h4, g1, g2, g3, g4, g5, g6]
def isCode : Jvm.Cond → Bool
  | .code _ _ _ _ => true
  | _ => false
theorem all_split {L : List Jvm.Cond} {P : Jvm.Cond → Bool} (h1 : L.all (fun c => isCode c || P c) = true) (h2 : ∀ c ∈ L.filter isCode, P c = true) : L.all P = true := by
  refine List.all_eq_true.mpr fun c hc => ?_
  have h := List.all_eq_true.mp h1 c hc
  rcases Bool.eq_false_or_eq_true (isCode c) with hi | hi
  · exact h2 c (List.mem_filter.mpr ⟨hc, hi⟩)
  · simpa [hi] using h
set_option maxRecDepth 65536 in
theorem w_c0 : (Jvm.Cond.code x code maxLocals ret).before args0 about1 = true := code_word (m := ⟨1, 1⟩) (meth := k1m1) (c := k1c1) (by decide +kernel) rfl rfl rfl (by decide +kernel)
set_option maxRecDepth 65536 in
theorem w_c1 : (Jvm.Cond.code ({ cls := "quotewright/StringViewLengthPinLaw", name := "pick", desc := "(JII)B" } : Jvm.MethodName) method_3_code (4 : Nat) (Option.some Jvm.ClassFile.FieldType.byte)).before args0 about1 = true := code_word (m := ⟨1, 2⟩) (meth := k1m2) (c := k1c2) (by decide +kernel) rfl rfl rfl (by decide +kernel)
set_option maxRecDepth 65536 in
theorem w_c2 : (Jvm.Cond.code ({ cls := "quotewright/StringView", name := "<init>", desc := "()V" } : Jvm.MethodName) prog_40_method_1_code (1 : Nat) (Option.none : Option Jvm.ClassFile.FieldType)).before args0 about1 = true := code_word (m := ⟨3, 0⟩) (meth := k3m0) (c := k3c0) (by decide +kernel) rfl rfl rfl (by decide +kernel)
set_option maxRecDepth 65536 in
theorem w_c3 : (Jvm.Cond.code ({ cls := "java/lang/Object", name := "<init>", desc := "()V" } : Jvm.MethodName) object_method_1_code (1 : Nat) (Option.none : Option Jvm.ClassFile.FieldType)).before args0 about1 = true := code_word (m := ⟨0, 0⟩) (meth := k0m0) (c := k0c0) (by decide +kernel) rfl rfl rfl (by decide +kernel)
set_option maxRecDepth 65536 in
theorem w_c4 : (Jvm.Cond.code ({ cls := "quotewright/StringView", name := "wrap", desc := "([BII)Lquotewright/StringView;" } : Jvm.MethodName) prog_40_method_2_code (4 : Nat) (Option.some (Jvm.ClassFile.FieldType.object "quotewright/StringView"))).before args0 about1 = true := code_word (m := ⟨3, 1⟩) (meth := k3m1) (c := k3c1) (by decide +kernel) rfl rfl rfl (by decide +kernel)
set_option maxRecDepth 65536 in
theorem w_c5 : (Jvm.Cond.code ({ cls := "quotewright/StringView", name := "length", desc := "()I" } : Jvm.MethodName) prog_40_method_3_code (2 : Nat) (Option.some Jvm.ClassFile.FieldType.int)).before args0 about1 = true := code_word (m := ⟨3, 2⟩) (meth := k3m2) (c := k3c2) (by decide +kernel) rfl rfl rfl (by decide +kernel)
set_option maxRecDepth 65536 in
theorem w_c6 : (Jvm.Cond.code ({ cls := "quotewright/StringViewLengthPinLaw", name := "ref", desc := "([BII)I" } : Jvm.MethodName) method_4_code (3 : Nat) (Option.some Jvm.ClassFile.FieldType.int)).before args0 about1 = true := code_word (m := ⟨1, 3⟩) (meth := k1m3) (c := k1c3) (by decide +kernel) rfl rfl rfl (by decide +kernel)
def codes1 : List Jvm.Cond := [Jvm.Cond.code x code maxLocals ret, Jvm.Cond.code ({ cls := "quotewright/StringViewLengthPinLaw", name := "pick", desc := "(JII)B" } : Jvm.MethodName) method_3_code (4 : Nat) (Option.some Jvm.ClassFile.FieldType.byte), Jvm.Cond.code ({ cls := "quotewright/StringView", name := "<init>", desc := "()V" } : Jvm.MethodName) prog_40_method_1_code (1 : Nat) (Option.none : Option Jvm.ClassFile.FieldType), Jvm.Cond.code ({ cls := "java/lang/Object", name := "<init>", desc := "()V" } : Jvm.MethodName) object_method_1_code (1 : Nat) (Option.none : Option Jvm.ClassFile.FieldType), Jvm.Cond.code ({ cls := "quotewright/StringView", name := "wrap", desc := "([BII)Lquotewright/StringView;" } : Jvm.MethodName) prog_40_method_2_code (4 : Nat) (Option.some (Jvm.ClassFile.FieldType.object "quotewright/StringView")), Jvm.Cond.code ({ cls := "quotewright/StringView", name := "length", desc := "()I" } : Jvm.MethodName) prog_40_method_3_code (2 : Nat) (Option.some Jvm.ClassFile.FieldType.int), Jvm.Cond.code ({ cls := "quotewright/StringViewLengthPinLaw", name := "ref", desc := "([BII)I" } : Jvm.MethodName) method_4_code (3 : Nat) (Option.some Jvm.ClassFile.FieldType.int)]
set_option maxRecDepth 65536 in
theorem codes_eq : words1.filter isCode = codes1 := rfl
theorem w_codes : ∀ c ∈ words1.filter isCode, c.before args0 about1 = true := by
  rw [codes_eq]
  intro c hc
  simp only [codes1, List.mem_cons, List.not_mem_nil, or_false] at hc
  rcases hc with rfl | rfl | rfl | rfl | rfl | rfl | rfl
  · exact w_c0
  · exact w_c1
  · exact w_c2
  · exact w_c3
  · exact w_c4
  · exact w_c5
  · exact w_c6
set_option maxRecDepth 65536 in
theorem w_t1 : (words1.take 24).all (fun c => isCode c || c.before args0 about1) = true := by decide +kernel
set_option maxRecDepth 65536 in
theorem w_t2 : (words1.drop 24).all (fun c => isCode c || c.before args0 about1) = true := by decide +kernel
theorem w_tables : (allAtoms (Jvm.Cond.code x code maxLocals ret :: tables_1)).before args0 about1 = true := by
  rw [allAtoms_all]
  show words1.all (fun c => c.before args0 about1) = true
  refine all_split ?_ w_codes
  rw [← List.take_append_drop 24 words1, List.all_append, w_t1, w_t2]
  rfl
set_option maxRecDepth 65536 in
theorem w_case : (Jvm.Cond.and given_1 narrow_1).before args0 about1 = true := by decide +kernel
theorem w_applies : (headSpec (Jvm.Cond.code x code maxLocals ret :: tables_1) room_1).applies x e0.platform about1 = true :=
  (Spec.applies_iff w_frames).mpr ⟨w_running, w_runnable, w_alone, w_named, w_hears, w_ripe, w_room, w_tables⟩
theorem atStart : AtStart classFile x code maxLocals ret World_1 tables_1 room_1 Calls_1 rest_1 Pre_1 launch0 p0 e0 about1 theMethod args0 below0 :=
  ⟨lists_1, trivial, launch0.admits_env _ _ _, launch0.least_env, fairChoices_fair.cas, fairChoices_fair.clock, w_frames, w_args, w_heap, w_applies, trivial, trivial, w_case⟩
end start1
theorem witness_1 : WitnessClaimed_1 := ⟨start1.p0, start1.e0, start1.about1, start1.theMethod, start1.args0, start1.below0, start1.atStart⟩
end Jvm.Pilot.@@N@@
