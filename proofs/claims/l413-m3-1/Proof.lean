import JvmDerived
import JvmDerived.Pilot.@@N@@Statement
import JvmDerived.Pilot.@@N@@Code
set_option linter.unusedVariables false
set_option linter.unusedSimpArgs false
namespace Jvm.Pilot.@@N@@
open Jvm Jvm.ClassFile Sem Op Lib Jvm.Free Jvm.Stand Jvm.LawKit Jvm.RoadKit Bundle Jvm.Pilot.@@N@@.Jvm.D
section Own
variable {p : Program} {l : Launch} {e : Env} {R : Room} {s : State} {m : MethodId} {args : Array Value} {below : List Frame} {meth : Method} {c : Code} {T : State} {locs : List Loc} {cells slots : Nat}
/-- from u the walk comes to its return, with what Q says of value, heap and the places written -/
def Ends (p : Program) (e : Env) (below : List Frame) (s : State) (Q : Option Value → Heap → List Loc → Prop) (kc ks : Nat) (u : State) : Prop :=
  ∃ s₂ o, Steps p.tables e below u s₂ ∧ s₂.status = .running ∧ Ended s₂ below o ∧ ∃ v L, o = .returned v ∧ Q v s₂.heap L ∧ FrameEnd s o s₂ L kc ks
variable {Q : Option Value → Heap → List Loc → Prop} {kc ks : Nat} {u u' : State}
theorem Ends.by (k : Ends p e below s Q kc ks u') (h : ∀ t, Steps p.tables e below u' t → Steps p.tables e below u t) : Ends p e below s Q kc ks u := by
  obtain ⟨s₂, o, h1, r⟩ := k
  exact ⟨s₂, o, h _ h1, r⟩
theorem Ends.go (h : Steps p.tables e below u u') (k : Ends p e below s Q kc ks u') : Ends p e below s Q kc ks u := k.by fun _ q => h.trans q
theorem Ends.retN (X : Stand p l e R s m args below meth c T locs cells slots) (hx : p.tables.exec = Jvm.exec) (hlk : meth.locks = false) {t : FieldType} (hret : meth.sig.returnType = some t) (ht : t = .boolean ∨ t = .byte ∨ t = .char ∨ t = .short) {pc : Nat} {Ls : Array Slot} {z w : Int32} {rest : List Value}
    (hd : decode c.code pc = .ok (.ireturn, 1)) (hz : nar t z = w) (hQ : Q (some (.int w)) T.heap locs) (hc : cells ≤ kc) (hs : slots ≤ ks) : Ends p e below s Q kc ks (T.setTop (mkF m pc Ls (.int z :: rest))) := by
  subst hz
  obtain ⟨fs, hr, hrun, hended, hW, hsame⟩ := X.leave (v := some (.int (nar t z))) (fun h => by rw [hret] at h; cases h) hlk
  exact ⟨_, _, Jvm.RoadKit.retN X hx hret ht hd hr, hrun, hended, _, _, rfl, hQ, ⟨_, rfl⟩, hW, hsame.mono hc hs⟩
theorem Ends.retI (X : Stand p l e R s m args below meth c T locs cells slots) (hx : p.tables.exec = Jvm.exec) (hlk : meth.locks = false) (hret : meth.sig.returnType = some .int) {pc : Nat} {Ls : Array Slot} {z : Int32} {rest : List Value}
    (hd : decode c.code pc = .ok (.ireturn, 1)) (hQ : Q (some (.int z)) T.heap locs) (hc : cells ≤ kc) (hs : slots ≤ ks) : Ends p e below s Q kc ks (T.setTop (mkF m pc Ls (.int z :: rest))) := by
  obtain ⟨fs, hr, hrun, hended, hW, hsame⟩ := X.leave (v := some (.int z)) (fun h => by rw [hret] at h; cases h) hlk
  exact ⟨_, _, Jvm.RoadKit.retOut X hx hret rfl (Or.inl ⟨rfl, by simp, z, rfl⟩) hd hr, hrun, hended, _, _, rfl, hQ, ⟨_, rfl⟩, hW, hsame.mono hc hs⟩
theorem Ends.retJ (X : Stand p l e R s m args below meth c T locs cells slots) (hx : p.tables.exec = Jvm.exec) (hlk : meth.locks = false) (hret : meth.sig.returnType = some .long) {pc : Nat} {Ls : Array Slot} {z : Int64} {rest : List Value}
    (hd : decode c.code pc = .ok (.lreturn, 1)) (hQ : Q (some (.long z)) T.heap locs) (hc : cells ≤ kc) (hs : slots ≤ ks) : Ends p e below s Q kc ks (T.setTop (mkF m pc Ls (.long z :: rest))) := by
  obtain ⟨fs, hr, hrun, hended, hW, hsame⟩ := X.leave (v := some (.long z)) (fun h => by rw [hret] at h; cases h) hlk
  exact ⟨_, _, Jvm.RoadKit.retOut X hx hret rfl (Or.inr (Or.inl ⟨rfl, rfl, z, rfl⟩)) hd hr, hrun, hended, _, _, rfl, hQ, ⟨_, rfl⟩, hW, hsame.mono hc hs⟩
theorem Ends.retA (X : Stand p l e R s m args below meth c T locs cells slots) (hx : p.tables.exec = Jvm.exec) (hlk : meth.locks = false) {t : FieldType} (hret : meth.sig.returnType = some t) (ht : t.isReference = true) (hn : ∀ a, narrow t (.ref a) = .ref a) {pc : Nat} {Ls : Array Slot} {a : Addr} {rest : List Value}
    (hd : decode c.code pc = .ok (.areturn, 1)) (hQ : Q (some (.ref a)) T.heap locs) (hc : cells ≤ kc) (hs : slots ≤ ks) : Ends p e below s Q kc ks (T.setTop (mkF m pc Ls (.ref a :: rest))) := by
  obtain ⟨fs, hr, hrun, hended, hW, hsame⟩ := X.leave (v := some (.ref a)) (fun h => by rw [hret] at h; cases h) hlk
  exact ⟨_, _, Jvm.RoadKit.retOut X hx hret (hn a) (Or.inr (Or.inr (Or.inr (Or.inr ⟨rfl, ht, rfl⟩)))) hd hr, hrun, hended, _, _, rfl, hQ, ⟨_, rfl⟩, hW, hsame.mono hc hs⟩
theorem Ends.retV (X : Stand p l e R s m args below meth c T locs cells slots) (hx : p.tables.exec = Jvm.exec) (hlk : meth.locks = false) (hret : meth.sig.returnType = none) {pc : Nat} {Ls : Array Slot}
    (hd : decode c.code pc = .ok (.return_, 1)) (hQ : Q none T.heap locs) (hc : cells ≤ kc) (hs : slots ≤ ks) : Ends p e below s Q kc ks (T.setTop (mkF m pc Ls [])) := by
  obtain ⟨fs, hr, hrun, hended, hW, hsame⟩ := X.leave (v := none) (fun _ => rfl) hlk
  exact ⟨_, _, X.returnOut hx hret hd hr, hrun, hended, _, _, rfl, hQ, ⟨_, rfl⟩, hW, hsame.mono hc hs⟩
theorem lremM {g : JFrame} {target : State} (X : Stand p l e R s m args below meth c T locs cells slots) (hx : p.tables.exec = Jvm.exec) (hg : g.method = m) {x y : Int64} {rest : List Value} (hd : decode c.code g.pc = .ok (.lrem, 1)) (hs : g.stack = .long y :: .long x :: rest) (hy : y ≠ 0)
    (hr : Steps p.tables e below (T.setTop { g with pc := g.pc + 1, stack := .long (x % y) :: rest }) target) : Steps p.tables e below (T.setTop g) target :=
  XS.lrem X.here hx hg hd hs hy (by rw [lrem_mod x y]; exact hr)
/-- a method that writes nothing: what it returns, the heap as it was -/
def QP (V : Option Value) (h0 : Heap) (n0 : Nat) (v : Option Value) (h : Heap) (L : List Loc) : Prop := v = V ∧ Fr n0 L ∧ h = h0
/-- a law: it returns 1; nothing old is written -/
def QL (n0 : Nat) (v : Option Value) (_ : Heap) (L : List Loc) : Prop := v = some (.int 1) ∧ Fr n0 L
end Own
section OwnHeap
variable {p : Program} {l : Launch} {e : Env} {R : Room} {s : State} {m : MethodId} {args : Array Value} {below : List Frame} {meth : Method} {c : Code} {T : State} {locs : List Loc} {cells slots : Nat}
variable {Q : Option Value → Heap → List Loc → Prop} {kc ks : Nat} {Z : State} {a0 : Array Value} {h h' : Heap} {a b : Addr} {ty : FieldType} {n sl : Nat} {g : Nat → Int32} {v : Value} {j x : Int32} {pc : Nat} {Ls : Array Slot} {S : List Value}
/-- an array of n small values: place j holds g j -/
def Ary (Z : State) (h : Heap) (a : Addr) (ty : FieldType) (n : Nat) (g : Nat → Int32) : Prop := ∃ cl : Cell, Arr Z h a cl ty ∧ cl.slots.size = n ∧ n < 2 ^ 31 ∧ ∀ j, j < n → cl.slots[j]? = some (.int (g j))
def upd (g : Nat → Int32) (j : Nat) (x : Int32) : Nat → Int32 := fun i => if i = j then x else g i
theorem Ary.lt (V : Ary Z h a ty n g) : a < h.size := V.elim fun _ q => q.1.lt
theorem Ary.ext (V : Ary Z h a ty n g) (E : Ext h h') : Ary Z h' a ty n g := by obtain ⟨c, A, r⟩ := V; exact ⟨c, A.ext E, r⟩
theorem Ary.other (V : Ary Z h b ty n g) (W : Wr h h' a sl v) (q : b ≠ a) : Ary Z h' b ty n g := by obtain ⟨c, A, r⟩ := V; exact ⟨c, A.other W q, r⟩
theorem Ary.keep {ws : List Addr} (V : Ary Z h a ty n g) (K : Keep h h' ws) (q : a ∉ ws) : Ary Z h' a ty n g := by obtain ⟨c, A, r⟩ := V; exact ⟨c, ⟨K.2.1 a c A.1 q, A.2⟩, r⟩
theorem Ary.set (V : Ary Z h a ty n g) (W : Wr h h' a sl (.int x)) : Ary Z h' a ty n (upd g sl x) := by
  obtain ⟨c, A, S, M, H⟩ := V
  refine ⟨_, A.same W, by rw [sz_set]; exact S, M, fun i hi => ?_⟩
  have hi' : i < c.slots.size := by omega
  simp only [Cell.setSlot, Array.getElem?_setIfInBounds, upd]
  by_cases q : i = sl
  · subst q; simp [hi']
  · have q' : ¬ sl = i := fun e => q e.symm
    simp [q, q']; exact H i hi
theorem Ary.inb {cl : Cell} (S : cl.slots.size = n) (hj : 0 ≤ j.toInt ∧ j.toInt < n) : ¬ (j < 0 ∨ cl.slots.size ≤ j.toNatClampNeg) := by
  have e0 : (0 : Int32).toInt = 0 := rfl
  simp only [Int32.lt_iff_toInt_lt, Int32.toNatClampNeg] at *; omega
theorem Ary.at {cl : Cell} (H : ∀ j, j < n → cl.slots[j]? = some (.int (g j))) (hj : 0 ≤ j.toInt ∧ j.toInt < n) : cl.slots[j.toNatClampNeg]? = some (.int (g j.toNatClampNeg)) :=
  H _ (by simp only [Int32.toNatClampNeg]; omega)
theorem Ends.iald (k : Ends p e below s Q kc ks (T.setTop (mkF m (pc + 1) Ls (.int (g j.toNatClampNeg) :: S)))) (X : Stand p l e R s m args below meth c T locs cells slots) (hx : p.tables.exec = Jvm.exec) (hZ : Z.Warmed39 s.vm) (eT : T.heap = h) (V : Ary Z h a .int n g) (hj : 0 ≤ j.toInt ∧ j.toInt < n)
    (hd : decode c.code pc = .ok (.iaload, 1)) : Ends p e below s Q kc ks (T.setTop (mkF m pc Ls (.int j :: .ref a :: S))) := by
  obtain ⟨cl, A, S1, M, H⟩ := V
  exact k.by fun t q => X.iaload hx (j := j) (by rw [eT]; exact A.1) (State.isArrayOf_alike hZ.alike A.2.1) A.2.2 (Ary.inb S1 hj) (Ary.at H hj) (g := mkF m pc Ls (.int j :: .ref a :: S)) rfl rfl hd t q
theorem Ends.bald (k : Ends p e below s Q kc ks (T.setTop (mkF m (pc + 1) Ls (.int (g j.toNatClampNeg) :: S)))) (X : Stand p l e R s m args below meth c T locs cells slots) (hx : p.tables.exec = Jvm.exec) (hZ : Z.Warmed39 s.vm) (eT : T.heap = h) (V : Ary Z h a .byte n g) (hj : 0 ≤ j.toInt ∧ j.toInt < n)
    (hd : decode c.code pc = .ok (.baload, 1)) : Ends p e below s Q kc ks (T.setTop (mkF m pc Ls (.int j :: .ref a :: S))) := by
  obtain ⟨cl, A, S1, M, H⟩ := V
  exact k.by fun t q => X.baloadBytes hx (j := j) (by rw [eT]; exact A.1) (State.isArrayOf_alike hZ.alike A.2.1) A.2.2 (Ary.inb S1 hj) (Ary.at H hj) (g := mkF m pc Ls (.int j :: .ref a :: S)) rfl rfl hd t q
theorem Ends.alen {z : Int32} (k : Ends p e below s Q kc ks (T.setTop (mkF m (pc + 1) Ls (.int z :: S)))) (X : Stand p l e R s m args below meth c T locs cells slots) (hx : p.tables.exec = Jvm.exec) (hZ : Z.Warmed39 s.vm) (eT : T.heap = h) (V : Ary Z h a ty n g) (hz : z.toInt = n)
    (hd : decode c.code pc = .ok (.arraylength, 1)) : Ends p e below s Q kc ks (T.setTop (mkF m pc Ls (.ref a :: S))) := by
  obtain ⟨cl, A, S1, M, H⟩ := V
  have e1 : cl.slots.size.toInt32 = z := by
    rw [S1]; apply Int32.toInt_inj.mp; rw [hz]; exact len_toInt M
  exact k.by fun t q => X.arraylength hx (by rw [eT]; exact A.1) (State.isArrayOf_alike hZ.alike A.2.1) (g := mkF m pc Ls (.ref a :: S)) rfl rfl hd t (by rw [e1]; exact q)
theorem stIA (X : Stand p l e R s m args below meth c T locs cells slots) (hx : p.tables.exec = Jvm.exec) (hZ : Z.Warmed39 s.vm) (eT : T.heap = h) (V : Ary Z h a .int n g) (hj : 0 ≤ j.toInt ∧ j.toInt < n) (hd : decode c.code pc = .ok (.iastore, 1)) :
    ∃ T' h', Stand p l e R s m args below meth c T' (locs ++ [⟨a, j.toNatClampNeg⟩]) cells slots ∧ T'.heap = h' ∧ Wr h h' a j.toNatClampNeg (.int x) ∧ Ary Z h' a .int n (upd g j.toNatClampNeg x) ∧
      ∀ t, Steps p.tables e below (T'.setTop (mkF m (pc + 1) Ls S)) t → Steps p.tables e below (T.setTop (mkF m pc Ls (.int x :: .int j :: .ref a :: S))) t := by
  have V' := V
  obtain ⟨cl, A, S1, M, H⟩ := V
  obtain ⟨T', h', X', e', W, st⟩ := stI X hx hZ eT A (j := j) (x := x) (Ary.inb S1 hj) (g := mkF m pc Ls (.int x :: .int j :: .ref a :: S)) rfl rfl hd
  exact ⟨T', h', X', e', W, V'.set W, st⟩
theorem stBA (X : Stand p l e R s m args below meth c T locs cells slots) (hx : p.tables.exec = Jvm.exec) (hZ : Z.Warmed39 s.vm) (eT : T.heap = h) (V : Ary Z h a .byte n g) (hj : 0 ≤ j.toInt ∧ j.toInt < n) (hd : decode c.code pc = .ok (.bastore, 1)) :
    ∃ T' h', Stand p l e R s m args below meth c T' (locs ++ [⟨a, j.toNatClampNeg⟩]) cells slots ∧ T'.heap = h' ∧ Wr h h' a j.toNatClampNeg (.int x.toInt8.toInt32) ∧ Ary Z h' a .byte n (upd g j.toNatClampNeg x.toInt8.toInt32) ∧
      ∀ t, Steps p.tables e below (T'.setTop (mkF m (pc + 1) Ls S)) t → Steps p.tables e below (T.setTop (mkF m pc Ls (.int x :: .int j :: .ref a :: S))) t := by
  have V' := V
  obtain ⟨cl, A, S1, M, H⟩ := V
  obtain ⟨T', h', X', e', W, st⟩ := stB X hx hZ eT A (j := j) (x := x) (Ary.inb S1 hj) (g := mkF m pc Ls (.int x :: .int j :: .ref a :: S)) rfl rfl hd
  exact ⟨T', h', X', e', W, V'.set W, st⟩
theorem newAr (X : Stand p l e R s m args below meth c T locs cells slots) (hx : p.tables.exec = Jvm.exec) (hZ : Z.Warmed39 s.vm) {aty : ArrayType} (w : (Cond.arrayClass (newarray.typeOf aty)).before a0 Z = true) (hty : defaultValue (newarray.typeOf aty) = .int 0) (eT : T.heap = h) {z : Int32} {cap : Nat} (hz : z.toInt = n) (hcap : n ≤ cap)
    (hb : cap * 8 ≤ 536870912) (hc : cells + 1 ≤ R.cells) (hl : slots + cap ≤ R.slots) (hd : decode c.code pc = .ok (.newarray aty, 2)) :
    ∃ T' h', Stand p l e R s m args below meth c T' locs (cells + 1) (slots + cap) ∧ T'.heap = h' ∧ Ext h h' ∧ Ary Z h' h.size (newarray.typeOf aty) n (fun _ => 0) ∧
      ∀ t, Steps p.tables e below (T'.setTop (mkF m (pc + 2) Ls (.ref h.size :: S))) t → Steps p.tables e below (T.setTop (mkF m pc Ls (.int z :: S))) t := by
  have e0 : (0 : Int32).toInt = 0 := rfl
  have hz2 : z.toNatClampNeg = n := by simp only [Int32.toNatClampNeg]; omega
  have rz := rng32 z
  obtain ⟨T', h', cA, X', e', E, A, st⟩ := newP X hx hZ w eT (g := mkF m pc Ls (.int z :: S)) rfl hd rfl (by rw [Int32.lt_iff_toInt_lt]; omega) (cap := cap) (by omega) hb hc hl
  refine ⟨T', h', X', e', E, ⟨_, A, by rw [sz_new]; exact hz2, by omega, fun j hj => ?_⟩, st⟩
  simp only [newA, hz2, hty]
  simp [hj]
end OwnHeap
/-- a method that writes into ws alone: what it returns, the rest kept, what P says of the heap that it leaves -/
def QK (V : Option Value) (h0 : Heap) (ws : List Addr) (n0 : Nat) (P : Heap → Prop) (v : Option Value) (h : Heap) (L : List Loc) : Prop := v = V ∧ Fr n0 L ∧ Keep h0 h ws ∧ P h

theorem d2_0 : decode jdk_30_method_1_code 0 = .ok (.aload_n 0, 1) := by decide +kernel
theorem d2_1 : decode jdk_30_method_1_code 1 = .ok (.invokespecial 1, 3) := by decide +kernel
theorem d2_4 : decode jdk_30_method_1_code 4 = .ok (.return_, 1) := by decide +kernel
theorem ef_rm2 (m : MethodId) (x0 : Addr) : entryFrame m #[(.ref x0)] 1 = mkF m 0 #[.val (.ref x0)] [] := by first | (simp [entryFrame, mkF, argsToLocals, Value.category]; done) | rfl
theorem pn_0 : plainName "java/lang/Record" = true := by first | (simp [plainName, overriddenIn]; done) | decide +kernel
set_option maxRecDepth 65536 in
set_option maxHeartbeats 40000000 in
theorem rm2 (l : Launch) (Z : State) (a0 : Array Value) (hw : ∀ d ∈ tables_1, d.before a0 Z = true) (ws : List Jvm.Cond) (x0 : Addr) (h0 : Heap) (n0 : Nat) (Z0 : n0 ≤ h0.size) :
    MetFree l (⟨"java/lang/Record", "<init>", "()V"⟩ : MethodName) (head1 (Jvm.Cond.code (⟨"java/lang/Record", "<init>", "()V"⟩ : MethodName) jdk_30_method_1_code 1 none :: ws) ({ frames := 1, cells := 0, slots := 0, locals := 12 } : Room)) (fun a U => a = #[(.ref x0)] ∧ Z.Warmed39 U.vm ∧ U.heap = h0) (fun _ _ _ _ _ => True) (fun _ U o U' => ∃ v L, o = .returned v ∧ (QP none h0 n0) v U'.heap L ∧ FrameEnd U o U' L ({ frames := 1, cells := 0, slots := 0, locals := 12 } : Room).cells ({ frames := 1, cells := 0, slots := 0, locals := 12 } : Room).slots) := by
  refine MetFree.of_bodySF (plainFor_of_name pn_0) hisR ?_
  intro p e s m args below meth c s₁ Bd hml0 hP hK
  obtain ⟨rfl, hZ, hh⟩ := hP
  have hx := Bd.exec
  have hby := Bd.bytes
  have hml : c.maxLocals = 1 := hml0
  have hown : s.vm.findClass "java/lang/Record" = some m.cls := findClass_of_methodNamed Bd.named
  have hnm := (name_of_methodNamed Bd.named Bd.method).1
  have X0 : Stand p l e ({ frames := 1, cells := 0, slots := 0, locals := 12 } : Room) s m #[(.ref x0)] below meth c s₁ [] 0 0 := Stand.of_body Bd
  have e0 : s₁.heap = h0 := by rw [← hh, Bd.state]; rfl
  have N0 := Fr.nil n0
  show Ends p e below s (QP none h0 n0) ({ frames := 1, cells := 0, slots := 0, locals := 12 } : Room).cells ({ frames := 1, cells := 0, slots := 0, locals := 12 } : Room).slots (s₁.setTop (entryFrame m #[(.ref x0)] 1))
  rw [ef_rm2 m x0]
  show Ends p e below s _ _ _ (s₁.setTop (mkF m 0 #[.val (.ref x0)] []))
  refine Ends.by ?_ (fun _ k => XS.aloadN X0.here hx rfl (hb hby d2_0) rfl rfl k)
  show Ends p e below s _ _ _ (s₁.setTop (mkF m 1 #[.val (.ref x0)] [(.ref x0)]))
  obtain ⟨T1, X1, e1, st1⟩ := initO X0 hx hZ hown (hw _ (List.mem_of_getElem? (i := 14) rfl)) (hw _ (List.mem_of_getElem? (i := 15) rfl)) (hw _ (List.mem_of_getElem? (i := 16) rfl)) e0 (g := (mkF m 1 #[.val (.ref x0)] [(.ref x0)])) rfl (by rw [hml]; rfl) rfl (hb hby d2_1) (by decide) (W := 0) (by show 2 * 0 + _ ≤ _; exact Nat.le_of_eq rfl) (by decide)
  refine Ends.by ?_ st1
  show Ends p e below s _ _ _ (T1.setTop (mkF m 4 #[.val (.ref x0)] []))
  exact Ends.retV X1 hx Bd.notSynchronized Bd.returns (hb hby d2_4) (by rw [e1]; exact ⟨rfl, N0, rfl⟩) (by decide) (by decide)

theorem d1_0 : decode prog_48_method_1_code 0 = .ok (.aload_n 0, 1) := by decide +kernel
theorem d1_1 : decode prog_48_method_1_code 1 = .ok (.invokespecial 1, 3) := by decide +kernel
theorem pd_0 : parseMethodDescriptor "()V" = some ⟨[], none⟩ := by decide +kernel
theorem d1_4 : decode prog_48_method_1_code 4 = .ok (.lload_n 1, 1) := by decide +kernel
theorem d1_5 : decode prog_48_method_1_code 5 = .ok (.lconst 1, 1) := by decide +kernel
theorem d1_6 : decode prog_48_method_1_code 6 = .ok (.lcmp, 1) := by decide +kernel
theorem d1_7 : decode prog_48_method_1_code 7 = .ok (.ifCond .lt 15, 3) := by decide +kernel
theorem d1_10 : decode prog_48_method_1_code 10 = .ok (.iload_n 3, 1) := by decide +kernel
theorem d1_11 : decode prog_48_method_1_code 11 = .ok (.iconst 1, 1) := by decide +kernel
theorem d1_12 : decode prog_48_method_1_code 12 = .ok (.if_icmp .lt 10, 3) := by decide +kernel
theorem d1_15 : decode prog_48_method_1_code 15 = .ok (.iload_n 3, 1) := by decide +kernel
theorem d1_16 : decode prog_48_method_1_code 16 = .ok (.sipush 1000, 3) := by decide +kernel
theorem d1_19 : decode prog_48_method_1_code 19 = .ok (.if_icmp .le 18, 3) := by decide +kernel
theorem d1_37 : decode prog_48_method_1_code 37 = .ok (.aload_n 0, 1) := by decide +kernel
theorem d1_38 : decode prog_48_method_1_code 38 = .ok (.lload_n 1, 1) := by decide +kernel
theorem d1_39 : decode prog_48_method_1_code 39 = .ok (.putfield 18, 3) := by decide +kernel
theorem d1_42 : decode prog_48_method_1_code 42 = .ok (.aload_n 0, 1) := by decide +kernel
theorem d1_43 : decode prog_48_method_1_code 43 = .ok (.iload_n 3, 1) := by decide +kernel
theorem d1_44 : decode prog_48_method_1_code 44 = .ok (.putfield 24, 3) := by decide +kernel
theorem d1_47 : decode prog_48_method_1_code 47 = .ok (.return_, 1) := by decide +kernel
theorem ef_rm1 (m : MethodId) (x0 : Addr) (x1 : Int64) (x2 : Int32) : entryFrame m #[(.ref x0), (.long x1), (.int x2)] 4 = mkF m 0 #[.val (.ref x0), .val (.long x1), .second, .val (.int x2)] [] := by first | (simp [entryFrame, mkF, argsToLocals, Value.category]; done) | rfl
theorem pn_1 : plainName "com/example/fiddlehead/fiddlehead/server/Page" = true := by first | (simp [plainName, overriddenIn]; done) | decide +kernel
set_option maxRecDepth 65536 in
set_option maxHeartbeats 40000000 in
theorem rm1 (l : Launch) (Z : State) (a0 : Array Value) (hw : ∀ d ∈ tables_1, d.before a0 Z = true) (ws : List Jvm.Cond) (x0 : Addr) (x1 : Int64) (x2 : Int32) (h0 : Heap) (n0 : Nat) (Z0 : n0 ≤ h0.size) (E0 : Exa Z h0 x0 "com/example/fiddlehead/fiddlehead/server/Page") (F1 : Fld Z h0 x0 "com/example/fiddlehead/fiddlehead/server/Page" "first" "J" (.long (0 : Int64))) (F2 : Fld Z h0 x0 "com/example/fiddlehead/fiddlehead/server/Page" "size" "I" (.int (0 : Int32))) (g0 : n0 ≤ x0) (p1 : ¬ (x1 < (1 : Int64))) (p2 : ¬ (x2 < (1 : Int32))) (p3 : ¬ ((1000 : Int32) < x2)) :
    MetFree l (⟨"com/example/fiddlehead/fiddlehead/server/Page", "<init>", "(JI)V"⟩ : MethodName) (head1 (Jvm.Cond.code (⟨"com/example/fiddlehead/fiddlehead/server/Page", "<init>", "(JI)V"⟩ : MethodName) prog_48_method_1_code 4 none :: ws) ({ frames := 2, cells := 0, slots := 0, locals := 24 } : Room)) (fun a U => a = #[(.ref x0), (.long x1), (.int x2)] ∧ Z.Warmed39 U.vm ∧ U.heap = h0) (fun _ _ _ _ _ => True) (fun _ U o U' => ∃ v L, o = .returned v ∧ (QK none h0 [x0] n0 (fun h => Exa Z h x0 "com/example/fiddlehead/fiddlehead/server/Page" ∧ Fld Z h x0 "com/example/fiddlehead/fiddlehead/server/Page" "first" "J" (.long x1) ∧ Fld Z h x0 "com/example/fiddlehead/fiddlehead/server/Page" "size" "I" (.int x2))) v U'.heap L ∧ FrameEnd U o U' L ({ frames := 2, cells := 0, slots := 0, locals := 24 } : Room).cells ({ frames := 2, cells := 0, slots := 0, locals := 24 } : Room).slots) := by
  refine MetFree.of_bodySF (plainFor_of_name pn_1) hisR ?_
  intro p e s m args below meth c s₁ Bd hml0 hP hK
  obtain ⟨rfl, hZ, hh⟩ := hP
  have hx := Bd.exec
  have hby := Bd.bytes
  have hml : c.maxLocals = 4 := hml0
  have hown : s.vm.findClass "com/example/fiddlehead/fiddlehead/server/Page" = some m.cls := findClass_of_methodNamed Bd.named
  have hnm := (name_of_methodNamed Bd.named Bd.method).1
  have X0 : Stand p l e ({ frames := 2, cells := 0, slots := 0, locals := 24 } : Room) s m #[(.ref x0), (.long x1), (.int x2)] below meth c s₁ [] 0 0 := Stand.of_body Bd
  have e0 : s₁.heap = h0 := by rw [← hh, Bd.state]; rfl
  have N0 := Fr.nil n0
  show Ends p e below s (QK none h0 [x0] n0 (fun h => Exa Z h x0 "com/example/fiddlehead/fiddlehead/server/Page" ∧ Fld Z h x0 "com/example/fiddlehead/fiddlehead/server/Page" "first" "J" (.long x1) ∧ Fld Z h x0 "com/example/fiddlehead/fiddlehead/server/Page" "size" "I" (.int x2))) ({ frames := 2, cells := 0, slots := 0, locals := 24 } : Room).cells ({ frames := 2, cells := 0, slots := 0, locals := 24 } : Room).slots (s₁.setTop (entryFrame m #[(.ref x0), (.long x1), (.int x2)] 4))
  rw [ef_rm1 m x0 x1 x2]
  show Ends p e below s _ _ _ (s₁.setTop (mkF m 0 #[.val (.ref x0), .val (.long x1), .second, .val (.int x2)] []))
  refine Ends.by ?_ (fun _ k => XS.aloadN X0.here hx rfl (hb hby d1_0) rfl rfl k)
  show Ends p e below s _ _ _ (s₁.setTop (mkF m 1 #[.val (.ref x0), .val (.long x1), .second, .val (.int x2)] [(.ref x0)]))
  obtain ⟨v1, _, ⟨T1, L1, k1, n1⟩, -, X1, ⟨Lc1, hQ1, l1, y1, z1⟩, st1⟩ := X0.specialBack hx (y := (⟨"java/lang/Record", "<init>", "()V"⟩ : MethodName)) rfl hown (mvT hZ (hw _ (List.mem_of_getElem? (i := 9) rfl))) (mvT hZ (hw _ (List.mem_of_getElem? (i := 10) rfl))) (mvT hZ (hw _ (List.mem_of_getElem? (i := 13) rfl))) (by decide) (backOf (W := 0) (rm2 l Z a0 hw [] x0 h0 n0 Z0) hZ (hw _ (List.mem_of_getElem? (i := 13) rfl)) (hw _ (List.mem_of_getElem? (i := 12) rfl)) (by decide) (by decide)) (g := (mkF m 1 #[.val (.ref x0), .val (.long x1), .second, .val (.int x2)] [(.ref x0)])) rfl (by rw [hml]; rfl) (Steps.refl _) (a := x0) (argsL := []) (rest := []) (lenOf pd_0 rfl) rfl (by show 2 * 0 + _ ≤ _; exact Nat.le_of_eq rfl) (hb hby d1_1) (fun _ _ => ⟨rfl, e0, (by decide : 0 + 0 ≤ _), (by decide : 0 + 0 ≤ _)⟩)
  dsimp only [Pt.U, Pt.locs, Pt.cells, Pt.slots] at X1 l1 y1 z1 st1 hQ1
  subst l1 y1 z1
  obtain ⟨rfl, N1q, e1⟩ := hQ1
  have N1 := Fr.app N0 N1q
  refine Ends.go st1 ?_
  show Ends p e below s _ _ _ (T1.setTop (mkF m 4 #[.val (.ref x0), .val (.long x1), .second, .val (.int x2)] []))
  refine Ends.by ?_ (fun _ k => XS.lloadN X1.here hx rfl (hb hby d1_4) rfl k)
  show Ends p e below s _ _ _ (T1.setTop (mkF m 5 #[.val (.ref x0), .val (.long x1), .second, .val (.int x2)] [(.long x1)]))
  refine Ends.by ?_ (fun _ k => XS.lconst X1.here hx rfl (hb hby d1_5) k)
  show Ends p e below s _ _ _ (T1.setTop (mkF m 6 #[.val (.ref x0), .val (.long x1), .second, .val (.int x2)] [(.long (1 : Int64)), (.long x1)]))
  refine Ends.by ?_ (fun _ k => XS.lcmp X1.here hx rfl (hb hby d1_6) rfl k)
  show Ends p e below s _ _ _ (T1.setTop (mkF m 7 #[.val (.ref x0), .val (.long x1), .second, .val (.int x2)] [(.int (XT.cmpL x1 (1 : Int64)))]))
  refine Ends.by ?_ (fun _ k => XS.ifNo X1.here hx rfl (hb hby d1_7) rfl (XT.ll_lt_f p1) k)
  show Ends p e below s _ _ _ (T1.setTop (mkF m 10 #[.val (.ref x0), .val (.long x1), .second, .val (.int x2)] []))
  refine Ends.by ?_ (fun _ k => XS.iloadN X1.here hx rfl (hb hby d1_10) rfl k)
  show Ends p e below s _ _ _ (T1.setTop (mkF m 11 #[.val (.ref x0), .val (.long x1), .second, .val (.int x2)] [(.int x2)]))
  refine Ends.by ?_ (fun _ k => XS.iconst X1.here hx rfl (hb hby d1_11) k)
  show Ends p e below s _ _ _ (T1.setTop (mkF m 12 #[.val (.ref x0), .val (.long x1), .second, .val (.int x2)] [(.int (1 : Int32)), (.int x2)]))
  refine Ends.by ?_ (fun _ k => XS.icmpNo X1.here hx rfl (hb hby d1_12) rfl (XT.ii_lt_f p2) k)
  show Ends p e below s _ _ _ (T1.setTop (mkF m 15 #[.val (.ref x0), .val (.long x1), .second, .val (.int x2)] []))
  refine Ends.by ?_ (fun _ k => XS.iloadN X1.here hx rfl (hb hby d1_15) rfl k)
  show Ends p e below s _ _ _ (T1.setTop (mkF m 16 #[.val (.ref x0), .val (.long x1), .second, .val (.int x2)] [(.int x2)]))
  refine Ends.by ?_ (fun _ k => XS.sipush X1.here hx rfl (hb hby d1_16) k)
  show Ends p e below s _ _ _ (T1.setTop (mkF m 19 #[.val (.ref x0), .val (.long x1), .second, .val (.int x2)] [(.int (1000 : Int32)), (.int x2)]))
  refine Ends.by ?_ (fun _ k => XS.icmpYes X1.here hx rfl (pc0 := 19) (pc' := 37) rfl (hb hby d1_19) rfl (XT.ii_le_t p3) (by decide) (by decide) k)
  show Ends p e below s _ _ _ (T1.setTop (mkF m 37 #[.val (.ref x0), .val (.long x1), .second, .val (.int x2)] []))
  refine Ends.by ?_ (fun _ k => XS.aloadN X1.here hx rfl (hb hby d1_37) rfl rfl k)
  show Ends p e below s _ _ _ (T1.setTop (mkF m 38 #[.val (.ref x0), .val (.long x1), .second, .val (.int x2)] [(.ref x0)]))
  refine Ends.by ?_ (fun _ k => XS.lloadN X1.here hx rfl (hb hby d1_38) rfl k)
  show Ends p e below s _ _ _ (T1.setTop (mkF m 39 #[.val (.ref x0), .val (.long x1), .second, .val (.int x2)] [(.long x1), (.ref x0)]))
  obtain ⟨T2, h2, X2, e2, W2, st2⟩ := putF X1 hx hZ hown (host := "") (Or.inl (hw _ (List.mem_of_getElem? (i := 17) rfl))) Via.refl e1 F1 E0 (Or.inr ⟨(hw _ (List.mem_of_getElem? (i := 18) rfl)), rfl, hnm⟩) (hw _ (List.mem_of_getElem? (i := 4) rfl)) (ty := .long) (by decide) rfl rfl (g := (mkF m 39 #[.val (.ref x0), .val (.long x1), .second, .val (.int x2)] [(.long x1), (.ref x0)])) rfl rfl (hb hby d1_39)
  have Fw2 := Fld.same W2 F1
  have f3 := Exa.wr W2 E0
  have f5 := Fld.other W2 F2 (Or.inr (slot_ne (Or.inr (hw _ (List.mem_of_getElem? (i := 20) rfl))) (Or.inr (hw _ (List.mem_of_getElem? (i := 18) rfl))) (by decide) (t := .int) (t' := .long) (by decide) (by decide)))
  have K6 := (Keep.refl h0 [x0]).wr W2 (Or.inl (by simp))
  have N2 := Fr.snoc X2 N1 g0
  have Zs7 : n0 ≤ h2.size := Nat.le_trans Z0 (Keep.of_wr W2).1
  refine Ends.by ?_ st2
  show Ends p e below s _ _ _ (T2.setTop (mkF m 42 #[.val (.ref x0), .val (.long x1), .second, .val (.int x2)] []))
  refine Ends.by ?_ (fun _ k => XS.aloadN X2.here hx rfl (hb hby d1_42) rfl rfl k)
  show Ends p e below s _ _ _ (T2.setTop (mkF m 43 #[.val (.ref x0), .val (.long x1), .second, .val (.int x2)] [(.ref x0)]))
  refine Ends.by ?_ (fun _ k => XS.iloadN X2.here hx rfl (hb hby d1_43) rfl k)
  show Ends p e below s _ _ _ (T2.setTop (mkF m 44 #[.val (.ref x0), .val (.long x1), .second, .val (.int x2)] [(.int x2), (.ref x0)]))
  obtain ⟨T8, h8, X8, e8, W8, st8⟩ := putF X2 hx hZ hown (host := "") (Or.inl (hw _ (List.mem_of_getElem? (i := 19) rfl))) Via.refl e2 f5 f3 (Or.inr ⟨(hw _ (List.mem_of_getElem? (i := 20) rfl)), rfl, hnm⟩) (hw _ (List.mem_of_getElem? (i := 4) rfl)) (ty := .int) (by decide) rfl rfl (g := (mkF m 44 #[.val (.ref x0), .val (.long x1), .second, .val (.int x2)] [(.int x2), (.ref x0)])) rfl rfl (hb hby d1_44)
  have Fw8 := Fld.same W8 f5
  have f9 := Exa.wr W8 f3
  have f10 := Fld.other W8 Fw2 (Or.inr (slot_ne (Or.inr (hw _ (List.mem_of_getElem? (i := 18) rfl))) (Or.inr (hw _ (List.mem_of_getElem? (i := 20) rfl))) (by decide) (t := .long) (t' := .int) (by decide) (by decide)))
  have K12 := K6.wr W8 (Or.inl (by simp))
  have N8 := Fr.snoc X8 N2 g0
  have Zs13 : n0 ≤ h8.size := Nat.le_trans Zs7 (Keep.of_wr W8).1
  refine Ends.by ?_ st8
  show Ends p e below s _ _ _ (T8.setTop (mkF m 47 #[.val (.ref x0), .val (.long x1), .second, .val (.int x2)] []))
  exact Ends.retV X8 hx Bd.notSynchronized Bd.returns (hb hby d1_47) (by rw [e8]; exact ⟨rfl, N8, K12, f9, f10, Fw8⟩) (by decide) (by decide)

theorem d4_0 : decode prog_48_method_3_code 0 = .ok (.aload_n 0, 1) := by decide +kernel
theorem d4_1 : decode prog_48_method_3_code 1 = .ok (.getfield 18, 3) := by decide +kernel
theorem d4_4 : decode prog_48_method_3_code 4 = .ok (.aload_n 0, 1) := by decide +kernel
theorem d4_5 : decode prog_48_method_3_code 5 = .ok (.getfield 24, 3) := by decide +kernel
theorem d4_8 : decode prog_48_method_3_code 8 = .ok (.i2l, 1) := by decide +kernel
theorem d4_9 : decode prog_48_method_3_code 9 = .ok (.ladd, 1) := by decide +kernel
theorem d4_10 : decode prog_48_method_3_code 10 = .ok (.lconst 1, 1) := by decide +kernel
theorem d4_11 : decode prog_48_method_3_code 11 = .ok (.lsub, 1) := by decide +kernel
theorem d4_12 : decode prog_48_method_3_code 12 = .ok (.lreturn, 1) := by decide +kernel
theorem ef_rm4 (m : MethodId) (x0 : Addr) : entryFrame m #[(.ref x0)] 1 = mkF m 0 #[.val (.ref x0)] [] := by first | (simp [entryFrame, mkF, argsToLocals, Value.category]; done) | rfl
set_option maxRecDepth 65536 in
set_option maxHeartbeats 40000000 in
theorem rm4 (l : Launch) (Z : State) (a0 : Array Value) (hw : ∀ d ∈ tables_1, d.before a0 Z = true) (ws : List Jvm.Cond) (x0 : Addr) (y1 : Int64) (y2 : Int32) (h0 : Heap) (n0 : Nat) (Z0 : n0 ≤ h0.size) (F1 : Fld Z h0 x0 "com/example/fiddlehead/fiddlehead/server/Page" "first" "J" (.long y1)) (F2 : Fld Z h0 x0 "com/example/fiddlehead/fiddlehead/server/Page" "size" "I" (.int y2)) :
    MetFree l (⟨"com/example/fiddlehead/fiddlehead/server/Page", "last", "()J"⟩ : MethodName) (head1 (Jvm.Cond.code (⟨"com/example/fiddlehead/fiddlehead/server/Page", "last", "()J"⟩ : MethodName) prog_48_method_3_code 1 (some .long) :: ws) ({ frames := 0, cells := 0, slots := 0, locals := 0 } : Room)) (fun a U => a = #[(.ref x0)] ∧ Z.Warmed39 U.vm ∧ U.heap = h0) (fun _ _ _ _ _ => True) (fun _ U o U' => ∃ v L, o = .returned v ∧ (QP (some (.long (y1 + y2.toInt64 - (1 : Int64)))) h0 n0) v U'.heap L ∧ FrameEnd U o U' L ({ frames := 0, cells := 0, slots := 0, locals := 0 } : Room).cells ({ frames := 0, cells := 0, slots := 0, locals := 0 } : Room).slots) := by
  refine MetFree.of_bodySF (plainFor_of_name pn_1) hisR ?_
  intro p e s m args below meth c s₁ Bd hml0 hP hK
  obtain ⟨rfl, hZ, hh⟩ := hP
  have hx := Bd.exec
  have hby := Bd.bytes
  have hml : c.maxLocals = 1 := hml0
  have hown : s.vm.findClass "com/example/fiddlehead/fiddlehead/server/Page" = some m.cls := findClass_of_methodNamed Bd.named
  have hnm := (name_of_methodNamed Bd.named Bd.method).1
  have X0 : Stand p l e ({ frames := 0, cells := 0, slots := 0, locals := 0 } : Room) s m #[(.ref x0)] below meth c s₁ [] 0 0 := Stand.of_body Bd
  have e0 : s₁.heap = h0 := by rw [← hh, Bd.state]; rfl
  have N0 := Fr.nil n0
  show Ends p e below s (QP (some (.long (y1 + y2.toInt64 - (1 : Int64)))) h0 n0) ({ frames := 0, cells := 0, slots := 0, locals := 0 } : Room).cells ({ frames := 0, cells := 0, slots := 0, locals := 0 } : Room).slots (s₁.setTop (entryFrame m #[(.ref x0)] 1))
  rw [ef_rm4 m x0]
  show Ends p e below s _ _ _ (s₁.setTop (mkF m 0 #[.val (.ref x0)] []))
  refine Ends.by ?_ (fun _ k => XS.aloadN X0.here hx rfl (hb hby d4_0) rfl rfl k)
  show Ends p e below s _ _ _ (s₁.setTop (mkF m 1 #[.val (.ref x0)] [(.ref x0)]))
  obtain ⟨T1, X1, e1, st1⟩ := getF X0 hx hZ hown (host := "") (Or.inl (hw _ (List.mem_of_getElem? (i := 17) rfl))) Via.refl e0 F1 (g := (mkF m 1 #[.val (.ref x0)] [(.ref x0)])) rfl rfl (hb hby d4_1)
  refine Ends.by ?_ st1
  show Ends p e below s _ _ _ (T1.setTop (mkF m 4 #[.val (.ref x0)] [(.long y1)]))
  refine Ends.by ?_ (fun _ k => XS.aloadN X1.here hx rfl (hb hby d4_4) rfl rfl k)
  show Ends p e below s _ _ _ (T1.setTop (mkF m 5 #[.val (.ref x0)] [(.ref x0), (.long y1)]))
  obtain ⟨T2, X2, e2, st2⟩ := getF X1 hx hZ hown (host := "") (Or.inl (hw _ (List.mem_of_getElem? (i := 19) rfl))) Via.refl e1 F2 (g := (mkF m 5 #[.val (.ref x0)] [(.ref x0), (.long y1)])) rfl rfl (hb hby d4_5)
  refine Ends.by ?_ st2
  show Ends p e below s _ _ _ (T2.setTop (mkF m 8 #[.val (.ref x0)] [(.int y2), (.long y1)]))
  refine Ends.by ?_ (fun _ k => XS.i2l X2.here hx rfl (hb hby d4_8) rfl k)
  show Ends p e below s _ _ _ (T2.setTop (mkF m 9 #[.val (.ref x0)] [(.long (y2.toInt64)), (.long y1)]))
  refine Ends.by ?_ (fun _ k => XS.ladd X2.here hx rfl (hb hby d4_9) rfl k)
  show Ends p e below s _ _ _ (T2.setTop (mkF m 10 #[.val (.ref x0)] [(.long (y1 + (y2.toInt64)))]))
  refine Ends.by ?_ (fun _ k => XS.lconst X2.here hx rfl (hb hby d4_10) k)
  show Ends p e below s _ _ _ (T2.setTop (mkF m 11 #[.val (.ref x0)] [(.long (1 : Int64)), (.long (y1 + (y2.toInt64)))]))
  refine Ends.by ?_ (fun _ k => XS.lsub X2.here hx rfl (hb hby d4_11) rfl k)
  show Ends p e below s _ _ _ (T2.setTop (mkF m 12 #[.val (.ref x0)] [(.long ((y1 + (y2.toInt64)) - (1 : Int64)))]))
  exact Ends.retJ X2 hx Bd.notSynchronized Bd.returns (hb hby d4_12) (by rw [e2]; exact ⟨rfl, N0, rfl⟩) (by decide) (by decide)

theorem own_first (x : Int64) : ∃ a : Int64, a = (x &&& (9223372036854775807 : Int64)) % (999999999999999999 : Int64) + (1 : Int64) ∧ 1 ≤ a.toInt ∧ a.toInt ≤ 999999999999999999 := by
  refine ⟨_, rfl, ?_⟩
  have h := c_maskL x 9223372036854775807 63 (by decide) (by decide)
  have h2 : ((x &&& (9223372036854775807 : Int64)) % (999999999999999999 : Int64)).toInt = (x &&& (9223372036854775807 : Int64)).toInt % 999999999999999999 := by
    rw [Int64.toInt_mod, (by decide : (999999999999999999 : Int64).toInt = 999999999999999999)]
    exact Int.tmod_eq_emod_of_nonneg (by omega)
  have h3 := c_ladd ((x &&& (9223372036854775807 : Int64)) % (999999999999999999 : Int64)) 1
  have h4 := rng64 ((x &&& (9223372036854775807 : Int64)) % (999999999999999999 : Int64) + 1)
  have e1 : (1 : Int64).toInt = 1 := rfl
  omega
theorem own_size (x : Int32) : ∃ a : Int32, a = (x &&& (2147483647 : Int32)) % (1000 : Int32) + (1 : Int32) ∧ 1 ≤ a.toInt ∧ a.toInt ≤ 1000 := by
  refine ⟨_, rfl, ?_⟩
  have h := c_mask x 2147483647 31 (by decide) (by decide)
  have h2 := (c_irem (x &&& (2147483647 : Int32)) 1000 1000 (by decide)).1 (by omega)
  have h3 := c_iadd ((x &&& (2147483647 : Int32)) % (1000 : Int32)) 1
  have h4 := rng32 ((x &&& (2147483647 : Int32)) % (1000 : Int32) + 1)
  have e1 : (1 : Int32).toInt = 1 := rfl
  omega
theorem own_last {a : Int64} {z : Int32} (h1 : 1 ≤ a.toInt) (h2 : a.toInt ≤ 2999999999999999999) (h3 : 1 ≤ z.toInt) (h4 : z.toInt ≤ 1000) : (a + z.toInt64 - (1 : Int64)).toInt = a.toInt + z.toInt - 1 := by
  have q1 := c_ladd a z.toInt64
  have q2 := c_i2l z
  have q3 := c_lsub (a + z.toInt64) 1
  have q4 := rng64 (a + z.toInt64)
  have q5 := rng64 (a + z.toInt64 - 1)
  have e1 : (1 : Int64).toInt = 1 := rfl
  omega
theorem own_diff {a b : Int64} {r : Int64} (h : b.toInt = a.toInt + r.toInt - 1) (ha : 1 ≤ a.toInt) (hb : 1 ≤ b.toInt) : (b - a + (1 : Int64)) = r := by
  have q1 := c_lsub b a
  have q2 := c_ladd (b - a) 1
  have q3 := rng64 (b - a)
  have q4 := rng64 (b - a + 1)
  have q5 := rng64 a
  have q6 := rng64 b
  have q7 := rng64 r
  have e1 : (1 : Int64).toInt = 1 := rfl
  apply Int64.toInt_inj.mp
  omega
theorem own_sum {z w : Int32} (h3 : 1 ≤ z.toInt) (h4 : z.toInt ≤ 1000) (h5 : 1 ≤ w.toInt) (h6 : w.toInt ≤ 1000) : (z.toInt64 + w.toInt64).toInt = z.toInt + w.toInt := by
  have q1 := c_ladd z.toInt64 w.toInt64
  have q2 := c_i2l z
  have q3 := c_i2l w
  have q4 := rng64 (z.toInt64 + w.toInt64)
  omega
theorem own_inc {b : Int64} (h : 1 ≤ b.toInt) (h2 : b.toInt ≤ 2999999999999999999) : (b + (1 : Int64)).toInt = b.toInt + 1 := by
  have q1 := c_ladd b 1
  have q2 := rng64 (b + 1)
  have e1 : (1 : Int64).toInt = 1 := rfl
  omega
theorem own_nlt64 {a b : Int64} (h : b.toInt ≤ a.toInt) : ¬ a < b := by rw [Int64.lt_iff_toInt_lt]; omega
theorem own_lt64 {a b : Int64} (h : a.toInt < b.toInt) : a < b := by rw [Int64.lt_iff_toInt_lt]; omega
theorem own_nlt32 {a b : Int32} (h : b.toInt ≤ a.toInt) : ¬ a < b := by rw [Int32.lt_iff_toInt_lt]; omega
theorem own_thou {a : Int64} (h1 : 1 ≤ a.toInt) (h2 : a.toInt ≤ 999999999999999999) : (a + (1000 : Int64)).toInt = a.toInt + 1000 := by
  have q1 := c_ladd a 1000
  have q2 := rng64 (a + 1000)
  have e1 : (1000 : Int64).toInt = 1000 := rfl
  omega
theorem pd_1 : parseMethodDescriptor "(JI)V" = some ⟨[.long, .int], none⟩ := by decide +kernel
theorem pd_2 : parseMethodDescriptor "()J" = some ⟨[], some .long⟩ := by decide +kernel
theorem ef_rm0 (m : MethodId) (x0 : Int64) (x1 : Int32) (x2 : Int32) : entryFrame m #[(.long x0), (.int x1), (.int x2)] maxLocals = mkF m 0 #[.val (.long x0), .second, .val (.int x1), .val (.int x2), .unset, .unset, .unset, .unset, .unset, .unset, .unset, .unset, .unset, .unset, .unset, .unset, .unset, .unset] [] := by first | (simp [entryFrame, mkF, argsToLocals, Value.category, maxLocals]; done) | rfl
theorem pn_2 : plainName "com/example/fiddlehead/fiddlehead/server/PageLastPinLaw" = true := by first | (simp [plainName, overriddenIn]; done) | decide +kernel
set_option maxRecDepth 65536 in
set_option maxHeartbeats 40000000 in
theorem rm0 (l : Launch) (Z : State) (a0 : Array Value) (hw : ∀ d ∈ tables_1, d.before a0 Z = true) (ws : List Jvm.Cond) (x0 : Int64) (x1 : Int32) (x2 : Int32) (h0 : Heap) (n0 : Nat) (Z0 : n0 ≤ h0.size) :
    MetFree l x (head1 (Jvm.Cond.code x code maxLocals ret :: ws) room_1) (fun a U => a = #[(.long x0), (.int x1), (.int x2)] ∧ Z.Warmed39 U.vm ∧ U.heap = h0) (fun _ _ _ _ _ => True) (fun _ U o U' => ∃ v L, o = .returned v ∧ (QL n0) v U'.heap L ∧ FrameEnd U o U' L room_1.cells room_1.slots) := by
  refine MetFree.of_bodySF (plainFor_of_name pn_2) hisR ?_
  intro p e s m args below meth c s₁ Bd hml0 hP hK
  obtain ⟨rfl, hZ, hh⟩ := hP
  have hx := Bd.exec
  have hby := Bd.bytes
  have hml : c.maxLocals = 18 := hml0
  have hown : s.vm.findClass "com/example/fiddlehead/fiddlehead/server/PageLastPinLaw" = some m.cls := findClass_of_methodNamed Bd.named
  have hnm := (name_of_methodNamed Bd.named Bd.method).1
  have X0 : Stand p l e room_1 s m #[(.long x0), (.int x1), (.int x2)] below meth c s₁ [] 0 0 := Stand.of_body Bd
  have e0 : s₁.heap = h0 := by rw [← hh, Bd.state]; rfl
  have N0 := Fr.nil n0
  show Ends p e below s (QL n0) room_1.cells room_1.slots (s₁.setTop (entryFrame m #[(.long x0), (.int x1), (.int x2)] maxLocals))
  rw [ef_rm0 m x0 x1 x2]
  show Ends p e below s _ _ _ (s₁.setTop (mkF m 0 #[.val (.long x0), .second, .val (.int x1), .val (.int x2), .unset, .unset, .unset, .unset, .unset, .unset, .unset, .unset, .unset, .unset, .unset, .unset, .unset, .unset] []))
  refine Ends.by ?_ (fun _ k => XS.lloadN X0.here hx rfl (hb hby at_0) rfl k)
  show Ends p e below s _ _ _ (s₁.setTop (mkF m 1 #[.val (.long x0), .second, .val (.int x1), .val (.int x2), .unset, .unset, .unset, .unset, .unset, .unset, .unset, .unset, .unset, .unset, .unset, .unset, .unset, .unset] [(.long x0)]))
  refine Ends.by ?_ (X0.ldc2Long hx hown (mvT hZ (hw _ (List.mem_of_getElem? (i := 0) rfl))) (g := (mkF m 1 #[.val (.long x0), .second, .val (.int x1), .val (.int x2), .unset, .unset, .unset, .unset, .unset, .unset, .unset, .unset, .unset, .unset, .unset, .unset, .unset, .unset] [(.long x0)])) rfl (hb hby at_1))
  show Ends p e below s _ _ _ (s₁.setTop (mkF m 4 #[.val (.long x0), .second, .val (.int x1), .val (.int x2), .unset, .unset, .unset, .unset, .unset, .unset, .unset, .unset, .unset, .unset, .unset, .unset, .unset, .unset] [(.long (9223372036854775807 : Int64)), (.long x0)]))
  refine Ends.by ?_ (fun _ k => XS.land X0.here hx rfl (hb hby at_4) rfl k)
  show Ends p e below s _ _ _ (s₁.setTop (mkF m 5 #[.val (.long x0), .second, .val (.int x1), .val (.int x2), .unset, .unset, .unset, .unset, .unset, .unset, .unset, .unset, .unset, .unset, .unset, .unset, .unset, .unset] [(.long (x0 &&& (9223372036854775807 : Int64)))]))
  refine Ends.by ?_ (X0.ldc2Long hx hown (mvT hZ (hw _ (List.mem_of_getElem? (i := 1) rfl))) (g := (mkF m 5 #[.val (.long x0), .second, .val (.int x1), .val (.int x2), .unset, .unset, .unset, .unset, .unset, .unset, .unset, .unset, .unset, .unset, .unset, .unset, .unset, .unset] [(.long (x0 &&& (9223372036854775807 : Int64)))])) rfl (hb hby at_5))
  show Ends p e below s _ _ _ (s₁.setTop (mkF m 8 #[.val (.long x0), .second, .val (.int x1), .val (.int x2), .unset, .unset, .unset, .unset, .unset, .unset, .unset, .unset, .unset, .unset, .unset, .unset, .unset, .unset] [(.long (999999999999999999 : Int64)), (.long (x0 &&& (9223372036854775807 : Int64)))]))
  refine Ends.by ?_ (fun _ k => lremM X0 hx rfl (hb hby at_8) rfl (by decide) k)
  show Ends p e below s _ _ _ (s₁.setTop (mkF m 9 #[.val (.long x0), .second, .val (.int x1), .val (.int x2), .unset, .unset, .unset, .unset, .unset, .unset, .unset, .unset, .unset, .unset, .unset, .unset, .unset, .unset] [(.long ((x0 &&& (9223372036854775807 : Int64)) % (999999999999999999 : Int64)))]))
  refine Ends.by ?_ (fun _ k => XS.lconst X0.here hx rfl (hb hby at_9) k)
  show Ends p e below s _ _ _ (s₁.setTop (mkF m 10 #[.val (.long x0), .second, .val (.int x1), .val (.int x2), .unset, .unset, .unset, .unset, .unset, .unset, .unset, .unset, .unset, .unset, .unset, .unset, .unset, .unset] [(.long (1 : Int64)), (.long ((x0 &&& (9223372036854775807 : Int64)) % (999999999999999999 : Int64)))]))
  refine Ends.by ?_ (fun _ k => XS.ladd X0.here hx rfl (hb hby at_10) rfl k)
  show Ends p e below s _ _ _ (s₁.setTop (mkF m 11 #[.val (.long x0), .second, .val (.int x1), .val (.int x2), .unset, .unset, .unset, .unset, .unset, .unset, .unset, .unset, .unset, .unset, .unset, .unset, .unset, .unset] [(.long (((x0 &&& (9223372036854775807 : Int64)) % (999999999999999999 : Int64)) + (1 : Int64)))]))
  refine Ends.by ?_ (fun _ k => XS.lstore X0.here hx rfl (hb hby at_11) rfl (l' := #[.val (.long x0), .second, .val (.int x1), .val (.int x2), .val (.long (((x0 &&& (9223372036854775807 : Int64)) % (999999999999999999 : Int64)) + (1 : Int64))), .second, .unset, .unset, .unset, .unset, .unset, .unset, .unset, .unset, .unset, .unset, .unset, .unset]) rfl k)
  show Ends p e below s _ _ _ (s₁.setTop (mkF m 13 #[.val (.long x0), .second, .val (.int x1), .val (.int x2), .val (.long (((x0 &&& (9223372036854775807 : Int64)) % (999999999999999999 : Int64)) + (1 : Int64))), .second, .unset, .unset, .unset, .unset, .unset, .unset, .unset, .unset, .unset, .unset, .unset, .unset] []))
  refine Ends.by ?_ (fun _ k => XS.iloadN X0.here hx rfl (hb hby at_13) rfl k)
  show Ends p e below s _ _ _ (s₁.setTop (mkF m 14 #[.val (.long x0), .second, .val (.int x1), .val (.int x2), .val (.long (((x0 &&& (9223372036854775807 : Int64)) % (999999999999999999 : Int64)) + (1 : Int64))), .second, .unset, .unset, .unset, .unset, .unset, .unset, .unset, .unset, .unset, .unset, .unset, .unset] [(.int x1)]))
  refine Ends.by ?_ (X0.ldcInt hx hown (mvT hZ (hw _ (List.mem_of_getElem? (i := 2) rfl))) (g := (mkF m 14 #[.val (.long x0), .second, .val (.int x1), .val (.int x2), .val (.long (((x0 &&& (9223372036854775807 : Int64)) % (999999999999999999 : Int64)) + (1 : Int64))), .second, .unset, .unset, .unset, .unset, .unset, .unset, .unset, .unset, .unset, .unset, .unset, .unset] [(.int x1)])) rfl (hb hby at_14))
  show Ends p e below s _ _ _ (s₁.setTop (mkF m 16 #[.val (.long x0), .second, .val (.int x1), .val (.int x2), .val (.long (((x0 &&& (9223372036854775807 : Int64)) % (999999999999999999 : Int64)) + (1 : Int64))), .second, .unset, .unset, .unset, .unset, .unset, .unset, .unset, .unset, .unset, .unset, .unset, .unset] [(.int (2147483647 : Int32)), (.int x1)]))
  refine Ends.by ?_ (fun _ k => XS.iand X0.here hx rfl (hb hby at_16) rfl k)
  show Ends p e below s _ _ _ (s₁.setTop (mkF m 17 #[.val (.long x0), .second, .val (.int x1), .val (.int x2), .val (.long (((x0 &&& (9223372036854775807 : Int64)) % (999999999999999999 : Int64)) + (1 : Int64))), .second, .unset, .unset, .unset, .unset, .unset, .unset, .unset, .unset, .unset, .unset, .unset, .unset] [(.int (x1 &&& (2147483647 : Int32)))]))
  refine Ends.by ?_ (fun _ k => XS.sipush X0.here hx rfl (hb hby at_17) k)
  show Ends p e below s _ _ _ (s₁.setTop (mkF m 20 #[.val (.long x0), .second, .val (.int x1), .val (.int x2), .val (.long (((x0 &&& (9223372036854775807 : Int64)) % (999999999999999999 : Int64)) + (1 : Int64))), .second, .unset, .unset, .unset, .unset, .unset, .unset, .unset, .unset, .unset, .unset, .unset, .unset] [(.int (1000 : Int32)), (.int (x1 &&& (2147483647 : Int32)))]))
  refine Ends.by ?_ (fun _ k => iremM X0 hx rfl (hb hby at_20) rfl (by decide) k)
  show Ends p e below s _ _ _ (s₁.setTop (mkF m 21 #[.val (.long x0), .second, .val (.int x1), .val (.int x2), .val (.long (((x0 &&& (9223372036854775807 : Int64)) % (999999999999999999 : Int64)) + (1 : Int64))), .second, .unset, .unset, .unset, .unset, .unset, .unset, .unset, .unset, .unset, .unset, .unset, .unset] [(.int ((x1 &&& (2147483647 : Int32)) % (1000 : Int32)))]))
  refine Ends.by ?_ (fun _ k => XS.iconst X0.here hx rfl (hb hby at_21) k)
  show Ends p e below s _ _ _ (s₁.setTop (mkF m 22 #[.val (.long x0), .second, .val (.int x1), .val (.int x2), .val (.long (((x0 &&& (9223372036854775807 : Int64)) % (999999999999999999 : Int64)) + (1 : Int64))), .second, .unset, .unset, .unset, .unset, .unset, .unset, .unset, .unset, .unset, .unset, .unset, .unset] [(.int (1 : Int32)), (.int ((x1 &&& (2147483647 : Int32)) % (1000 : Int32)))]))
  refine Ends.by ?_ (fun _ k => XS.iadd X0.here hx rfl (hb hby at_22) rfl k)
  show Ends p e below s _ _ _ (s₁.setTop (mkF m 23 #[.val (.long x0), .second, .val (.int x1), .val (.int x2), .val (.long (((x0 &&& (9223372036854775807 : Int64)) % (999999999999999999 : Int64)) + (1 : Int64))), .second, .unset, .unset, .unset, .unset, .unset, .unset, .unset, .unset, .unset, .unset, .unset, .unset] [(.int (((x1 &&& (2147483647 : Int32)) % (1000 : Int32)) + (1 : Int32)))]))
  refine Ends.by ?_ (fun _ k => XS.istore X0.here hx rfl (hb hby at_23) rfl (l' := #[.val (.long x0), .second, .val (.int x1), .val (.int x2), .val (.long (((x0 &&& (9223372036854775807 : Int64)) % (999999999999999999 : Int64)) + (1 : Int64))), .second, .val (.int (((x1 &&& (2147483647 : Int32)) % (1000 : Int32)) + (1 : Int32))), .unset, .unset, .unset, .unset, .unset, .unset, .unset, .unset, .unset, .unset, .unset]) rfl k)
  show Ends p e below s _ _ _ (s₁.setTop (mkF m 25 #[.val (.long x0), .second, .val (.int x1), .val (.int x2), .val (.long (((x0 &&& (9223372036854775807 : Int64)) % (999999999999999999 : Int64)) + (1 : Int64))), .second, .val (.int (((x1 &&& (2147483647 : Int32)) % (1000 : Int32)) + (1 : Int32))), .unset, .unset, .unset, .unset, .unset, .unset, .unset, .unset, .unset, .unset, .unset] []))
  refine Ends.by ?_ (fun _ k => XS.iloadN X0.here hx rfl (hb hby at_25) rfl k)
  show Ends p e below s _ _ _ (s₁.setTop (mkF m 26 #[.val (.long x0), .second, .val (.int x1), .val (.int x2), .val (.long (((x0 &&& (9223372036854775807 : Int64)) % (999999999999999999 : Int64)) + (1 : Int64))), .second, .val (.int (((x1 &&& (2147483647 : Int32)) % (1000 : Int32)) + (1 : Int32))), .unset, .unset, .unset, .unset, .unset, .unset, .unset, .unset, .unset, .unset, .unset] [(.int x2)]))
  refine Ends.by ?_ (X0.ldcInt hx hown (mvT hZ (hw _ (List.mem_of_getElem? (i := 2) rfl))) (g := (mkF m 26 #[.val (.long x0), .second, .val (.int x1), .val (.int x2), .val (.long (((x0 &&& (9223372036854775807 : Int64)) % (999999999999999999 : Int64)) + (1 : Int64))), .second, .val (.int (((x1 &&& (2147483647 : Int32)) % (1000 : Int32)) + (1 : Int32))), .unset, .unset, .unset, .unset, .unset, .unset, .unset, .unset, .unset, .unset, .unset] [(.int x2)])) rfl (hb hby at_26))
  show Ends p e below s _ _ _ (s₁.setTop (mkF m 28 #[.val (.long x0), .second, .val (.int x1), .val (.int x2), .val (.long (((x0 &&& (9223372036854775807 : Int64)) % (999999999999999999 : Int64)) + (1 : Int64))), .second, .val (.int (((x1 &&& (2147483647 : Int32)) % (1000 : Int32)) + (1 : Int32))), .unset, .unset, .unset, .unset, .unset, .unset, .unset, .unset, .unset, .unset, .unset] [(.int (2147483647 : Int32)), (.int x2)]))
  refine Ends.by ?_ (fun _ k => XS.iand X0.here hx rfl (hb hby at_28) rfl k)
  show Ends p e below s _ _ _ (s₁.setTop (mkF m 29 #[.val (.long x0), .second, .val (.int x1), .val (.int x2), .val (.long (((x0 &&& (9223372036854775807 : Int64)) % (999999999999999999 : Int64)) + (1 : Int64))), .second, .val (.int (((x1 &&& (2147483647 : Int32)) % (1000 : Int32)) + (1 : Int32))), .unset, .unset, .unset, .unset, .unset, .unset, .unset, .unset, .unset, .unset, .unset] [(.int (x2 &&& (2147483647 : Int32)))]))
  refine Ends.by ?_ (fun _ k => XS.sipush X0.here hx rfl (hb hby at_29) k)
  show Ends p e below s _ _ _ (s₁.setTop (mkF m 32 #[.val (.long x0), .second, .val (.int x1), .val (.int x2), .val (.long (((x0 &&& (9223372036854775807 : Int64)) % (999999999999999999 : Int64)) + (1 : Int64))), .second, .val (.int (((x1 &&& (2147483647 : Int32)) % (1000 : Int32)) + (1 : Int32))), .unset, .unset, .unset, .unset, .unset, .unset, .unset, .unset, .unset, .unset, .unset] [(.int (1000 : Int32)), (.int (x2 &&& (2147483647 : Int32)))]))
  refine Ends.by ?_ (fun _ k => iremM X0 hx rfl (hb hby at_32) rfl (by decide) k)
  show Ends p e below s _ _ _ (s₁.setTop (mkF m 33 #[.val (.long x0), .second, .val (.int x1), .val (.int x2), .val (.long (((x0 &&& (9223372036854775807 : Int64)) % (999999999999999999 : Int64)) + (1 : Int64))), .second, .val (.int (((x1 &&& (2147483647 : Int32)) % (1000 : Int32)) + (1 : Int32))), .unset, .unset, .unset, .unset, .unset, .unset, .unset, .unset, .unset, .unset, .unset] [(.int ((x2 &&& (2147483647 : Int32)) % (1000 : Int32)))]))
  refine Ends.by ?_ (fun _ k => XS.iconst X0.here hx rfl (hb hby at_33) k)
  show Ends p e below s _ _ _ (s₁.setTop (mkF m 34 #[.val (.long x0), .second, .val (.int x1), .val (.int x2), .val (.long (((x0 &&& (9223372036854775807 : Int64)) % (999999999999999999 : Int64)) + (1 : Int64))), .second, .val (.int (((x1 &&& (2147483647 : Int32)) % (1000 : Int32)) + (1 : Int32))), .unset, .unset, .unset, .unset, .unset, .unset, .unset, .unset, .unset, .unset, .unset] [(.int (1 : Int32)), (.int ((x2 &&& (2147483647 : Int32)) % (1000 : Int32)))]))
  refine Ends.by ?_ (fun _ k => XS.iadd X0.here hx rfl (hb hby at_34) rfl k)
  show Ends p e below s _ _ _ (s₁.setTop (mkF m 35 #[.val (.long x0), .second, .val (.int x1), .val (.int x2), .val (.long (((x0 &&& (9223372036854775807 : Int64)) % (999999999999999999 : Int64)) + (1 : Int64))), .second, .val (.int (((x1 &&& (2147483647 : Int32)) % (1000 : Int32)) + (1 : Int32))), .unset, .unset, .unset, .unset, .unset, .unset, .unset, .unset, .unset, .unset, .unset] [(.int (((x2 &&& (2147483647 : Int32)) % (1000 : Int32)) + (1 : Int32)))]))
  refine Ends.by ?_ (fun _ k => XS.istore X0.here hx rfl (hb hby at_35) rfl (l' := #[.val (.long x0), .second, .val (.int x1), .val (.int x2), .val (.long (((x0 &&& (9223372036854775807 : Int64)) % (999999999999999999 : Int64)) + (1 : Int64))), .second, .val (.int (((x1 &&& (2147483647 : Int32)) % (1000 : Int32)) + (1 : Int32))), .val (.int (((x2 &&& (2147483647 : Int32)) % (1000 : Int32)) + (1 : Int32))), .unset, .unset, .unset, .unset, .unset, .unset, .unset, .unset, .unset, .unset]) rfl k)
  show Ends p e below s _ _ _ (s₁.setTop (mkF m 37 #[.val (.long x0), .second, .val (.int x1), .val (.int x2), .val (.long (((x0 &&& (9223372036854775807 : Int64)) % (999999999999999999 : Int64)) + (1 : Int64))), .second, .val (.int (((x1 &&& (2147483647 : Int32)) % (1000 : Int32)) + (1 : Int32))), .val (.int (((x2 &&& (2147483647 : Int32)) % (1000 : Int32)) + (1 : Int32))), .unset, .unset, .unset, .unset, .unset, .unset, .unset, .unset, .unset, .unset] []))
  obtain ⟨fi, hfi, fi1, fi2⟩ := own_first x0
  rw [← hfi]
  obtain ⟨sa, hsa, sa1, sa2⟩ := own_size x1
  rw [← hsa]
  obtain ⟨sb, hsb, sb1, sb2⟩ := own_size x2
  rw [← hsb]
  show Ends p e below s _ _ _ (s₁.setTop (mkF m 37 #[.val (.long x0), .second, .val (.int x1), .val (.int x2), .val (.long fi), .second, .val (.int sa), .val (.int sb), .unset, .unset, .unset, .unset, .unset, .unset, .unset, .unset, .unset, .unset] []))
  obtain ⟨T1, h1, X1, e1, E1, A1, D1, -, st1⟩ := newO X0 hx hZ hown (hw _ (List.mem_of_getElem? (i := 3) rfl)) (hw _ (List.mem_of_getElem? (i := 4) rfl)) (hw _ (List.mem_of_getElem? (i := 5) rfl)) e0 (g := (mkF m 37 #[.val (.long x0), .second, .val (.int x1), .val (.int x2), .val (.long fi), .second, .val (.int sa), .val (.int sb), .unset, .unset, .unset, .unset, .unset, .unset, .unset, .unset, .unset, .unset] [])) rfl (hb hby at_37) (by decide) (by decide)
  obtain ⟨b1, g1⟩ : ∃ z, z = h0.size := ⟨_, rfl⟩
  rw [← g1] at A1 D1 st1
  have gn1 : n0 ≤ b1 := Nat.le_trans Z0 (Nat.le_of_eq g1.symm)
  have F1_first : Fld Z h1 b1 "com/example/fiddlehead/fiddlehead/server/Page" "first" "J" (.long (0 : Int64)) := D1 (Or.inr (hw _ (List.mem_of_getElem? (i := 18) rfl))) (ty := .long) (by decide)
  have F1_size : Fld Z h1 b1 "com/example/fiddlehead/fiddlehead/server/Page" "size" "I" (.int (0 : Int32)) := D1 (Or.inr (hw _ (List.mem_of_getElem? (i := 20) rfl))) (ty := .int) (by decide)
  have Zs2 : n0 ≤ h1.size := Nat.le_trans Z0 E1.1
  refine Ends.by ?_ st1
  show Ends p e below s _ _ _ (T1.setTop (mkF m 40 #[.val (.long x0), .second, .val (.int x1), .val (.int x2), .val (.long fi), .second, .val (.int sa), .val (.int sb), .unset, .unset, .unset, .unset, .unset, .unset, .unset, .unset, .unset, .unset] [(.ref b1)]))
  refine Ends.by ?_ (fun _ k => XS.dup X1.here hx rfl (hb hby at_40) rfl rfl k)
  show Ends p e below s _ _ _ (T1.setTop (mkF m 41 #[.val (.long x0), .second, .val (.int x1), .val (.int x2), .val (.long fi), .second, .val (.int sa), .val (.int sb), .unset, .unset, .unset, .unset, .unset, .unset, .unset, .unset, .unset, .unset] [(.ref b1), (.ref b1)]))
  refine Ends.by ?_ (fun _ k => XS.lload X1.here hx rfl (hb hby at_41) rfl k)
  show Ends p e below s _ _ _ (T1.setTop (mkF m 43 #[.val (.long x0), .second, .val (.int x1), .val (.int x2), .val (.long fi), .second, .val (.int sa), .val (.int sb), .unset, .unset, .unset, .unset, .unset, .unset, .unset, .unset, .unset, .unset] [(.long fi), (.ref b1), (.ref b1)]))
  refine Ends.by ?_ (fun _ k => XS.iload X1.here hx rfl (hb hby at_43) rfl k)
  show Ends p e below s _ _ _ (T1.setTop (mkF m 45 #[.val (.long x0), .second, .val (.int x1), .val (.int x2), .val (.long fi), .second, .val (.int sa), .val (.int sb), .unset, .unset, .unset, .unset, .unset, .unset, .unset, .unset, .unset, .unset] [(.int sa), (.long fi), (.ref b1), (.ref b1)]))
  obtain ⟨v3, _, ⟨T3, L3, k3, n3⟩, -, X3, ⟨Lc3, hQ3, l3, y3, z3⟩, st3⟩ := X1.specialBack hx (y := (⟨"com/example/fiddlehead/fiddlehead/server/Page", "<init>", "(JI)V"⟩ : MethodName)) rfl hown (mvT hZ (hw _ (List.mem_of_getElem? (i := 6) rfl))) (mvT hZ (hw _ (List.mem_of_getElem? (i := 7) rfl))) (mvT hZ (hw _ (List.mem_of_getElem? (i := 8) rfl))) (by decide) (backOf (W := 1) (rm1 l Z a0 hw [] b1 fi sa h1 n0 Zs2 A1 F1_first F1_size gn1 (own_nlt64 (by have e1 : (1 : Int64).toInt = 1 := rfl; omega)) (own_nlt32 (by have e1 : (1 : Int32).toInt = 1 := rfl; omega)) (own_nlt32 (by have e1 : (1000 : Int32).toInt = 1000 := rfl; omega))) hZ (hw _ (List.mem_of_getElem? (i := 8) rfl)) (hw _ (List.mem_of_getElem? (i := 5) rfl)) (by decide) (by decide)) (g := (mkF m 45 #[.val (.long x0), .second, .val (.int x1), .val (.int x2), .val (.long fi), .second, .val (.int sa), .val (.int sb), .unset, .unset, .unset, .unset, .unset, .unset, .unset, .unset, .unset, .unset] [(.int sa), (.long fi), (.ref b1), (.ref b1)])) rfl (by rw [hml]; rfl) (Steps.refl _) (a := b1) (argsL := [(.long fi), (.int sa)]) (rest := [(.ref b1)]) (lenOf pd_1 rfl) rfl (by show 2 * 0 + _ ≤ _; exact Nat.le_of_eq rfl) (hb hby at_45) (fun _ _ => ⟨rfl, e1, (by decide : 1 + 0 ≤ _), (by decide : 2 + 0 ≤ _)⟩)
  dsimp only [Pt.U, Pt.locs, Pt.cells, Pt.slots] at X3 l3 y3 z3 st3 hQ3
  subst l3 y3 z3
  obtain ⟨rfl, N3q, K3, Ex3, Fa3, Fb3⟩ := hQ3
  have N3 := Fr.app N0 N3q
  have f4 := A1.keep K3
  have Zs7 : n0 ≤ T3.heap.size := Nat.le_trans Zs2 K3.1
  refine Ends.go st3 ?_
  show Ends p e below s _ _ _ (T3.setTop (mkF m 48 #[.val (.long x0), .second, .val (.int x1), .val (.int x2), .val (.long fi), .second, .val (.int sa), .val (.int sb), .unset, .unset, .unset, .unset, .unset, .unset, .unset, .unset, .unset, .unset] [(.ref b1)]))
  refine Ends.by ?_ (fun _ k => XS.astore X3.here hx rfl (hb hby at_48) rfl rfl (l' := #[.val (.long x0), .second, .val (.int x1), .val (.int x2), .val (.long fi), .second, .val (.int sa), .val (.int sb), .val (.ref b1), .unset, .unset, .unset, .unset, .unset, .unset, .unset, .unset, .unset]) rfl k)
  show Ends p e below s _ _ _ (T3.setTop (mkF m 50 #[.val (.long x0), .second, .val (.int x1), .val (.int x2), .val (.long fi), .second, .val (.int sa), .val (.int sb), .val (.ref b1), .unset, .unset, .unset, .unset, .unset, .unset, .unset, .unset, .unset] []))
  refine Ends.by ?_ (fun _ k => XS.aload X3.here hx rfl (hb hby at_50) rfl rfl k)
  show Ends p e below s _ _ _ (T3.setTop (mkF m 52 #[.val (.long x0), .second, .val (.int x1), .val (.int x2), .val (.long fi), .second, .val (.int sa), .val (.int sb), .val (.ref b1), .unset, .unset, .unset, .unset, .unset, .unset, .unset, .unset, .unset] [(.ref b1)]))
  obtain ⟨cq8, kq8, q8a, q8b, q8c⟩ := isOf hZ rfl Ex3
  obtain ⟨v8, _, ⟨T8, L8, k8, n8⟩, -, X8, ⟨Lc8, hQ8, l8, y8, z8⟩, st8⟩ := X3.virtualBack hx (y := (⟨"com/example/fiddlehead/fiddlehead/server/Page", "last", "()J"⟩ : MethodName)) (z := (⟨"com/example/fiddlehead/fiddlehead/server/Page", "last", "()J"⟩ : MethodName)) hown (mvT hZ (hw _ (List.mem_of_getElem? (i := 21) rfl))) (mvT hZ (hw _ (List.mem_of_getElem? (i := 22) rfl))) (notFace_of_selects (args := #[]) (mvT hZ (hw _ (List.mem_of_getElem? (i := 24) rfl)))) (mvT hZ (hw _ (List.mem_of_getElem? (i := 24) rfl))) (mvT hZ (hw _ (List.mem_of_getElem? (i := 23) rfl))) (by decide) (backOf (W := 0) (rm4 l Z a0 hw [] b1 fi sa T3.heap n0 Zs7 Fa3 Fb3) hZ (hw _ (List.mem_of_getElem? (i := 25) rfl)) (hw _ (List.mem_of_getElem? (i := 5) rfl)) (by decide) (by decide)) q8a q8c (g := (mkF m 52 #[.val (.long x0), .second, .val (.int x1), .val (.int x2), .val (.long fi), .second, .val (.int sa), .val (.int sb), .val (.ref b1), .unset, .unset, .unset, .unset, .unset, .unset, .unset, .unset, .unset] [(.ref b1)])) rfl (by rw [hml]; rfl) (Steps.refl _) (argsL := []) (rest := []) (lenOf pd_2 rfl) rfl (by show 2 * 0 + _ ≤ _; exact Nat.le_of_eq rfl) (hb hby at_52) (fun _ _ => ⟨rfl, rfl, (by decide : 1 + 0 ≤ _), (by decide : 2 + 0 ≤ _)⟩)
  dsimp only [Pt.U, Pt.locs, Pt.cells, Pt.slots] at X8 l8 y8 z8 st8 hQ8
  subst l8 y8 z8
  obtain ⟨rfl, N8q, e8⟩ := hQ8
  have N8 := Fr.app N3 N8q
  refine Ends.go st8 ?_
  show Ends p e below s _ _ _ (T8.setTop (mkF m 55 #[.val (.long x0), .second, .val (.int x1), .val (.int x2), .val (.long fi), .second, .val (.int sa), .val (.int sb), .val (.ref b1), .unset, .unset, .unset, .unset, .unset, .unset, .unset, .unset, .unset] [(.long (fi + sa.toInt64 - (1 : Int64)))]))
  obtain ⟨la, hla⟩ : ∃ z : Int64, z = (fi + sa.toInt64 - (1 : Int64)) := ⟨_, rfl⟩
  rw [← hla]
  show Ends p e below s _ _ _ (T8.setTop (mkF m 55 #[.val (.long x0), .second, .val (.int x1), .val (.int x2), .val (.long fi), .second, .val (.int sa), .val (.int sb), .val (.ref b1), .unset, .unset, .unset, .unset, .unset, .unset, .unset, .unset, .unset] [(.long la)]))
  have hl : la.toInt = fi.toInt + sa.toInt - 1 := by rw [hla]; exact own_last (by omega) (by omega) (by omega) (by omega)
  clear hla
  refine Ends.by ?_ (fun _ k => XS.lstore X8.here hx rfl (hb hby at_55) rfl (l' := #[.val (.long x0), .second, .val (.int x1), .val (.int x2), .val (.long fi), .second, .val (.int sa), .val (.int sb), .val (.ref b1), .val (.long la), .second, .unset, .unset, .unset, .unset, .unset, .unset, .unset]) rfl k)
  show Ends p e below s _ _ _ (T8.setTop (mkF m 57 #[.val (.long x0), .second, .val (.int x1), .val (.int x2), .val (.long fi), .second, .val (.int sa), .val (.int sb), .val (.ref b1), .val (.long la), .second, .unset, .unset, .unset, .unset, .unset, .unset, .unset] []))
  refine Ends.by ?_ (fun _ k => XS.lload X8.here hx rfl (hb hby at_57) rfl k)
  show Ends p e below s _ _ _ (T8.setTop (mkF m 59 #[.val (.long x0), .second, .val (.int x1), .val (.int x2), .val (.long fi), .second, .val (.int sa), .val (.int sb), .val (.ref b1), .val (.long la), .second, .unset, .unset, .unset, .unset, .unset, .unset, .unset] [(.long la)]))
  refine Ends.by ?_ (fun _ k => XS.lload X8.here hx rfl (hb hby at_59) rfl k)
  show Ends p e below s _ _ _ (T8.setTop (mkF m 61 #[.val (.long x0), .second, .val (.int x1), .val (.int x2), .val (.long fi), .second, .val (.int sa), .val (.int sb), .val (.ref b1), .val (.long la), .second, .unset, .unset, .unset, .unset, .unset, .unset, .unset] [(.long fi), (.long la)]))
  refine Ends.by ?_ (fun _ k => XS.lsub X8.here hx rfl (hb hby at_61) rfl k)
  show Ends p e below s _ _ _ (T8.setTop (mkF m 62 #[.val (.long x0), .second, .val (.int x1), .val (.int x2), .val (.long fi), .second, .val (.int sa), .val (.int sb), .val (.ref b1), .val (.long la), .second, .unset, .unset, .unset, .unset, .unset, .unset, .unset] [(.long (la - fi))]))
  refine Ends.by ?_ (fun _ k => XS.lconst X8.here hx rfl (hb hby at_62) k)
  show Ends p e below s _ _ _ (T8.setTop (mkF m 63 #[.val (.long x0), .second, .val (.int x1), .val (.int x2), .val (.long fi), .second, .val (.int sa), .val (.int sb), .val (.ref b1), .val (.long la), .second, .unset, .unset, .unset, .unset, .unset, .unset, .unset] [(.long (1 : Int64)), (.long (la - fi))]))
  refine Ends.by ?_ (fun _ k => XS.ladd X8.here hx rfl (hb hby at_63) rfl k)
  show Ends p e below s _ _ _ (T8.setTop (mkF m 64 #[.val (.long x0), .second, .val (.int x1), .val (.int x2), .val (.long fi), .second, .val (.int sa), .val (.int sb), .val (.ref b1), .val (.long la), .second, .unset, .unset, .unset, .unset, .unset, .unset, .unset] [(.long ((la - fi) + (1 : Int64)))]))
  refine Ends.by ?_ (fun _ k => XS.iload X8.here hx rfl (hb hby at_64) rfl k)
  show Ends p e below s _ _ _ (T8.setTop (mkF m 66 #[.val (.long x0), .second, .val (.int x1), .val (.int x2), .val (.long fi), .second, .val (.int sa), .val (.int sb), .val (.ref b1), .val (.long la), .second, .unset, .unset, .unset, .unset, .unset, .unset, .unset] [(.int sa), (.long ((la - fi) + (1 : Int64)))]))
  refine Ends.by ?_ (fun _ k => XS.i2l X8.here hx rfl (hb hby at_66) rfl k)
  show Ends p e below s _ _ _ (T8.setTop (mkF m 67 #[.val (.long x0), .second, .val (.int x1), .val (.int x2), .val (.long fi), .second, .val (.int sa), .val (.int sb), .val (.ref b1), .val (.long la), .second, .unset, .unset, .unset, .unset, .unset, .unset, .unset] [(.long (sa.toInt64)), (.long ((la - fi) + (1 : Int64)))]))
  refine Ends.by ?_ (fun _ k => XS.lcmp X8.here hx rfl (hb hby at_67) rfl k)
  show Ends p e below s _ _ _ (T8.setTop (mkF m 68 #[.val (.long x0), .second, .val (.int x1), .val (.int x2), .val (.long fi), .second, .val (.int sa), .val (.int sb), .val (.ref b1), .val (.long la), .second, .unset, .unset, .unset, .unset, .unset, .unset, .unset] [(.int (XT.cmpL ((la - fi) + (1 : Int64)) (sa.toInt64)))]))
  refine Ends.by ?_ (fun _ k => XS.ifNo X8.here hx rfl (hb hby at_68) rfl (XT.ll_ne_f (own_diff (by rw [c_i2l]; omega) (by omega) (by omega) : ((la - fi) + (1 : Int64)) = (sa.toInt64))) k)
  show Ends p e below s _ _ _ (T8.setTop (mkF m 71 #[.val (.long x0), .second, .val (.int x1), .val (.int x2), .val (.long fi), .second, .val (.int sa), .val (.int sb), .val (.ref b1), .val (.long la), .second, .unset, .unset, .unset, .unset, .unset, .unset, .unset] []))
  refine Ends.by ?_ (fun _ k => XS.iconst X8.here hx rfl (hb hby at_71) k)
  show Ends p e below s _ _ _ (T8.setTop (mkF m 72 #[.val (.long x0), .second, .val (.int x1), .val (.int x2), .val (.long fi), .second, .val (.int sa), .val (.int sb), .val (.ref b1), .val (.long la), .second, .unset, .unset, .unset, .unset, .unset, .unset, .unset] [(.int (1 : Int32))]))
  refine Ends.by ?_ (fun _ k => XS.goto X8.here hx rfl (pc0 := 72) (pc' := 76) rfl (hb hby at_72) (by decide) (by decide) k)
  show Ends p e below s _ _ _ (T8.setTop (mkF m 76 #[.val (.long x0), .second, .val (.int x1), .val (.int x2), .val (.long fi), .second, .val (.int sa), .val (.int sb), .val (.ref b1), .val (.long la), .second, .unset, .unset, .unset, .unset, .unset, .unset, .unset] [(.int (1 : Int32))]))
  refine Ends.by ?_ (fun _ k => XS.istore X8.here hx rfl (hb hby at_76) rfl (l' := #[.val (.long x0), .second, .val (.int x1), .val (.int x2), .val (.long fi), .second, .val (.int sa), .val (.int sb), .val (.ref b1), .val (.long la), .second, .val (.int (1 : Int32)), .unset, .unset, .unset, .unset, .unset, .unset]) rfl k)
  show Ends p e below s _ _ _ (T8.setTop (mkF m 78 #[.val (.long x0), .second, .val (.int x1), .val (.int x2), .val (.long fi), .second, .val (.int sa), .val (.int sb), .val (.ref b1), .val (.long la), .second, .val (.int (1 : Int32)), .unset, .unset, .unset, .unset, .unset, .unset] []))
  refine Ends.by ?_ (fun _ k => XS.lload X8.here hx rfl (hb hby at_78) rfl k)
  show Ends p e below s _ _ _ (T8.setTop (mkF m 80 #[.val (.long x0), .second, .val (.int x1), .val (.int x2), .val (.long fi), .second, .val (.int sa), .val (.int sb), .val (.ref b1), .val (.long la), .second, .val (.int (1 : Int32)), .unset, .unset, .unset, .unset, .unset, .unset] [(.long la)]))
  refine Ends.by ?_ (fun _ k => XS.lload X8.here hx rfl (hb hby at_80) rfl k)
  show Ends p e below s _ _ _ (T8.setTop (mkF m 82 #[.val (.long x0), .second, .val (.int x1), .val (.int x2), .val (.long fi), .second, .val (.int sa), .val (.int sb), .val (.ref b1), .val (.long la), .second, .val (.int (1 : Int32)), .unset, .unset, .unset, .unset, .unset, .unset] [(.long fi), (.long la)]))
  refine Ends.by ?_ (fun _ k => XS.lcmp X8.here hx rfl (hb hby at_82) rfl k)
  show Ends p e below s _ _ _ (T8.setTop (mkF m 83 #[.val (.long x0), .second, .val (.int x1), .val (.int x2), .val (.long fi), .second, .val (.int sa), .val (.int sb), .val (.ref b1), .val (.long la), .second, .val (.int (1 : Int32)), .unset, .unset, .unset, .unset, .unset, .unset] [(.int (XT.cmpL la fi))]))
  refine Ends.by ?_ (fun _ k => XS.ifNo X8.here hx rfl (hb hby at_83) rfl (XT.ll_lt_f (own_nlt64 (by omega) : ¬ (la < fi))) k)
  show Ends p e below s _ _ _ (T8.setTop (mkF m 86 #[.val (.long x0), .second, .val (.int x1), .val (.int x2), .val (.long fi), .second, .val (.int sa), .val (.int sb), .val (.ref b1), .val (.long la), .second, .val (.int (1 : Int32)), .unset, .unset, .unset, .unset, .unset, .unset] []))
  refine Ends.by ?_ (fun _ k => XS.lload X8.here hx rfl (hb hby at_86) rfl k)
  show Ends p e below s _ _ _ (T8.setTop (mkF m 88 #[.val (.long x0), .second, .val (.int x1), .val (.int x2), .val (.long fi), .second, .val (.int sa), .val (.int sb), .val (.ref b1), .val (.long la), .second, .val (.int (1 : Int32)), .unset, .unset, .unset, .unset, .unset, .unset] [(.long la)]))
  refine Ends.by ?_ (fun _ k => XS.lload X8.here hx rfl (hb hby at_88) rfl k)
  show Ends p e below s _ _ _ (T8.setTop (mkF m 90 #[.val (.long x0), .second, .val (.int x1), .val (.int x2), .val (.long fi), .second, .val (.int sa), .val (.int sb), .val (.ref b1), .val (.long la), .second, .val (.int (1 : Int32)), .unset, .unset, .unset, .unset, .unset, .unset] [(.long fi), (.long la)]))
  refine Ends.by ?_ (X8.ldc2Long hx hown (mvT hZ (hw _ (List.mem_of_getElem? (i := 26) rfl))) (g := (mkF m 90 #[.val (.long x0), .second, .val (.int x1), .val (.int x2), .val (.long fi), .second, .val (.int sa), .val (.int sb), .val (.ref b1), .val (.long la), .second, .val (.int (1 : Int32)), .unset, .unset, .unset, .unset, .unset, .unset] [(.long fi), (.long la)])) rfl (hb hby at_90))
  show Ends p e below s _ _ _ (T8.setTop (mkF m 93 #[.val (.long x0), .second, .val (.int x1), .val (.int x2), .val (.long fi), .second, .val (.int sa), .val (.int sb), .val (.ref b1), .val (.long la), .second, .val (.int (1 : Int32)), .unset, .unset, .unset, .unset, .unset, .unset] [(.long (1000 : Int64)), (.long fi), (.long la)]))
  refine Ends.by ?_ (fun _ k => XS.ladd X8.here hx rfl (hb hby at_93) rfl k)
  show Ends p e below s _ _ _ (T8.setTop (mkF m 94 #[.val (.long x0), .second, .val (.int x1), .val (.int x2), .val (.long fi), .second, .val (.int sa), .val (.int sb), .val (.ref b1), .val (.long la), .second, .val (.int (1 : Int32)), .unset, .unset, .unset, .unset, .unset, .unset] [(.long (fi + (1000 : Int64))), (.long la)]))
  refine Ends.by ?_ (fun _ k => XS.lcmp X8.here hx rfl (hb hby at_94) rfl k)
  show Ends p e below s _ _ _ (T8.setTop (mkF m 95 #[.val (.long x0), .second, .val (.int x1), .val (.int x2), .val (.long fi), .second, .val (.int sa), .val (.int sb), .val (.ref b1), .val (.long la), .second, .val (.int (1 : Int32)), .unset, .unset, .unset, .unset, .unset, .unset] [(.int (XT.cmpL la (fi + (1000 : Int64))))]))
  refine Ends.by ?_ (fun _ k => XS.ifNo X8.here hx rfl (hb hby at_95) rfl (XT.ll_ge_f (own_lt64 (by rw [own_thou (by omega) (by omega)]; omega) : la < (fi + (1000 : Int64)))) k)
  show Ends p e below s _ _ _ (T8.setTop (mkF m 98 #[.val (.long x0), .second, .val (.int x1), .val (.int x2), .val (.long fi), .second, .val (.int sa), .val (.int sb), .val (.ref b1), .val (.long la), .second, .val (.int (1 : Int32)), .unset, .unset, .unset, .unset, .unset, .unset] []))
  refine Ends.by ?_ (fun _ k => XS.iconst X8.here hx rfl (hb hby at_98) k)
  show Ends p e below s _ _ _ (T8.setTop (mkF m 99 #[.val (.long x0), .second, .val (.int x1), .val (.int x2), .val (.long fi), .second, .val (.int sa), .val (.int sb), .val (.ref b1), .val (.long la), .second, .val (.int (1 : Int32)), .unset, .unset, .unset, .unset, .unset, .unset] [(.int (1 : Int32))]))
  refine Ends.by ?_ (fun _ k => XS.goto X8.here hx rfl (pc0 := 99) (pc' := 103) rfl (hb hby at_99) (by decide) (by decide) k)
  show Ends p e below s _ _ _ (T8.setTop (mkF m 103 #[.val (.long x0), .second, .val (.int x1), .val (.int x2), .val (.long fi), .second, .val (.int sa), .val (.int sb), .val (.ref b1), .val (.long la), .second, .val (.int (1 : Int32)), .unset, .unset, .unset, .unset, .unset, .unset] [(.int (1 : Int32))]))
  refine Ends.by ?_ (fun _ k => XS.istore X8.here hx rfl (hb hby at_103) rfl (l' := #[.val (.long x0), .second, .val (.int x1), .val (.int x2), .val (.long fi), .second, .val (.int sa), .val (.int sb), .val (.ref b1), .val (.long la), .second, .val (.int (1 : Int32)), .val (.int (1 : Int32)), .unset, .unset, .unset, .unset, .unset]) rfl k)
  show Ends p e below s _ _ _ (T8.setTop (mkF m 105 #[.val (.long x0), .second, .val (.int x1), .val (.int x2), .val (.long fi), .second, .val (.int sa), .val (.int sb), .val (.ref b1), .val (.long la), .second, .val (.int (1 : Int32)), .val (.int (1 : Int32)), .unset, .unset, .unset, .unset, .unset] []))
  refine Ends.by ?_ (fun _ k => XS.iload X8.here hx rfl (hb hby at_105) rfl k)
  show Ends p e below s _ _ _ (T8.setTop (mkF m 107 #[.val (.long x0), .second, .val (.int x1), .val (.int x2), .val (.long fi), .second, .val (.int sa), .val (.int sb), .val (.ref b1), .val (.long la), .second, .val (.int (1 : Int32)), .val (.int (1 : Int32)), .unset, .unset, .unset, .unset, .unset] [(.int sa)]))
  refine Ends.by ?_ (fun _ k => XS.iconst X8.here hx rfl (hb hby at_107) k)
  show Ends p e below s _ _ _ (T8.setTop (mkF m 108 #[.val (.long x0), .second, .val (.int x1), .val (.int x2), .val (.long fi), .second, .val (.int sa), .val (.int sb), .val (.ref b1), .val (.long la), .second, .val (.int (1 : Int32)), .val (.int (1 : Int32)), .unset, .unset, .unset, .unset, .unset] [(.int (1 : Int32)), (.int sa)]))
  by_cases hc9 : sa = (1 : Int32)
  · refine Ends.by ?_ (fun _ k => XS.icmpNo X8.here hx rfl (hb hby at_108) rfl (XT.ii_ne_f hc9) k)
    show Ends p e below s _ _ _ (T8.setTop (mkF m 111 #[.val (.long x0), .second, .val (.int x1), .val (.int x2), .val (.long fi), .second, .val (.int sa), .val (.int sb), .val (.ref b1), .val (.long la), .second, .val (.int (1 : Int32)), .val (.int (1 : Int32)), .unset, .unset, .unset, .unset, .unset] []))
    refine Ends.by ?_ (fun _ k => XS.iconst X8.here hx rfl (hb hby at_111) k)
    show Ends p e below s _ _ _ (T8.setTop (mkF m 112 #[.val (.long x0), .second, .val (.int x1), .val (.int x2), .val (.long fi), .second, .val (.int sa), .val (.int sb), .val (.ref b1), .val (.long la), .second, .val (.int (1 : Int32)), .val (.int (1 : Int32)), .unset, .unset, .unset, .unset, .unset] [(.int (1 : Int32))]))
    refine Ends.by ?_ (fun _ k => XS.goto X8.here hx rfl (pc0 := 112) (pc' := 116) rfl (hb hby at_112) (by decide) (by decide) k)
    show Ends p e below s _ _ _ (T8.setTop (mkF m 116 #[.val (.long x0), .second, .val (.int x1), .val (.int x2), .val (.long fi), .second, .val (.int sa), .val (.int sb), .val (.ref b1), .val (.long la), .second, .val (.int (1 : Int32)), .val (.int (1 : Int32)), .unset, .unset, .unset, .unset, .unset] [(.int (1 : Int32))]))
    refine Ends.by ?_ (fun _ k => XS.lload X8.here hx rfl (hb hby at_116) rfl k)
    show Ends p e below s _ _ _ (T8.setTop (mkF m 118 #[.val (.long x0), .second, .val (.int x1), .val (.int x2), .val (.long fi), .second, .val (.int sa), .val (.int sb), .val (.ref b1), .val (.long la), .second, .val (.int (1 : Int32)), .val (.int (1 : Int32)), .unset, .unset, .unset, .unset, .unset] [(.long la), (.int (1 : Int32))]))
    refine Ends.by ?_ (fun _ k => XS.lload X8.here hx rfl (hb hby at_118) rfl k)
    show Ends p e below s _ _ _ (T8.setTop (mkF m 120 #[.val (.long x0), .second, .val (.int x1), .val (.int x2), .val (.long fi), .second, .val (.int sa), .val (.int sb), .val (.ref b1), .val (.long la), .second, .val (.int (1 : Int32)), .val (.int (1 : Int32)), .unset, .unset, .unset, .unset, .unset] [(.long fi), (.long la), (.int (1 : Int32))]))
    refine Ends.by ?_ (fun _ k => XS.lcmp X8.here hx rfl (hb hby at_120) rfl k)
    show Ends p e below s _ _ _ (T8.setTop (mkF m 121 #[.val (.long x0), .second, .val (.int x1), .val (.int x2), .val (.long fi), .second, .val (.int sa), .val (.int sb), .val (.ref b1), .val (.long la), .second, .val (.int (1 : Int32)), .val (.int (1 : Int32)), .unset, .unset, .unset, .unset, .unset] [(.int (XT.cmpL la fi)), (.int (1 : Int32))]))
    refine Ends.by ?_ (fun _ k => XS.ifNo X8.here hx rfl (hb hby at_121) rfl (XT.ll_ne_f (by apply Int64.toInt_inj.mp; have e1 : (1 : Int32).toInt = 1 := rfl; have q := congrArg Int32.toInt hc9; omega : la = fi)) k)
    show Ends p e below s _ _ _ (T8.setTop (mkF m 124 #[.val (.long x0), .second, .val (.int x1), .val (.int x2), .val (.long fi), .second, .val (.int sa), .val (.int sb), .val (.ref b1), .val (.long la), .second, .val (.int (1 : Int32)), .val (.int (1 : Int32)), .unset, .unset, .unset, .unset, .unset] [(.int (1 : Int32))]))
    refine Ends.by ?_ (fun _ k => XS.iconst X8.here hx rfl (hb hby at_124) k)
    show Ends p e below s _ _ _ (T8.setTop (mkF m 125 #[.val (.long x0), .second, .val (.int x1), .val (.int x2), .val (.long fi), .second, .val (.int sa), .val (.int sb), .val (.ref b1), .val (.long la), .second, .val (.int (1 : Int32)), .val (.int (1 : Int32)), .unset, .unset, .unset, .unset, .unset] [(.int (1 : Int32)), (.int (1 : Int32))]))
    refine Ends.by ?_ (fun _ k => XS.goto X8.here hx rfl (pc0 := 125) (pc' := 129) rfl (hb hby at_125) (by decide) (by decide) k)
    show Ends p e below s _ _ _ (T8.setTop (mkF m 129 #[.val (.long x0), .second, .val (.int x1), .val (.int x2), .val (.long fi), .second, .val (.int sa), .val (.int sb), .val (.ref b1), .val (.long la), .second, .val (.int (1 : Int32)), .val (.int (1 : Int32)), .unset, .unset, .unset, .unset, .unset] [(.int (1 : Int32)), (.int (1 : Int32))]))
    refine Ends.by ?_ (fun _ k => XS.icmpNo X8.here hx rfl (hb hby at_129) rfl (XT.ii_ne_f (by decide)) k)
    show Ends p e below s _ _ _ (T8.setTop (mkF m 132 #[.val (.long x0), .second, .val (.int x1), .val (.int x2), .val (.long fi), .second, .val (.int sa), .val (.int sb), .val (.ref b1), .val (.long la), .second, .val (.int (1 : Int32)), .val (.int (1 : Int32)), .unset, .unset, .unset, .unset, .unset] []))
    refine Ends.by ?_ (fun _ k => XS.iconst X8.here hx rfl (hb hby at_132) k)
    show Ends p e below s _ _ _ (T8.setTop (mkF m 133 #[.val (.long x0), .second, .val (.int x1), .val (.int x2), .val (.long fi), .second, .val (.int sa), .val (.int sb), .val (.ref b1), .val (.long la), .second, .val (.int (1 : Int32)), .val (.int (1 : Int32)), .unset, .unset, .unset, .unset, .unset] [(.int (1 : Int32))]))
    refine Ends.by ?_ (fun _ k => XS.goto X8.here hx rfl (pc0 := 133) (pc' := 137) rfl (hb hby at_133) (by decide) (by decide) k)
    show Ends p e below s _ _ _ (T8.setTop (mkF m 137 #[.val (.long x0), .second, .val (.int x1), .val (.int x2), .val (.long fi), .second, .val (.int sa), .val (.int sb), .val (.ref b1), .val (.long la), .second, .val (.int (1 : Int32)), .val (.int (1 : Int32)), .unset, .unset, .unset, .unset, .unset] [(.int (1 : Int32))]))
    refine Ends.by ?_ (fun _ k => XS.istore X8.here hx rfl (hb hby at_137) rfl (l' := #[.val (.long x0), .second, .val (.int x1), .val (.int x2), .val (.long fi), .second, .val (.int sa), .val (.int sb), .val (.ref b1), .val (.long la), .second, .val (.int (1 : Int32)), .val (.int (1 : Int32)), .val (.int (1 : Int32)), .unset, .unset, .unset, .unset]) rfl k)
    show Ends p e below s _ _ _ (T8.setTop (mkF m 139 #[.val (.long x0), .second, .val (.int x1), .val (.int x2), .val (.long fi), .second, .val (.int sa), .val (.int sb), .val (.ref b1), .val (.long la), .second, .val (.int (1 : Int32)), .val (.int (1 : Int32)), .val (.int (1 : Int32)), .unset, .unset, .unset, .unset] []))
    obtain ⟨T10, h10, X10, e10, E10, A10, D10, -, st10⟩ := newO X8 hx hZ hown (hw _ (List.mem_of_getElem? (i := 3) rfl)) (hw _ (List.mem_of_getElem? (i := 4) rfl)) (hw _ (List.mem_of_getElem? (i := 5) rfl)) e8 (g := (mkF m 139 #[.val (.long x0), .second, .val (.int x1), .val (.int x2), .val (.long fi), .second, .val (.int sa), .val (.int sb), .val (.ref b1), .val (.long la), .second, .val (.int (1 : Int32)), .val (.int (1 : Int32)), .val (.int (1 : Int32)), .unset, .unset, .unset, .unset] [])) rfl (hb hby at_139) (by decide) (by decide)
    obtain ⟨b10, g10⟩ : ∃ z, z = T3.heap.size := ⟨_, rfl⟩
    rw [← g10] at A10 D10 st10
    have ne11 : b1 ≠ b10 := Nat.ne_of_lt (Nat.lt_of_lt_of_le Ex3.lt (Nat.le_of_eq g10.symm))
    have gn10 : n0 ≤ b10 := Nat.le_trans Zs7 (Nat.le_of_eq g10.symm)
    have f12 := Exa.ext E10 Ex3
    have f13 := Fld.ext E10 Fa3
    have f14 := Fld.ext E10 Fb3
    have F10_first : Fld Z h10 b10 "com/example/fiddlehead/fiddlehead/server/Page" "first" "J" (.long (0 : Int64)) := D10 (Or.inr (hw _ (List.mem_of_getElem? (i := 18) rfl))) (ty := .long) (by decide)
    have F10_size : Fld Z h10 b10 "com/example/fiddlehead/fiddlehead/server/Page" "size" "I" (.int (0 : Int32)) := D10 (Or.inr (hw _ (List.mem_of_getElem? (i := 20) rfl))) (ty := .int) (by decide)
    have Zs15 : n0 ≤ h10.size := Nat.le_trans Zs7 E10.1
    refine Ends.by ?_ st10
    show Ends p e below s _ _ _ (T10.setTop (mkF m 142 #[.val (.long x0), .second, .val (.int x1), .val (.int x2), .val (.long fi), .second, .val (.int sa), .val (.int sb), .val (.ref b1), .val (.long la), .second, .val (.int (1 : Int32)), .val (.int (1 : Int32)), .val (.int (1 : Int32)), .unset, .unset, .unset, .unset] [(.ref b10)]))
    refine Ends.by ?_ (fun _ k => XS.dup X10.here hx rfl (hb hby at_142) rfl rfl k)
    show Ends p e below s _ _ _ (T10.setTop (mkF m 143 #[.val (.long x0), .second, .val (.int x1), .val (.int x2), .val (.long fi), .second, .val (.int sa), .val (.int sb), .val (.ref b1), .val (.long la), .second, .val (.int (1 : Int32)), .val (.int (1 : Int32)), .val (.int (1 : Int32)), .unset, .unset, .unset, .unset] [(.ref b10), (.ref b10)]))
    refine Ends.by ?_ (fun _ k => XS.lload X10.here hx rfl (hb hby at_143) rfl k)
    show Ends p e below s _ _ _ (T10.setTop (mkF m 145 #[.val (.long x0), .second, .val (.int x1), .val (.int x2), .val (.long fi), .second, .val (.int sa), .val (.int sb), .val (.ref b1), .val (.long la), .second, .val (.int (1 : Int32)), .val (.int (1 : Int32)), .val (.int (1 : Int32)), .unset, .unset, .unset, .unset] [(.long la), (.ref b10), (.ref b10)]))
    refine Ends.by ?_ (fun _ k => XS.lconst X10.here hx rfl (hb hby at_145) k)
    show Ends p e below s _ _ _ (T10.setTop (mkF m 146 #[.val (.long x0), .second, .val (.int x1), .val (.int x2), .val (.long fi), .second, .val (.int sa), .val (.int sb), .val (.ref b1), .val (.long la), .second, .val (.int (1 : Int32)), .val (.int (1 : Int32)), .val (.int (1 : Int32)), .unset, .unset, .unset, .unset] [(.long (1 : Int64)), (.long la), (.ref b10), (.ref b10)]))
    refine Ends.by ?_ (fun _ k => XS.ladd X10.here hx rfl (hb hby at_146) rfl k)
    show Ends p e below s _ _ _ (T10.setTop (mkF m 147 #[.val (.long x0), .second, .val (.int x1), .val (.int x2), .val (.long fi), .second, .val (.int sa), .val (.int sb), .val (.ref b1), .val (.long la), .second, .val (.int (1 : Int32)), .val (.int (1 : Int32)), .val (.int (1 : Int32)), .unset, .unset, .unset, .unset] [(.long (la + (1 : Int64))), (.ref b10), (.ref b10)]))
    refine Ends.by ?_ (fun _ k => XS.iload X10.here hx rfl (hb hby at_147) rfl k)
    show Ends p e below s _ _ _ (T10.setTop (mkF m 149 #[.val (.long x0), .second, .val (.int x1), .val (.int x2), .val (.long fi), .second, .val (.int sa), .val (.int sb), .val (.ref b1), .val (.long la), .second, .val (.int (1 : Int32)), .val (.int (1 : Int32)), .val (.int (1 : Int32)), .unset, .unset, .unset, .unset] [(.int sb), (.long (la + (1 : Int64))), (.ref b10), (.ref b10)]))
    obtain ⟨v16, _, ⟨T16, L16, k16, n16⟩, -, X16, ⟨Lc16, hQ16, l16, y16, z16⟩, st16⟩ := X10.specialBack hx (y := (⟨"com/example/fiddlehead/fiddlehead/server/Page", "<init>", "(JI)V"⟩ : MethodName)) rfl hown (mvT hZ (hw _ (List.mem_of_getElem? (i := 6) rfl))) (mvT hZ (hw _ (List.mem_of_getElem? (i := 7) rfl))) (mvT hZ (hw _ (List.mem_of_getElem? (i := 8) rfl))) (by decide) (backOf (W := 1) (rm1 l Z a0 hw [] b10 (la + (1 : Int64)) sb h10 n0 Zs15 A10 F10_first F10_size gn10 (own_nlt64 (by have e1 : (1 : Int64).toInt = 1 := rfl; have q := own_inc (b := la) (by omega) (by omega); omega)) (own_nlt32 (by have e1 : (1 : Int32).toInt = 1 := rfl; omega)) (own_nlt32 (by have e1 : (1000 : Int32).toInt = 1000 := rfl; omega))) hZ (hw _ (List.mem_of_getElem? (i := 8) rfl)) (hw _ (List.mem_of_getElem? (i := 5) rfl)) (by decide) (by decide)) (g := (mkF m 149 #[.val (.long x0), .second, .val (.int x1), .val (.int x2), .val (.long fi), .second, .val (.int sa), .val (.int sb), .val (.ref b1), .val (.long la), .second, .val (.int (1 : Int32)), .val (.int (1 : Int32)), .val (.int (1 : Int32)), .unset, .unset, .unset, .unset] [(.int sb), (.long (la + (1 : Int64))), (.ref b10), (.ref b10)])) rfl (by rw [hml]; rfl) (Steps.refl _) (a := b10) (argsL := [(.long (la + (1 : Int64))), (.int sb)]) (rest := [(.ref b10)]) (lenOf pd_1 rfl) rfl (by show 2 * 0 + _ ≤ _; exact Nat.le_of_eq rfl) (hb hby at_149) (fun _ _ => ⟨rfl, e10, (by decide : 2 + 0 ≤ _), (by decide : 4 + 0 ≤ _)⟩)
    dsimp only [Pt.U, Pt.locs, Pt.cells, Pt.slots] at X16 l16 y16 z16 st16 hQ16
    subst l16 y16 z16
    obtain ⟨rfl, N16q, K16, Ex16, Fa16, Fb16⟩ := hQ16
    have N16 := Fr.app N8 N16q
    have f17 := f12.keep K16
    have f18 := f13.keep K16 (by simp [ne11])
    have f19 := f14.keep K16 (by simp [ne11])
    have f20 := A10.keep K16
    have Zs23 : n0 ≤ T16.heap.size := Nat.le_trans Zs15 K16.1
    refine Ends.go st16 ?_
    show Ends p e below s _ _ _ (T16.setTop (mkF m 152 #[.val (.long x0), .second, .val (.int x1), .val (.int x2), .val (.long fi), .second, .val (.int sa), .val (.int sb), .val (.ref b1), .val (.long la), .second, .val (.int (1 : Int32)), .val (.int (1 : Int32)), .val (.int (1 : Int32)), .unset, .unset, .unset, .unset] [(.ref b10)]))
    refine Ends.by ?_ (fun _ k => XS.astore X16.here hx rfl (hb hby at_152) rfl rfl (l' := #[.val (.long x0), .second, .val (.int x1), .val (.int x2), .val (.long fi), .second, .val (.int sa), .val (.int sb), .val (.ref b1), .val (.long la), .second, .val (.int (1 : Int32)), .val (.int (1 : Int32)), .val (.int (1 : Int32)), .val (.ref b10), .unset, .unset, .unset]) rfl k)
    show Ends p e below s _ _ _ (T16.setTop (mkF m 154 #[.val (.long x0), .second, .val (.int x1), .val (.int x2), .val (.long fi), .second, .val (.int sa), .val (.int sb), .val (.ref b1), .val (.long la), .second, .val (.int (1 : Int32)), .val (.int (1 : Int32)), .val (.int (1 : Int32)), .val (.ref b10), .unset, .unset, .unset] []))
    refine Ends.by ?_ (fun _ k => XS.aload X16.here hx rfl (hb hby at_154) rfl rfl k)
    show Ends p e below s _ _ _ (T16.setTop (mkF m 156 #[.val (.long x0), .second, .val (.int x1), .val (.int x2), .val (.long fi), .second, .val (.int sa), .val (.int sb), .val (.ref b1), .val (.long la), .second, .val (.int (1 : Int32)), .val (.int (1 : Int32)), .val (.int (1 : Int32)), .val (.ref b10), .unset, .unset, .unset] [(.ref b10)]))
    obtain ⟨cq24, kq24, q24a, q24b, q24c⟩ := isOf hZ rfl Ex16
    obtain ⟨v24, _, ⟨T24, L24, k24, n24⟩, -, X24, ⟨Lc24, hQ24, l24, y24, z24⟩, st24⟩ := X16.virtualBack hx (y := (⟨"com/example/fiddlehead/fiddlehead/server/Page", "last", "()J"⟩ : MethodName)) (z := (⟨"com/example/fiddlehead/fiddlehead/server/Page", "last", "()J"⟩ : MethodName)) hown (mvT hZ (hw _ (List.mem_of_getElem? (i := 21) rfl))) (mvT hZ (hw _ (List.mem_of_getElem? (i := 22) rfl))) (notFace_of_selects (args := #[]) (mvT hZ (hw _ (List.mem_of_getElem? (i := 24) rfl)))) (mvT hZ (hw _ (List.mem_of_getElem? (i := 24) rfl))) (mvT hZ (hw _ (List.mem_of_getElem? (i := 23) rfl))) (by decide) (backOf (W := 0) (rm4 l Z a0 hw [] b10 (la + (1 : Int64)) sb T16.heap n0 Zs23 Fa16 Fb16) hZ (hw _ (List.mem_of_getElem? (i := 25) rfl)) (hw _ (List.mem_of_getElem? (i := 5) rfl)) (by decide) (by decide)) q24a q24c (g := (mkF m 156 #[.val (.long x0), .second, .val (.int x1), .val (.int x2), .val (.long fi), .second, .val (.int sa), .val (.int sb), .val (.ref b1), .val (.long la), .second, .val (.int (1 : Int32)), .val (.int (1 : Int32)), .val (.int (1 : Int32)), .val (.ref b10), .unset, .unset, .unset] [(.ref b10)])) rfl (by rw [hml]; rfl) (Steps.refl _) (argsL := []) (rest := []) (lenOf pd_2 rfl) rfl (by show 2 * 0 + _ ≤ _; exact Nat.le_of_eq rfl) (hb hby at_156) (fun _ _ => ⟨rfl, rfl, (by decide : 2 + 0 ≤ _), (by decide : 4 + 0 ≤ _)⟩)
    dsimp only [Pt.U, Pt.locs, Pt.cells, Pt.slots] at X24 l24 y24 z24 st24 hQ24
    subst l24 y24 z24
    obtain ⟨rfl, N24q, e24⟩ := hQ24
    have N24 := Fr.app N16 N24q
    refine Ends.go st24 ?_
    show Ends p e below s _ _ _ (T24.setTop (mkF m 159 #[.val (.long x0), .second, .val (.int x1), .val (.int x2), .val (.long fi), .second, .val (.int sa), .val (.int sb), .val (.ref b1), .val (.long la), .second, .val (.int (1 : Int32)), .val (.int (1 : Int32)), .val (.int (1 : Int32)), .val (.ref b10), .unset, .unset, .unset] [(.long ((la + (1 : Int64)) + sb.toInt64 - (1 : Int64)))]))
    obtain ⟨lb, hlb⟩ : ∃ z : Int64, z = ((la + (1 : Int64)) + sb.toInt64 - (1 : Int64)) := ⟨_, rfl⟩
    rw [← hlb]
    show Ends p e below s _ _ _ (T24.setTop (mkF m 159 #[.val (.long x0), .second, .val (.int x1), .val (.int x2), .val (.long fi), .second, .val (.int sa), .val (.int sb), .val (.ref b1), .val (.long la), .second, .val (.int (1 : Int32)), .val (.int (1 : Int32)), .val (.int (1 : Int32)), .val (.ref b10), .unset, .unset, .unset] [(.long lb)]))
    have hl2 : lb.toInt = fi.toInt + sa.toInt + sb.toInt - 1 := by rw [hlb, own_last (by rw [own_inc (by omega) (by omega)]; omega) (by rw [own_inc (by omega) (by omega)]; omega) (by omega) (by omega), own_inc (by omega) (by omega)]; omega
    clear hlb
    refine Ends.by ?_ (fun _ k => XS.lstore X24.here hx rfl (hb hby at_159) rfl (l' := #[.val (.long x0), .second, .val (.int x1), .val (.int x2), .val (.long fi), .second, .val (.int sa), .val (.int sb), .val (.ref b1), .val (.long la), .second, .val (.int (1 : Int32)), .val (.int (1 : Int32)), .val (.int (1 : Int32)), .val (.ref b10), .val (.long lb), .second, .unset]) rfl k)
    show Ends p e below s _ _ _ (T24.setTop (mkF m 161 #[.val (.long x0), .second, .val (.int x1), .val (.int x2), .val (.long fi), .second, .val (.int sa), .val (.int sb), .val (.ref b1), .val (.long la), .second, .val (.int (1 : Int32)), .val (.int (1 : Int32)), .val (.int (1 : Int32)), .val (.ref b10), .val (.long lb), .second, .unset] []))
    refine Ends.by ?_ (fun _ k => XS.lload X24.here hx rfl (hb hby at_161) rfl k)
    show Ends p e below s _ _ _ (T24.setTop (mkF m 163 #[.val (.long x0), .second, .val (.int x1), .val (.int x2), .val (.long fi), .second, .val (.int sa), .val (.int sb), .val (.ref b1), .val (.long la), .second, .val (.int (1 : Int32)), .val (.int (1 : Int32)), .val (.int (1 : Int32)), .val (.ref b10), .val (.long lb), .second, .unset] [(.long lb)]))
    refine Ends.by ?_ (fun _ k => XS.lload X24.here hx rfl (hb hby at_163) rfl k)
    show Ends p e below s _ _ _ (T24.setTop (mkF m 165 #[.val (.long x0), .second, .val (.int x1), .val (.int x2), .val (.long fi), .second, .val (.int sa), .val (.int sb), .val (.ref b1), .val (.long la), .second, .val (.int (1 : Int32)), .val (.int (1 : Int32)), .val (.int (1 : Int32)), .val (.ref b10), .val (.long lb), .second, .unset] [(.long fi), (.long lb)]))
    refine Ends.by ?_ (fun _ k => XS.lsub X24.here hx rfl (hb hby at_165) rfl k)
    show Ends p e below s _ _ _ (T24.setTop (mkF m 166 #[.val (.long x0), .second, .val (.int x1), .val (.int x2), .val (.long fi), .second, .val (.int sa), .val (.int sb), .val (.ref b1), .val (.long la), .second, .val (.int (1 : Int32)), .val (.int (1 : Int32)), .val (.int (1 : Int32)), .val (.ref b10), .val (.long lb), .second, .unset] [(.long (lb - fi))]))
    refine Ends.by ?_ (fun _ k => XS.lconst X24.here hx rfl (hb hby at_166) k)
    show Ends p e below s _ _ _ (T24.setTop (mkF m 167 #[.val (.long x0), .second, .val (.int x1), .val (.int x2), .val (.long fi), .second, .val (.int sa), .val (.int sb), .val (.ref b1), .val (.long la), .second, .val (.int (1 : Int32)), .val (.int (1 : Int32)), .val (.int (1 : Int32)), .val (.ref b10), .val (.long lb), .second, .unset] [(.long (1 : Int64)), (.long (lb - fi))]))
    refine Ends.by ?_ (fun _ k => XS.ladd X24.here hx rfl (hb hby at_167) rfl k)
    show Ends p e below s _ _ _ (T24.setTop (mkF m 168 #[.val (.long x0), .second, .val (.int x1), .val (.int x2), .val (.long fi), .second, .val (.int sa), .val (.int sb), .val (.ref b1), .val (.long la), .second, .val (.int (1 : Int32)), .val (.int (1 : Int32)), .val (.int (1 : Int32)), .val (.ref b10), .val (.long lb), .second, .unset] [(.long ((lb - fi) + (1 : Int64)))]))
    refine Ends.by ?_ (fun _ k => XS.iload X24.here hx rfl (hb hby at_168) rfl k)
    show Ends p e below s _ _ _ (T24.setTop (mkF m 170 #[.val (.long x0), .second, .val (.int x1), .val (.int x2), .val (.long fi), .second, .val (.int sa), .val (.int sb), .val (.ref b1), .val (.long la), .second, .val (.int (1 : Int32)), .val (.int (1 : Int32)), .val (.int (1 : Int32)), .val (.ref b10), .val (.long lb), .second, .unset] [(.int sa), (.long ((lb - fi) + (1 : Int64)))]))
    refine Ends.by ?_ (fun _ k => XS.i2l X24.here hx rfl (hb hby at_170) rfl k)
    show Ends p e below s _ _ _ (T24.setTop (mkF m 171 #[.val (.long x0), .second, .val (.int x1), .val (.int x2), .val (.long fi), .second, .val (.int sa), .val (.int sb), .val (.ref b1), .val (.long la), .second, .val (.int (1 : Int32)), .val (.int (1 : Int32)), .val (.int (1 : Int32)), .val (.ref b10), .val (.long lb), .second, .unset] [(.long (sa.toInt64)), (.long ((lb - fi) + (1 : Int64)))]))
    refine Ends.by ?_ (fun _ k => XS.iload X24.here hx rfl (hb hby at_171) rfl k)
    show Ends p e below s _ _ _ (T24.setTop (mkF m 173 #[.val (.long x0), .second, .val (.int x1), .val (.int x2), .val (.long fi), .second, .val (.int sa), .val (.int sb), .val (.ref b1), .val (.long la), .second, .val (.int (1 : Int32)), .val (.int (1 : Int32)), .val (.int (1 : Int32)), .val (.ref b10), .val (.long lb), .second, .unset] [(.int sb), (.long (sa.toInt64)), (.long ((lb - fi) + (1 : Int64)))]))
    refine Ends.by ?_ (fun _ k => XS.i2l X24.here hx rfl (hb hby at_173) rfl k)
    show Ends p e below s _ _ _ (T24.setTop (mkF m 174 #[.val (.long x0), .second, .val (.int x1), .val (.int x2), .val (.long fi), .second, .val (.int sa), .val (.int sb), .val (.ref b1), .val (.long la), .second, .val (.int (1 : Int32)), .val (.int (1 : Int32)), .val (.int (1 : Int32)), .val (.ref b10), .val (.long lb), .second, .unset] [(.long (sb.toInt64)), (.long (sa.toInt64)), (.long ((lb - fi) + (1 : Int64)))]))
    refine Ends.by ?_ (fun _ k => XS.ladd X24.here hx rfl (hb hby at_174) rfl k)
    show Ends p e below s _ _ _ (T24.setTop (mkF m 175 #[.val (.long x0), .second, .val (.int x1), .val (.int x2), .val (.long fi), .second, .val (.int sa), .val (.int sb), .val (.ref b1), .val (.long la), .second, .val (.int (1 : Int32)), .val (.int (1 : Int32)), .val (.int (1 : Int32)), .val (.ref b10), .val (.long lb), .second, .unset] [(.long ((sa.toInt64) + (sb.toInt64))), (.long ((lb - fi) + (1 : Int64)))]))
    refine Ends.by ?_ (fun _ k => XS.lcmp X24.here hx rfl (hb hby at_175) rfl k)
    show Ends p e below s _ _ _ (T24.setTop (mkF m 176 #[.val (.long x0), .second, .val (.int x1), .val (.int x2), .val (.long fi), .second, .val (.int sa), .val (.int sb), .val (.ref b1), .val (.long la), .second, .val (.int (1 : Int32)), .val (.int (1 : Int32)), .val (.int (1 : Int32)), .val (.ref b10), .val (.long lb), .second, .unset] [(.int (XT.cmpL ((lb - fi) + (1 : Int64)) ((sa.toInt64) + (sb.toInt64))))]))
    refine Ends.by ?_ (fun _ k => XS.ifNo X24.here hx rfl (hb hby at_176) rfl (XT.ll_ne_f (own_diff (by rw [own_sum (by omega) (by omega) (by omega) (by omega)]; omega) (by omega) (by omega) : ((lb - fi) + (1 : Int64)) = ((sa.toInt64) + (sb.toInt64)))) k)
    show Ends p e below s _ _ _ (T24.setTop (mkF m 179 #[.val (.long x0), .second, .val (.int x1), .val (.int x2), .val (.long fi), .second, .val (.int sa), .val (.int sb), .val (.ref b1), .val (.long la), .second, .val (.int (1 : Int32)), .val (.int (1 : Int32)), .val (.int (1 : Int32)), .val (.ref b10), .val (.long lb), .second, .unset] []))
    refine Ends.by ?_ (fun _ k => XS.iconst X24.here hx rfl (hb hby at_179) k)
    show Ends p e below s _ _ _ (T24.setTop (mkF m 180 #[.val (.long x0), .second, .val (.int x1), .val (.int x2), .val (.long fi), .second, .val (.int sa), .val (.int sb), .val (.ref b1), .val (.long la), .second, .val (.int (1 : Int32)), .val (.int (1 : Int32)), .val (.int (1 : Int32)), .val (.ref b10), .val (.long lb), .second, .unset] [(.int (1 : Int32))]))
    refine Ends.by ?_ (fun _ k => XS.goto X24.here hx rfl (pc0 := 180) (pc' := 184) rfl (hb hby at_180) (by decide) (by decide) k)
    show Ends p e below s _ _ _ (T24.setTop (mkF m 184 #[.val (.long x0), .second, .val (.int x1), .val (.int x2), .val (.long fi), .second, .val (.int sa), .val (.int sb), .val (.ref b1), .val (.long la), .second, .val (.int (1 : Int32)), .val (.int (1 : Int32)), .val (.int (1 : Int32)), .val (.ref b10), .val (.long lb), .second, .unset] [(.int (1 : Int32))]))
    refine Ends.by ?_ (fun _ k => XS.istore X24.here hx rfl (hb hby at_184) rfl (l' := #[.val (.long x0), .second, .val (.int x1), .val (.int x2), .val (.long fi), .second, .val (.int sa), .val (.int sb), .val (.ref b1), .val (.long la), .second, .val (.int (1 : Int32)), .val (.int (1 : Int32)), .val (.int (1 : Int32)), .val (.ref b10), .val (.long lb), .second, .val (.int (1 : Int32))]) rfl k)
    show Ends p e below s _ _ _ (T24.setTop (mkF m 186 #[.val (.long x0), .second, .val (.int x1), .val (.int x2), .val (.long fi), .second, .val (.int sa), .val (.int sb), .val (.ref b1), .val (.long la), .second, .val (.int (1 : Int32)), .val (.int (1 : Int32)), .val (.int (1 : Int32)), .val (.ref b10), .val (.long lb), .second, .val (.int (1 : Int32))] []))
    refine Ends.by ?_ (fun _ k => XS.iload X24.here hx rfl (hb hby at_186) rfl k)
    show Ends p e below s _ _ _ (T24.setTop (mkF m 188 #[.val (.long x0), .second, .val (.int x1), .val (.int x2), .val (.long fi), .second, .val (.int sa), .val (.int sb), .val (.ref b1), .val (.long la), .second, .val (.int (1 : Int32)), .val (.int (1 : Int32)), .val (.int (1 : Int32)), .val (.ref b10), .val (.long lb), .second, .val (.int (1 : Int32))] [(.int (1 : Int32))]))
    refine Ends.by ?_ (fun _ k => XS.ifNo X24.here hx rfl (hb hby at_188) rfl (XT.i0_eq_f (by decide)) k)
    show Ends p e below s _ _ _ (T24.setTop (mkF m 191 #[.val (.long x0), .second, .val (.int x1), .val (.int x2), .val (.long fi), .second, .val (.int sa), .val (.int sb), .val (.ref b1), .val (.long la), .second, .val (.int (1 : Int32)), .val (.int (1 : Int32)), .val (.int (1 : Int32)), .val (.ref b10), .val (.long lb), .second, .val (.int (1 : Int32))] []))
    refine Ends.by ?_ (fun _ k => XS.iload X24.here hx rfl (hb hby at_191) rfl k)
    show Ends p e below s _ _ _ (T24.setTop (mkF m 193 #[.val (.long x0), .second, .val (.int x1), .val (.int x2), .val (.long fi), .second, .val (.int sa), .val (.int sb), .val (.ref b1), .val (.long la), .second, .val (.int (1 : Int32)), .val (.int (1 : Int32)), .val (.int (1 : Int32)), .val (.ref b10), .val (.long lb), .second, .val (.int (1 : Int32))] [(.int (1 : Int32))]))
    refine Ends.by ?_ (fun _ k => XS.ifNo X24.here hx rfl (hb hby at_193) rfl (XT.i0_eq_f (by decide)) k)
    show Ends p e below s _ _ _ (T24.setTop (mkF m 196 #[.val (.long x0), .second, .val (.int x1), .val (.int x2), .val (.long fi), .second, .val (.int sa), .val (.int sb), .val (.ref b1), .val (.long la), .second, .val (.int (1 : Int32)), .val (.int (1 : Int32)), .val (.int (1 : Int32)), .val (.ref b10), .val (.long lb), .second, .val (.int (1 : Int32))] []))
    refine Ends.by ?_ (fun _ k => XS.iload X24.here hx rfl (hb hby at_196) rfl k)
    show Ends p e below s _ _ _ (T24.setTop (mkF m 198 #[.val (.long x0), .second, .val (.int x1), .val (.int x2), .val (.long fi), .second, .val (.int sa), .val (.int sb), .val (.ref b1), .val (.long la), .second, .val (.int (1 : Int32)), .val (.int (1 : Int32)), .val (.int (1 : Int32)), .val (.ref b10), .val (.long lb), .second, .val (.int (1 : Int32))] [(.int (1 : Int32))]))
    refine Ends.by ?_ (fun _ k => XS.ifNo X24.here hx rfl (hb hby at_198) rfl (XT.i0_eq_f (by decide)) k)
    show Ends p e below s _ _ _ (T24.setTop (mkF m 201 #[.val (.long x0), .second, .val (.int x1), .val (.int x2), .val (.long fi), .second, .val (.int sa), .val (.int sb), .val (.ref b1), .val (.long la), .second, .val (.int (1 : Int32)), .val (.int (1 : Int32)), .val (.int (1 : Int32)), .val (.ref b10), .val (.long lb), .second, .val (.int (1 : Int32))] []))
    refine Ends.by ?_ (fun _ k => XS.iload X24.here hx rfl (hb hby at_201) rfl k)
    show Ends p e below s _ _ _ (T24.setTop (mkF m 203 #[.val (.long x0), .second, .val (.int x1), .val (.int x2), .val (.long fi), .second, .val (.int sa), .val (.int sb), .val (.ref b1), .val (.long la), .second, .val (.int (1 : Int32)), .val (.int (1 : Int32)), .val (.int (1 : Int32)), .val (.ref b10), .val (.long lb), .second, .val (.int (1 : Int32))] [(.int (1 : Int32))]))
    refine Ends.by ?_ (fun _ k => XS.ifNo X24.here hx rfl (hb hby at_203) rfl (XT.i0_eq_f (by decide)) k)
    show Ends p e below s _ _ _ (T24.setTop (mkF m 206 #[.val (.long x0), .second, .val (.int x1), .val (.int x2), .val (.long fi), .second, .val (.int sa), .val (.int sb), .val (.ref b1), .val (.long la), .second, .val (.int (1 : Int32)), .val (.int (1 : Int32)), .val (.int (1 : Int32)), .val (.ref b10), .val (.long lb), .second, .val (.int (1 : Int32))] []))
    refine Ends.by ?_ (fun _ k => XS.iconst X24.here hx rfl (hb hby at_206) k)
    show Ends p e below s _ _ _ (T24.setTop (mkF m 207 #[.val (.long x0), .second, .val (.int x1), .val (.int x2), .val (.long fi), .second, .val (.int sa), .val (.int sb), .val (.ref b1), .val (.long la), .second, .val (.int (1 : Int32)), .val (.int (1 : Int32)), .val (.int (1 : Int32)), .val (.ref b10), .val (.long lb), .second, .val (.int (1 : Int32))] [(.int (1 : Int32))]))
    refine Ends.by ?_ (fun _ k => XS.goto X24.here hx rfl (pc0 := 207) (pc' := 211) rfl (hb hby at_207) (by decide) (by decide) k)
    show Ends p e below s _ _ _ (T24.setTop (mkF m 211 #[.val (.long x0), .second, .val (.int x1), .val (.int x2), .val (.long fi), .second, .val (.int sa), .val (.int sb), .val (.ref b1), .val (.long la), .second, .val (.int (1 : Int32)), .val (.int (1 : Int32)), .val (.int (1 : Int32)), .val (.ref b10), .val (.long lb), .second, .val (.int (1 : Int32))] [(.int (1 : Int32))]))
    exact Ends.retN X24 hx Bd.notSynchronized Bd.returns (t := .boolean) (by simp) (hb hby at_211) (w := 1) rfl ⟨rfl, N24⟩ (by decide) (by decide)
  · refine Ends.by ?_ (fun _ k => XS.icmpYes X8.here hx rfl (pc0 := 108) (pc' := 115) rfl (hb hby at_108) rfl (XT.ii_ne_t hc9) (by decide) (by decide) k)
    show Ends p e below s _ _ _ (T8.setTop (mkF m 115 #[.val (.long x0), .second, .val (.int x1), .val (.int x2), .val (.long fi), .second, .val (.int sa), .val (.int sb), .val (.ref b1), .val (.long la), .second, .val (.int (1 : Int32)), .val (.int (1 : Int32)), .unset, .unset, .unset, .unset, .unset] []))
    refine Ends.by ?_ (fun _ k => XS.iconst X8.here hx rfl (hb hby at_115) k)
    show Ends p e below s _ _ _ (T8.setTop (mkF m 116 #[.val (.long x0), .second, .val (.int x1), .val (.int x2), .val (.long fi), .second, .val (.int sa), .val (.int sb), .val (.ref b1), .val (.long la), .second, .val (.int (1 : Int32)), .val (.int (1 : Int32)), .unset, .unset, .unset, .unset, .unset] [(.int (0 : Int32))]))
    refine Ends.by ?_ (fun _ k => XS.lload X8.here hx rfl (hb hby at_116) rfl k)
    show Ends p e below s _ _ _ (T8.setTop (mkF m 118 #[.val (.long x0), .second, .val (.int x1), .val (.int x2), .val (.long fi), .second, .val (.int sa), .val (.int sb), .val (.ref b1), .val (.long la), .second, .val (.int (1 : Int32)), .val (.int (1 : Int32)), .unset, .unset, .unset, .unset, .unset] [(.long la), (.int (0 : Int32))]))
    refine Ends.by ?_ (fun _ k => XS.lload X8.here hx rfl (hb hby at_118) rfl k)
    show Ends p e below s _ _ _ (T8.setTop (mkF m 120 #[.val (.long x0), .second, .val (.int x1), .val (.int x2), .val (.long fi), .second, .val (.int sa), .val (.int sb), .val (.ref b1), .val (.long la), .second, .val (.int (1 : Int32)), .val (.int (1 : Int32)), .unset, .unset, .unset, .unset, .unset] [(.long fi), (.long la), (.int (0 : Int32))]))
    refine Ends.by ?_ (fun _ k => XS.lcmp X8.here hx rfl (hb hby at_120) rfl k)
    show Ends p e below s _ _ _ (T8.setTop (mkF m 121 #[.val (.long x0), .second, .val (.int x1), .val (.int x2), .val (.long fi), .second, .val (.int sa), .val (.int sb), .val (.ref b1), .val (.long la), .second, .val (.int (1 : Int32)), .val (.int (1 : Int32)), .unset, .unset, .unset, .unset, .unset] [(.int (XT.cmpL la fi)), (.int (0 : Int32))]))
    refine Ends.by ?_ (fun _ k => XS.ifYes X8.here hx rfl (pc0 := 121) (pc' := 128) rfl (hb hby at_121) rfl (XT.ll_ne_t (fun q => hc9 (by apply Int32.toInt_inj.mp; have e1 : (1 : Int32).toInt = 1 := rfl; have q := congrArg Int64.toInt q; omega) : ¬ (la = fi))) (by decide) (by decide) k)
    show Ends p e below s _ _ _ (T8.setTop (mkF m 128 #[.val (.long x0), .second, .val (.int x1), .val (.int x2), .val (.long fi), .second, .val (.int sa), .val (.int sb), .val (.ref b1), .val (.long la), .second, .val (.int (1 : Int32)), .val (.int (1 : Int32)), .unset, .unset, .unset, .unset, .unset] [(.int (0 : Int32))]))
    refine Ends.by ?_ (fun _ k => XS.iconst X8.here hx rfl (hb hby at_128) k)
    show Ends p e below s _ _ _ (T8.setTop (mkF m 129 #[.val (.long x0), .second, .val (.int x1), .val (.int x2), .val (.long fi), .second, .val (.int sa), .val (.int sb), .val (.ref b1), .val (.long la), .second, .val (.int (1 : Int32)), .val (.int (1 : Int32)), .unset, .unset, .unset, .unset, .unset] [(.int (0 : Int32)), (.int (0 : Int32))]))
    refine Ends.by ?_ (fun _ k => XS.icmpNo X8.here hx rfl (hb hby at_129) rfl (XT.ii_ne_f (by decide)) k)
    show Ends p e below s _ _ _ (T8.setTop (mkF m 132 #[.val (.long x0), .second, .val (.int x1), .val (.int x2), .val (.long fi), .second, .val (.int sa), .val (.int sb), .val (.ref b1), .val (.long la), .second, .val (.int (1 : Int32)), .val (.int (1 : Int32)), .unset, .unset, .unset, .unset, .unset] []))
    refine Ends.by ?_ (fun _ k => XS.iconst X8.here hx rfl (hb hby at_132) k)
    show Ends p e below s _ _ _ (T8.setTop (mkF m 133 #[.val (.long x0), .second, .val (.int x1), .val (.int x2), .val (.long fi), .second, .val (.int sa), .val (.int sb), .val (.ref b1), .val (.long la), .second, .val (.int (1 : Int32)), .val (.int (1 : Int32)), .unset, .unset, .unset, .unset, .unset] [(.int (1 : Int32))]))
    refine Ends.by ?_ (fun _ k => XS.goto X8.here hx rfl (pc0 := 133) (pc' := 137) rfl (hb hby at_133) (by decide) (by decide) k)
    show Ends p e below s _ _ _ (T8.setTop (mkF m 137 #[.val (.long x0), .second, .val (.int x1), .val (.int x2), .val (.long fi), .second, .val (.int sa), .val (.int sb), .val (.ref b1), .val (.long la), .second, .val (.int (1 : Int32)), .val (.int (1 : Int32)), .unset, .unset, .unset, .unset, .unset] [(.int (1 : Int32))]))
    refine Ends.by ?_ (fun _ k => XS.istore X8.here hx rfl (hb hby at_137) rfl (l' := #[.val (.long x0), .second, .val (.int x1), .val (.int x2), .val (.long fi), .second, .val (.int sa), .val (.int sb), .val (.ref b1), .val (.long la), .second, .val (.int (1 : Int32)), .val (.int (1 : Int32)), .val (.int (1 : Int32)), .unset, .unset, .unset, .unset]) rfl k)
    show Ends p e below s _ _ _ (T8.setTop (mkF m 139 #[.val (.long x0), .second, .val (.int x1), .val (.int x2), .val (.long fi), .second, .val (.int sa), .val (.int sb), .val (.ref b1), .val (.long la), .second, .val (.int (1 : Int32)), .val (.int (1 : Int32)), .val (.int (1 : Int32)), .unset, .unset, .unset, .unset] []))
    obtain ⟨T25, h25, X25, e25, E25, A25, D25, -, st25⟩ := newO X8 hx hZ hown (hw _ (List.mem_of_getElem? (i := 3) rfl)) (hw _ (List.mem_of_getElem? (i := 4) rfl)) (hw _ (List.mem_of_getElem? (i := 5) rfl)) e8 (g := (mkF m 139 #[.val (.long x0), .second, .val (.int x1), .val (.int x2), .val (.long fi), .second, .val (.int sa), .val (.int sb), .val (.ref b1), .val (.long la), .second, .val (.int (1 : Int32)), .val (.int (1 : Int32)), .val (.int (1 : Int32)), .unset, .unset, .unset, .unset] [])) rfl (hb hby at_139) (by decide) (by decide)
    obtain ⟨b25, g25⟩ : ∃ z, z = T3.heap.size := ⟨_, rfl⟩
    rw [← g25] at A25 D25 st25
    have ne26 : b1 ≠ b25 := Nat.ne_of_lt (Nat.lt_of_lt_of_le Ex3.lt (Nat.le_of_eq g25.symm))
    have gn25 : n0 ≤ b25 := Nat.le_trans Zs7 (Nat.le_of_eq g25.symm)
    have f27 := Exa.ext E25 Ex3
    have f28 := Fld.ext E25 Fa3
    have f29 := Fld.ext E25 Fb3
    have F25_first : Fld Z h25 b25 "com/example/fiddlehead/fiddlehead/server/Page" "first" "J" (.long (0 : Int64)) := D25 (Or.inr (hw _ (List.mem_of_getElem? (i := 18) rfl))) (ty := .long) (by decide)
    have F25_size : Fld Z h25 b25 "com/example/fiddlehead/fiddlehead/server/Page" "size" "I" (.int (0 : Int32)) := D25 (Or.inr (hw _ (List.mem_of_getElem? (i := 20) rfl))) (ty := .int) (by decide)
    have Zs30 : n0 ≤ h25.size := Nat.le_trans Zs7 E25.1
    refine Ends.by ?_ st25
    show Ends p e below s _ _ _ (T25.setTop (mkF m 142 #[.val (.long x0), .second, .val (.int x1), .val (.int x2), .val (.long fi), .second, .val (.int sa), .val (.int sb), .val (.ref b1), .val (.long la), .second, .val (.int (1 : Int32)), .val (.int (1 : Int32)), .val (.int (1 : Int32)), .unset, .unset, .unset, .unset] [(.ref b25)]))
    refine Ends.by ?_ (fun _ k => XS.dup X25.here hx rfl (hb hby at_142) rfl rfl k)
    show Ends p e below s _ _ _ (T25.setTop (mkF m 143 #[.val (.long x0), .second, .val (.int x1), .val (.int x2), .val (.long fi), .second, .val (.int sa), .val (.int sb), .val (.ref b1), .val (.long la), .second, .val (.int (1 : Int32)), .val (.int (1 : Int32)), .val (.int (1 : Int32)), .unset, .unset, .unset, .unset] [(.ref b25), (.ref b25)]))
    refine Ends.by ?_ (fun _ k => XS.lload X25.here hx rfl (hb hby at_143) rfl k)
    show Ends p e below s _ _ _ (T25.setTop (mkF m 145 #[.val (.long x0), .second, .val (.int x1), .val (.int x2), .val (.long fi), .second, .val (.int sa), .val (.int sb), .val (.ref b1), .val (.long la), .second, .val (.int (1 : Int32)), .val (.int (1 : Int32)), .val (.int (1 : Int32)), .unset, .unset, .unset, .unset] [(.long la), (.ref b25), (.ref b25)]))
    refine Ends.by ?_ (fun _ k => XS.lconst X25.here hx rfl (hb hby at_145) k)
    show Ends p e below s _ _ _ (T25.setTop (mkF m 146 #[.val (.long x0), .second, .val (.int x1), .val (.int x2), .val (.long fi), .second, .val (.int sa), .val (.int sb), .val (.ref b1), .val (.long la), .second, .val (.int (1 : Int32)), .val (.int (1 : Int32)), .val (.int (1 : Int32)), .unset, .unset, .unset, .unset] [(.long (1 : Int64)), (.long la), (.ref b25), (.ref b25)]))
    refine Ends.by ?_ (fun _ k => XS.ladd X25.here hx rfl (hb hby at_146) rfl k)
    show Ends p e below s _ _ _ (T25.setTop (mkF m 147 #[.val (.long x0), .second, .val (.int x1), .val (.int x2), .val (.long fi), .second, .val (.int sa), .val (.int sb), .val (.ref b1), .val (.long la), .second, .val (.int (1 : Int32)), .val (.int (1 : Int32)), .val (.int (1 : Int32)), .unset, .unset, .unset, .unset] [(.long (la + (1 : Int64))), (.ref b25), (.ref b25)]))
    refine Ends.by ?_ (fun _ k => XS.iload X25.here hx rfl (hb hby at_147) rfl k)
    show Ends p e below s _ _ _ (T25.setTop (mkF m 149 #[.val (.long x0), .second, .val (.int x1), .val (.int x2), .val (.long fi), .second, .val (.int sa), .val (.int sb), .val (.ref b1), .val (.long la), .second, .val (.int (1 : Int32)), .val (.int (1 : Int32)), .val (.int (1 : Int32)), .unset, .unset, .unset, .unset] [(.int sb), (.long (la + (1 : Int64))), (.ref b25), (.ref b25)]))
    obtain ⟨v31, _, ⟨T31, L31, k31, n31⟩, -, X31, ⟨Lc31, hQ31, l31, y31, z31⟩, st31⟩ := X25.specialBack hx (y := (⟨"com/example/fiddlehead/fiddlehead/server/Page", "<init>", "(JI)V"⟩ : MethodName)) rfl hown (mvT hZ (hw _ (List.mem_of_getElem? (i := 6) rfl))) (mvT hZ (hw _ (List.mem_of_getElem? (i := 7) rfl))) (mvT hZ (hw _ (List.mem_of_getElem? (i := 8) rfl))) (by decide) (backOf (W := 1) (rm1 l Z a0 hw [] b25 (la + (1 : Int64)) sb h25 n0 Zs30 A25 F25_first F25_size gn25 (own_nlt64 (by have e1 : (1 : Int64).toInt = 1 := rfl; have q := own_inc (b := la) (by omega) (by omega); omega)) (own_nlt32 (by have e1 : (1 : Int32).toInt = 1 := rfl; omega)) (own_nlt32 (by have e1 : (1000 : Int32).toInt = 1000 := rfl; omega))) hZ (hw _ (List.mem_of_getElem? (i := 8) rfl)) (hw _ (List.mem_of_getElem? (i := 5) rfl)) (by decide) (by decide)) (g := (mkF m 149 #[.val (.long x0), .second, .val (.int x1), .val (.int x2), .val (.long fi), .second, .val (.int sa), .val (.int sb), .val (.ref b1), .val (.long la), .second, .val (.int (1 : Int32)), .val (.int (1 : Int32)), .val (.int (1 : Int32)), .unset, .unset, .unset, .unset] [(.int sb), (.long (la + (1 : Int64))), (.ref b25), (.ref b25)])) rfl (by rw [hml]; rfl) (Steps.refl _) (a := b25) (argsL := [(.long (la + (1 : Int64))), (.int sb)]) (rest := [(.ref b25)]) (lenOf pd_1 rfl) rfl (by show 2 * 0 + _ ≤ _; exact Nat.le_of_eq rfl) (hb hby at_149) (fun _ _ => ⟨rfl, e25, (by decide : 2 + 0 ≤ _), (by decide : 4 + 0 ≤ _)⟩)
    dsimp only [Pt.U, Pt.locs, Pt.cells, Pt.slots] at X31 l31 y31 z31 st31 hQ31
    subst l31 y31 z31
    obtain ⟨rfl, N31q, K31, Ex31, Fa31, Fb31⟩ := hQ31
    have N31 := Fr.app N8 N31q
    have f32 := f27.keep K31
    have f33 := f28.keep K31 (by simp [ne26])
    have f34 := f29.keep K31 (by simp [ne26])
    have f35 := A25.keep K31
    have Zs38 : n0 ≤ T31.heap.size := Nat.le_trans Zs30 K31.1
    refine Ends.go st31 ?_
    show Ends p e below s _ _ _ (T31.setTop (mkF m 152 #[.val (.long x0), .second, .val (.int x1), .val (.int x2), .val (.long fi), .second, .val (.int sa), .val (.int sb), .val (.ref b1), .val (.long la), .second, .val (.int (1 : Int32)), .val (.int (1 : Int32)), .val (.int (1 : Int32)), .unset, .unset, .unset, .unset] [(.ref b25)]))
    refine Ends.by ?_ (fun _ k => XS.astore X31.here hx rfl (hb hby at_152) rfl rfl (l' := #[.val (.long x0), .second, .val (.int x1), .val (.int x2), .val (.long fi), .second, .val (.int sa), .val (.int sb), .val (.ref b1), .val (.long la), .second, .val (.int (1 : Int32)), .val (.int (1 : Int32)), .val (.int (1 : Int32)), .val (.ref b25), .unset, .unset, .unset]) rfl k)
    show Ends p e below s _ _ _ (T31.setTop (mkF m 154 #[.val (.long x0), .second, .val (.int x1), .val (.int x2), .val (.long fi), .second, .val (.int sa), .val (.int sb), .val (.ref b1), .val (.long la), .second, .val (.int (1 : Int32)), .val (.int (1 : Int32)), .val (.int (1 : Int32)), .val (.ref b25), .unset, .unset, .unset] []))
    refine Ends.by ?_ (fun _ k => XS.aload X31.here hx rfl (hb hby at_154) rfl rfl k)
    show Ends p e below s _ _ _ (T31.setTop (mkF m 156 #[.val (.long x0), .second, .val (.int x1), .val (.int x2), .val (.long fi), .second, .val (.int sa), .val (.int sb), .val (.ref b1), .val (.long la), .second, .val (.int (1 : Int32)), .val (.int (1 : Int32)), .val (.int (1 : Int32)), .val (.ref b25), .unset, .unset, .unset] [(.ref b25)]))
    obtain ⟨cq39, kq39, q39a, q39b, q39c⟩ := isOf hZ rfl Ex31
    obtain ⟨v39, _, ⟨T39, L39, k39, n39⟩, -, X39, ⟨Lc39, hQ39, l39, y39, z39⟩, st39⟩ := X31.virtualBack hx (y := (⟨"com/example/fiddlehead/fiddlehead/server/Page", "last", "()J"⟩ : MethodName)) (z := (⟨"com/example/fiddlehead/fiddlehead/server/Page", "last", "()J"⟩ : MethodName)) hown (mvT hZ (hw _ (List.mem_of_getElem? (i := 21) rfl))) (mvT hZ (hw _ (List.mem_of_getElem? (i := 22) rfl))) (notFace_of_selects (args := #[]) (mvT hZ (hw _ (List.mem_of_getElem? (i := 24) rfl)))) (mvT hZ (hw _ (List.mem_of_getElem? (i := 24) rfl))) (mvT hZ (hw _ (List.mem_of_getElem? (i := 23) rfl))) (by decide) (backOf (W := 0) (rm4 l Z a0 hw [] b25 (la + (1 : Int64)) sb T31.heap n0 Zs38 Fa31 Fb31) hZ (hw _ (List.mem_of_getElem? (i := 25) rfl)) (hw _ (List.mem_of_getElem? (i := 5) rfl)) (by decide) (by decide)) q39a q39c (g := (mkF m 156 #[.val (.long x0), .second, .val (.int x1), .val (.int x2), .val (.long fi), .second, .val (.int sa), .val (.int sb), .val (.ref b1), .val (.long la), .second, .val (.int (1 : Int32)), .val (.int (1 : Int32)), .val (.int (1 : Int32)), .val (.ref b25), .unset, .unset, .unset] [(.ref b25)])) rfl (by rw [hml]; rfl) (Steps.refl _) (argsL := []) (rest := []) (lenOf pd_2 rfl) rfl (by show 2 * 0 + _ ≤ _; exact Nat.le_of_eq rfl) (hb hby at_156) (fun _ _ => ⟨rfl, rfl, (by decide : 2 + 0 ≤ _), (by decide : 4 + 0 ≤ _)⟩)
    dsimp only [Pt.U, Pt.locs, Pt.cells, Pt.slots] at X39 l39 y39 z39 st39 hQ39
    subst l39 y39 z39
    obtain ⟨rfl, N39q, e39⟩ := hQ39
    have N39 := Fr.app N31 N39q
    refine Ends.go st39 ?_
    show Ends p e below s _ _ _ (T39.setTop (mkF m 159 #[.val (.long x0), .second, .val (.int x1), .val (.int x2), .val (.long fi), .second, .val (.int sa), .val (.int sb), .val (.ref b1), .val (.long la), .second, .val (.int (1 : Int32)), .val (.int (1 : Int32)), .val (.int (1 : Int32)), .val (.ref b25), .unset, .unset, .unset] [(.long ((la + (1 : Int64)) + sb.toInt64 - (1 : Int64)))]))
    obtain ⟨lb, hlb⟩ : ∃ z : Int64, z = ((la + (1 : Int64)) + sb.toInt64 - (1 : Int64)) := ⟨_, rfl⟩
    rw [← hlb]
    show Ends p e below s _ _ _ (T39.setTop (mkF m 159 #[.val (.long x0), .second, .val (.int x1), .val (.int x2), .val (.long fi), .second, .val (.int sa), .val (.int sb), .val (.ref b1), .val (.long la), .second, .val (.int (1 : Int32)), .val (.int (1 : Int32)), .val (.int (1 : Int32)), .val (.ref b25), .unset, .unset, .unset] [(.long lb)]))
    have hl2 : lb.toInt = fi.toInt + sa.toInt + sb.toInt - 1 := by rw [hlb, own_last (by rw [own_inc (by omega) (by omega)]; omega) (by rw [own_inc (by omega) (by omega)]; omega) (by omega) (by omega), own_inc (by omega) (by omega)]; omega
    clear hlb
    refine Ends.by ?_ (fun _ k => XS.lstore X39.here hx rfl (hb hby at_159) rfl (l' := #[.val (.long x0), .second, .val (.int x1), .val (.int x2), .val (.long fi), .second, .val (.int sa), .val (.int sb), .val (.ref b1), .val (.long la), .second, .val (.int (1 : Int32)), .val (.int (1 : Int32)), .val (.int (1 : Int32)), .val (.ref b25), .val (.long lb), .second, .unset]) rfl k)
    show Ends p e below s _ _ _ (T39.setTop (mkF m 161 #[.val (.long x0), .second, .val (.int x1), .val (.int x2), .val (.long fi), .second, .val (.int sa), .val (.int sb), .val (.ref b1), .val (.long la), .second, .val (.int (1 : Int32)), .val (.int (1 : Int32)), .val (.int (1 : Int32)), .val (.ref b25), .val (.long lb), .second, .unset] []))
    refine Ends.by ?_ (fun _ k => XS.lload X39.here hx rfl (hb hby at_161) rfl k)
    show Ends p e below s _ _ _ (T39.setTop (mkF m 163 #[.val (.long x0), .second, .val (.int x1), .val (.int x2), .val (.long fi), .second, .val (.int sa), .val (.int sb), .val (.ref b1), .val (.long la), .second, .val (.int (1 : Int32)), .val (.int (1 : Int32)), .val (.int (1 : Int32)), .val (.ref b25), .val (.long lb), .second, .unset] [(.long lb)]))
    refine Ends.by ?_ (fun _ k => XS.lload X39.here hx rfl (hb hby at_163) rfl k)
    show Ends p e below s _ _ _ (T39.setTop (mkF m 165 #[.val (.long x0), .second, .val (.int x1), .val (.int x2), .val (.long fi), .second, .val (.int sa), .val (.int sb), .val (.ref b1), .val (.long la), .second, .val (.int (1 : Int32)), .val (.int (1 : Int32)), .val (.int (1 : Int32)), .val (.ref b25), .val (.long lb), .second, .unset] [(.long fi), (.long lb)]))
    refine Ends.by ?_ (fun _ k => XS.lsub X39.here hx rfl (hb hby at_165) rfl k)
    show Ends p e below s _ _ _ (T39.setTop (mkF m 166 #[.val (.long x0), .second, .val (.int x1), .val (.int x2), .val (.long fi), .second, .val (.int sa), .val (.int sb), .val (.ref b1), .val (.long la), .second, .val (.int (1 : Int32)), .val (.int (1 : Int32)), .val (.int (1 : Int32)), .val (.ref b25), .val (.long lb), .second, .unset] [(.long (lb - fi))]))
    refine Ends.by ?_ (fun _ k => XS.lconst X39.here hx rfl (hb hby at_166) k)
    show Ends p e below s _ _ _ (T39.setTop (mkF m 167 #[.val (.long x0), .second, .val (.int x1), .val (.int x2), .val (.long fi), .second, .val (.int sa), .val (.int sb), .val (.ref b1), .val (.long la), .second, .val (.int (1 : Int32)), .val (.int (1 : Int32)), .val (.int (1 : Int32)), .val (.ref b25), .val (.long lb), .second, .unset] [(.long (1 : Int64)), (.long (lb - fi))]))
    refine Ends.by ?_ (fun _ k => XS.ladd X39.here hx rfl (hb hby at_167) rfl k)
    show Ends p e below s _ _ _ (T39.setTop (mkF m 168 #[.val (.long x0), .second, .val (.int x1), .val (.int x2), .val (.long fi), .second, .val (.int sa), .val (.int sb), .val (.ref b1), .val (.long la), .second, .val (.int (1 : Int32)), .val (.int (1 : Int32)), .val (.int (1 : Int32)), .val (.ref b25), .val (.long lb), .second, .unset] [(.long ((lb - fi) + (1 : Int64)))]))
    refine Ends.by ?_ (fun _ k => XS.iload X39.here hx rfl (hb hby at_168) rfl k)
    show Ends p e below s _ _ _ (T39.setTop (mkF m 170 #[.val (.long x0), .second, .val (.int x1), .val (.int x2), .val (.long fi), .second, .val (.int sa), .val (.int sb), .val (.ref b1), .val (.long la), .second, .val (.int (1 : Int32)), .val (.int (1 : Int32)), .val (.int (1 : Int32)), .val (.ref b25), .val (.long lb), .second, .unset] [(.int sa), (.long ((lb - fi) + (1 : Int64)))]))
    refine Ends.by ?_ (fun _ k => XS.i2l X39.here hx rfl (hb hby at_170) rfl k)
    show Ends p e below s _ _ _ (T39.setTop (mkF m 171 #[.val (.long x0), .second, .val (.int x1), .val (.int x2), .val (.long fi), .second, .val (.int sa), .val (.int sb), .val (.ref b1), .val (.long la), .second, .val (.int (1 : Int32)), .val (.int (1 : Int32)), .val (.int (1 : Int32)), .val (.ref b25), .val (.long lb), .second, .unset] [(.long (sa.toInt64)), (.long ((lb - fi) + (1 : Int64)))]))
    refine Ends.by ?_ (fun _ k => XS.iload X39.here hx rfl (hb hby at_171) rfl k)
    show Ends p e below s _ _ _ (T39.setTop (mkF m 173 #[.val (.long x0), .second, .val (.int x1), .val (.int x2), .val (.long fi), .second, .val (.int sa), .val (.int sb), .val (.ref b1), .val (.long la), .second, .val (.int (1 : Int32)), .val (.int (1 : Int32)), .val (.int (1 : Int32)), .val (.ref b25), .val (.long lb), .second, .unset] [(.int sb), (.long (sa.toInt64)), (.long ((lb - fi) + (1 : Int64)))]))
    refine Ends.by ?_ (fun _ k => XS.i2l X39.here hx rfl (hb hby at_173) rfl k)
    show Ends p e below s _ _ _ (T39.setTop (mkF m 174 #[.val (.long x0), .second, .val (.int x1), .val (.int x2), .val (.long fi), .second, .val (.int sa), .val (.int sb), .val (.ref b1), .val (.long la), .second, .val (.int (1 : Int32)), .val (.int (1 : Int32)), .val (.int (1 : Int32)), .val (.ref b25), .val (.long lb), .second, .unset] [(.long (sb.toInt64)), (.long (sa.toInt64)), (.long ((lb - fi) + (1 : Int64)))]))
    refine Ends.by ?_ (fun _ k => XS.ladd X39.here hx rfl (hb hby at_174) rfl k)
    show Ends p e below s _ _ _ (T39.setTop (mkF m 175 #[.val (.long x0), .second, .val (.int x1), .val (.int x2), .val (.long fi), .second, .val (.int sa), .val (.int sb), .val (.ref b1), .val (.long la), .second, .val (.int (1 : Int32)), .val (.int (1 : Int32)), .val (.int (1 : Int32)), .val (.ref b25), .val (.long lb), .second, .unset] [(.long ((sa.toInt64) + (sb.toInt64))), (.long ((lb - fi) + (1 : Int64)))]))
    refine Ends.by ?_ (fun _ k => XS.lcmp X39.here hx rfl (hb hby at_175) rfl k)
    show Ends p e below s _ _ _ (T39.setTop (mkF m 176 #[.val (.long x0), .second, .val (.int x1), .val (.int x2), .val (.long fi), .second, .val (.int sa), .val (.int sb), .val (.ref b1), .val (.long la), .second, .val (.int (1 : Int32)), .val (.int (1 : Int32)), .val (.int (1 : Int32)), .val (.ref b25), .val (.long lb), .second, .unset] [(.int (XT.cmpL ((lb - fi) + (1 : Int64)) ((sa.toInt64) + (sb.toInt64))))]))
    refine Ends.by ?_ (fun _ k => XS.ifNo X39.here hx rfl (hb hby at_176) rfl (XT.ll_ne_f (own_diff (by rw [own_sum (by omega) (by omega) (by omega) (by omega)]; omega) (by omega) (by omega) : ((lb - fi) + (1 : Int64)) = ((sa.toInt64) + (sb.toInt64)))) k)
    show Ends p e below s _ _ _ (T39.setTop (mkF m 179 #[.val (.long x0), .second, .val (.int x1), .val (.int x2), .val (.long fi), .second, .val (.int sa), .val (.int sb), .val (.ref b1), .val (.long la), .second, .val (.int (1 : Int32)), .val (.int (1 : Int32)), .val (.int (1 : Int32)), .val (.ref b25), .val (.long lb), .second, .unset] []))
    refine Ends.by ?_ (fun _ k => XS.iconst X39.here hx rfl (hb hby at_179) k)
    show Ends p e below s _ _ _ (T39.setTop (mkF m 180 #[.val (.long x0), .second, .val (.int x1), .val (.int x2), .val (.long fi), .second, .val (.int sa), .val (.int sb), .val (.ref b1), .val (.long la), .second, .val (.int (1 : Int32)), .val (.int (1 : Int32)), .val (.int (1 : Int32)), .val (.ref b25), .val (.long lb), .second, .unset] [(.int (1 : Int32))]))
    refine Ends.by ?_ (fun _ k => XS.goto X39.here hx rfl (pc0 := 180) (pc' := 184) rfl (hb hby at_180) (by decide) (by decide) k)
    show Ends p e below s _ _ _ (T39.setTop (mkF m 184 #[.val (.long x0), .second, .val (.int x1), .val (.int x2), .val (.long fi), .second, .val (.int sa), .val (.int sb), .val (.ref b1), .val (.long la), .second, .val (.int (1 : Int32)), .val (.int (1 : Int32)), .val (.int (1 : Int32)), .val (.ref b25), .val (.long lb), .second, .unset] [(.int (1 : Int32))]))
    refine Ends.by ?_ (fun _ k => XS.istore X39.here hx rfl (hb hby at_184) rfl (l' := #[.val (.long x0), .second, .val (.int x1), .val (.int x2), .val (.long fi), .second, .val (.int sa), .val (.int sb), .val (.ref b1), .val (.long la), .second, .val (.int (1 : Int32)), .val (.int (1 : Int32)), .val (.int (1 : Int32)), .val (.ref b25), .val (.long lb), .second, .val (.int (1 : Int32))]) rfl k)
    show Ends p e below s _ _ _ (T39.setTop (mkF m 186 #[.val (.long x0), .second, .val (.int x1), .val (.int x2), .val (.long fi), .second, .val (.int sa), .val (.int sb), .val (.ref b1), .val (.long la), .second, .val (.int (1 : Int32)), .val (.int (1 : Int32)), .val (.int (1 : Int32)), .val (.ref b25), .val (.long lb), .second, .val (.int (1 : Int32))] []))
    refine Ends.by ?_ (fun _ k => XS.iload X39.here hx rfl (hb hby at_186) rfl k)
    show Ends p e below s _ _ _ (T39.setTop (mkF m 188 #[.val (.long x0), .second, .val (.int x1), .val (.int x2), .val (.long fi), .second, .val (.int sa), .val (.int sb), .val (.ref b1), .val (.long la), .second, .val (.int (1 : Int32)), .val (.int (1 : Int32)), .val (.int (1 : Int32)), .val (.ref b25), .val (.long lb), .second, .val (.int (1 : Int32))] [(.int (1 : Int32))]))
    refine Ends.by ?_ (fun _ k => XS.ifNo X39.here hx rfl (hb hby at_188) rfl (XT.i0_eq_f (by decide)) k)
    show Ends p e below s _ _ _ (T39.setTop (mkF m 191 #[.val (.long x0), .second, .val (.int x1), .val (.int x2), .val (.long fi), .second, .val (.int sa), .val (.int sb), .val (.ref b1), .val (.long la), .second, .val (.int (1 : Int32)), .val (.int (1 : Int32)), .val (.int (1 : Int32)), .val (.ref b25), .val (.long lb), .second, .val (.int (1 : Int32))] []))
    refine Ends.by ?_ (fun _ k => XS.iload X39.here hx rfl (hb hby at_191) rfl k)
    show Ends p e below s _ _ _ (T39.setTop (mkF m 193 #[.val (.long x0), .second, .val (.int x1), .val (.int x2), .val (.long fi), .second, .val (.int sa), .val (.int sb), .val (.ref b1), .val (.long la), .second, .val (.int (1 : Int32)), .val (.int (1 : Int32)), .val (.int (1 : Int32)), .val (.ref b25), .val (.long lb), .second, .val (.int (1 : Int32))] [(.int (1 : Int32))]))
    refine Ends.by ?_ (fun _ k => XS.ifNo X39.here hx rfl (hb hby at_193) rfl (XT.i0_eq_f (by decide)) k)
    show Ends p e below s _ _ _ (T39.setTop (mkF m 196 #[.val (.long x0), .second, .val (.int x1), .val (.int x2), .val (.long fi), .second, .val (.int sa), .val (.int sb), .val (.ref b1), .val (.long la), .second, .val (.int (1 : Int32)), .val (.int (1 : Int32)), .val (.int (1 : Int32)), .val (.ref b25), .val (.long lb), .second, .val (.int (1 : Int32))] []))
    refine Ends.by ?_ (fun _ k => XS.iload X39.here hx rfl (hb hby at_196) rfl k)
    show Ends p e below s _ _ _ (T39.setTop (mkF m 198 #[.val (.long x0), .second, .val (.int x1), .val (.int x2), .val (.long fi), .second, .val (.int sa), .val (.int sb), .val (.ref b1), .val (.long la), .second, .val (.int (1 : Int32)), .val (.int (1 : Int32)), .val (.int (1 : Int32)), .val (.ref b25), .val (.long lb), .second, .val (.int (1 : Int32))] [(.int (1 : Int32))]))
    refine Ends.by ?_ (fun _ k => XS.ifNo X39.here hx rfl (hb hby at_198) rfl (XT.i0_eq_f (by decide)) k)
    show Ends p e below s _ _ _ (T39.setTop (mkF m 201 #[.val (.long x0), .second, .val (.int x1), .val (.int x2), .val (.long fi), .second, .val (.int sa), .val (.int sb), .val (.ref b1), .val (.long la), .second, .val (.int (1 : Int32)), .val (.int (1 : Int32)), .val (.int (1 : Int32)), .val (.ref b25), .val (.long lb), .second, .val (.int (1 : Int32))] []))
    refine Ends.by ?_ (fun _ k => XS.iload X39.here hx rfl (hb hby at_201) rfl k)
    show Ends p e below s _ _ _ (T39.setTop (mkF m 203 #[.val (.long x0), .second, .val (.int x1), .val (.int x2), .val (.long fi), .second, .val (.int sa), .val (.int sb), .val (.ref b1), .val (.long la), .second, .val (.int (1 : Int32)), .val (.int (1 : Int32)), .val (.int (1 : Int32)), .val (.ref b25), .val (.long lb), .second, .val (.int (1 : Int32))] [(.int (1 : Int32))]))
    refine Ends.by ?_ (fun _ k => XS.ifNo X39.here hx rfl (hb hby at_203) rfl (XT.i0_eq_f (by decide)) k)
    show Ends p e below s _ _ _ (T39.setTop (mkF m 206 #[.val (.long x0), .second, .val (.int x1), .val (.int x2), .val (.long fi), .second, .val (.int sa), .val (.int sb), .val (.ref b1), .val (.long la), .second, .val (.int (1 : Int32)), .val (.int (1 : Int32)), .val (.int (1 : Int32)), .val (.ref b25), .val (.long lb), .second, .val (.int (1 : Int32))] []))
    refine Ends.by ?_ (fun _ k => XS.iconst X39.here hx rfl (hb hby at_206) k)
    show Ends p e below s _ _ _ (T39.setTop (mkF m 207 #[.val (.long x0), .second, .val (.int x1), .val (.int x2), .val (.long fi), .second, .val (.int sa), .val (.int sb), .val (.ref b1), .val (.long la), .second, .val (.int (1 : Int32)), .val (.int (1 : Int32)), .val (.int (1 : Int32)), .val (.ref b25), .val (.long lb), .second, .val (.int (1 : Int32))] [(.int (1 : Int32))]))
    refine Ends.by ?_ (fun _ k => XS.goto X39.here hx rfl (pc0 := 207) (pc' := 211) rfl (hb hby at_207) (by decide) (by decide) k)
    show Ends p e below s _ _ _ (T39.setTop (mkF m 211 #[.val (.long x0), .second, .val (.int x1), .val (.int x2), .val (.long fi), .second, .val (.int sa), .val (.int sb), .val (.ref b1), .val (.long la), .second, .val (.int (1 : Int32)), .val (.int (1 : Int32)), .val (.int (1 : Int32)), .val (.ref b25), .val (.long lb), .second, .val (.int (1 : Int32))] [(.int (1 : Int32))]))
    exact Ends.retN X39 hx Bd.notSynchronized Bd.returns (t := .boolean) (by simp) (hb hby at_211) (w := 1) rfl ⟨rfl, N39⟩ (by decide) (by decide)

set_option maxRecDepth 65536 in
set_option maxHeartbeats 40000000 in
theorem comes_1 {Post : Tables → Env → Array Value → State → Outcome → State → Prop} (hpost : ∀ tb e args s v u, (limb_1_1.after args s (.returned v) u = true ∧ limb_1_2.after args s (.returned v) u = true ∧ True) → FrameEnd s (.returned v) u (Jvm.fieldLocs frame_1_writes args s ++ Jvm.arrayLocs frame_1_arrays args s ++ Jvm.staticLocs frame_1_statics s) 16 128 → Post tb e args s (.returned v) u) :
    ArmFor flags0 classFile x code maxLocals ret World_1 tables_1 room_1 Calls_1 rest_1 Pre_1 Post := by
  intro l hfl _ _ p e ha hc hk s m args below hf hA hF happ hP
  obtain ⟨hcalls, hrest, hpre⟩ := hP
  obtain ⟨-, -, -, hnamed, -, -, -, hat⟩ := (Spec.applies_iff hf).mp happ
  obtain ⟨hg, hn⟩ := and_e (Cond.before_iff.mp (show (Jvm.Cond.and given_1 narrow_1).before args s = true from hpre))
  obtain ⟨g1, g2⟩ := and_e hg
  obtain ⟨g3, g4⟩ := and_e g2
  obtain ⟨g5, g6⟩ := and_e g4
  obtain ⟨w0, w1, w2, rfl⟩ : ∃ w0 w1 w2 : Value, args = #[w0, w1, w2] := by
    have hs : args.size = 3 := by simpa [Cond.value, given_1] using g1
    obtain ⟨L⟩ := args
    match L, hs with
    | [w0, w1, w2], _ => exact ⟨w0, w1, w2, rfl⟩
  have hw := fun d (hd : d ∈ tables_1) => atoms_spec (ws := Jvm.Cond.code x code maxLocals ret :: tables_1) hat d (List.mem_cons_of_mem _ hd)
  obtain ⟨i0, ei0⟩ := isL_v g3
  obtain rfl : w0 = (.long i0) := Option.some.inj ei0
  obtain ⟨i1, ei1⟩ := is_v g5
  obtain rfl : w1 = (.int i1) := Option.some.inj ei1
  obtain ⟨i2, ei2⟩ := is_v g6
  obtain rfl : w2 = (.int i2) := Option.some.inj ei2
  obtain ⟨n, o, h1, h2, h3, v, L, rfl, hQ, hq⟩ := rm0 l s _ hw tables_1 i0 i1 i2 s.heap s.heap.size (Nat.le_refl _) p e ha hc hk s m _ below hf ((Spec.applies_iff_loose hf).mp happ).1 ⟨rfl, State.Warmed39.refl s, rfl⟩ trivial
  obtain ⟨rfl, N⟩ := hQ
  refine ⟨n, _, h1, h2, h3, hpost _ _ _ _ _ _ ⟨Cond.after_iff.mpr rfl, Cond.after_iff.mpr (eq_i res_at (Term.int_eval (1)) rfl), trivial⟩ ⟨hq.1, hq.2.1, (hq.2.2.sift fun y hy => Or.inr (N y hy)).mono (by decide) (by decide)⟩⟩
theorem main_1_1 : Claimed_1_1 := comes_1 fun _ _ _ _ _ _ h hF => ⟨h.1, hF⟩
theorem main_1_2 : Claimed_1_2 := comes_1 fun _ _ _ _ _ _ h hF => ⟨h.2.1, hF⟩
end Jvm.Pilot.@@N@@
namespace Jvm.Pilot.@@N@@
open Jvm Jvm.ClassFile Sem Op Lib Jvm.Free Jvm.Stand Jvm.Pilot.@@N@@.Jvm.D
/-! MADE BY PROGRAM (witnessworld.py) out of the Statement's table words and the real class files: 8 classes; the members and pool entries that the words name. The judged class is class 1, her method 1. -/
namespace start1
open Jvm.ClassFile
def u (s : String) : CpInfo := .utf8 (stringToUtf16 s)
/-- a pool by its gaps: so many unusable entries, then the entry; so many at the end -/
def gap : Nat → List CpInfo → List CpInfo
  | 0, r => r
  | n + 1, r => .unusable :: gap n r
def poolList (es : List (Nat × CpInfo)) (last : Nat) : List CpInfo := es.foldr (fun e r => gap e.1 (e.2 :: r)) (gap last [])
def pool (es : List (Nat × CpInfo)) (last : Nat) : Array CpInfo := ⟨poolList es last⟩
def fileOf (pool : Array CpInfo) (this : Nat) (attrs : Array Attribute := #[]) (ms : Array MethodInfo := #[]) (fl : Nat := 33) (sup : Nat := 0) (ifs : Array Nat := #[]) (fds : Array FieldInfo := #[]) : ClassFile where
  minorVersion := 0
  majorVersion := 65
  constantPool := pool
  accessFlags := fl
  thisClass := this
  superClass := sup
  interfaces := ifs
  fields := fds
  methods := ms
  attributes := attrs
def plain (name : String) (sup : Option ClassId) : Class where
  name := name
  kind := .ordinary
  loader := none
  accessFlags := 33
  super := sup
  interfaces := #[]
  cf := none
  fields := #[]
  methods := #[]
  instanceTypes := #[]
  staticTypes := #[]
  resolved := #[]
  callSites := []
  init := .initialized
  statics := none
  mirror := none

def pool0 : Array CpInfo := pool [(5, u "<init>"), (0, u "()V"), (1, .class_ 10), (1, u "java/lang/Object")] 113

def k0c0 : Code := { maxStack := 0, maxLocals := 1, code := object_method_1_code, exceptionTable := #[], attributes := #[] }
def k0m0 : Method := { name := "<init>", desc := "()V", sig := { parameters := [], returnType := none }, accessFlags := 1, code := some k0c0 }
/-- java/lang/Object -/
def k0 : Class := { plain "java/lang/Object" none with
  accessFlags := 33
  interfaces := #[]
  cf := some (fileOf pool0 8 #[] #[{ accessFlags := 1, nameIndex := 5, descriptorIndex := 6, attributes := #[] }] 33 0 #[] #[])
  fields := #[]
  methods := #[k0m0]
  instanceTypes := #[]
  staticTypes := #[]
  resolved := Array.replicate 124 none
  statics := none }

def pool1 : Array CpInfo := pool [(2, .class_ 4), (1, u "java/lang/Object"), (0, u "<init>"), (0, u "()V"), (2, .long 9223372036854775807), (1, .long 999999999999999999), (1, .integer 2147483647), (2, .class_ 17), (0, u "com/example/fiddlehead/fiddlehead/server/Page"), (0, .methodref 16 19), (0, .nameAndType 5 20), (0, u "(JI)V"), (0, .methodref 16 22), (0, .nameAndType 23 24), (0, u "last"), (0, u "()J"), (0, .long 1000), (1, .class_ 28), (0, u "com/example/fiddlehead/fiddlehead/server/PageLastPinLaw"), (2, u "law"), (0, u "(JII)Z")] 3

def k1m0 : Method := { name := "<init>", desc := "()V", sig := { parameters := [], returnType := none }, accessFlags := 1, code := none }
def k1c1 : Code := { maxStack := 6, maxLocals := 18, code := code, exceptionTable := #[], attributes := #[] }
def k1m1 : Method := { name := "law", desc := "(JII)Z", sig := { parameters := [.long, .int, .int], returnType := some .boolean }, accessFlags := 9, code := some k1c1 }
/-- com/example/fiddlehead/fiddlehead/server/PageLastPinLaw -/
def k1 : Class := { plain "com/example/fiddlehead/fiddlehead/server/PageLastPinLaw" (some 0) with
  accessFlags := 49
  interfaces := #[]
  cf := some (fileOf pool1 27 #[] #[{ accessFlags := 1, nameIndex := 5, descriptorIndex := 6, attributes := #[] }, { accessFlags := 9, nameIndex := 31, descriptorIndex := 32, attributes := #[] }] 49 2 #[] #[])
  fields := #[]
  methods := #[k1m0, k1m1]
  instanceTypes := #[]
  staticTypes := #[]
  resolved := Array.replicate 36 none
  statics := none }

def pool2 : Array CpInfo := pool [(1, .methodref 2 3), (0, .class_ 4), (0, .nameAndType 5 6), (0, u "java/lang/Object"), (0, u "<init>"), (0, u "()V"), (0, .class_ 8), (0, u "java/lang/Record")] 13

def k2c0 : Code := { maxStack := 1, maxLocals := 1, code := jdk_30_method_1_code, exceptionTable := #[], attributes := #[] }
def k2m0 : Method := { name := "<init>", desc := "()V", sig := { parameters := [], returnType := none }, accessFlags := 4, code := some k2c0 }
/-- java/lang/Record -/
def k2 : Class := { plain "java/lang/Record" (some 0) with
  accessFlags := 1057
  interfaces := #[]
  cf := some (fileOf pool2 7 #[] #[{ accessFlags := 4, nameIndex := 5, descriptorIndex := 6, attributes := #[] }] 1057 2 #[] #[])
  fields := #[]
  methods := #[k2m0]
  instanceTypes := #[]
  staticTypes := #[]
  resolved := Array.replicate 22 none
  statics := none }

def pool3 : Array CpInfo := pool [(1, .methodref 2 3), (0, .class_ 4), (0, .nameAndType 5 6), (0, u "java/lang/Record"), (0, u "<init>"), (0, u "()V"), (11, .fieldref 19 20), (0, .class_ 21), (0, .nameAndType 22 23), (0, u "com/example/fiddlehead/fiddlehead/server/Page"), (0, u "first"), (0, u "J"), (0, .fieldref 19 25), (0, .nameAndType 26 27), (0, u "size"), (0, u "I"), (2, u "NAME"), (0, u "Ljava/util/regex/Pattern;"), (32, u "(JI)V"), (6, u "last"), (0, u "()J")] 65

def k3c0 : Code := { maxStack := 5, maxLocals := 4, code := prog_48_method_1_code, exceptionTable := #[], attributes := #[] }
def k3m0 : Method := { name := "<init>", desc := "(JI)V", sig := { parameters := [.long, .int], returnType := none }, accessFlags := 0, code := some k3c0 }
def k3c1 : Code := { maxStack := 4, maxLocals := 1, code := prog_48_method_3_code, exceptionTable := #[], attributes := #[] }
def k3m1 : Method := { name := "last", desc := "()J", sig := { parameters := [], returnType := some .long }, accessFlags := 0, code := some k3c1 }
/-- com/example/fiddlehead/fiddlehead/server/Page -/
def k3 : Class := { plain "com/example/fiddlehead/fiddlehead/server/Page" (some 2) with
  accessFlags := 48
  interfaces := #[]
  cf := some (fileOf pool3 19 #[] #[{ accessFlags := 0, nameIndex := 5, descriptorIndex := 64, attributes := #[] }, { accessFlags := 0, nameIndex := 71, descriptorIndex := 72, attributes := #[] }] 48 2 #[] #[{ accessFlags := 18, nameIndex := 22, descriptorIndex := 23, attributes := #[] }, { accessFlags := 18, nameIndex := 26, descriptorIndex := 27, attributes := #[] }, { accessFlags := 26, nameIndex := 30, descriptorIndex := 31, attributes := #[] }])
  fields := #[{ name := "first", type := .long, accessFlags := 18, slot := 0, constantValue := 0 }, { name := "size", type := .int, accessFlags := 18, slot := 1, constantValue := 0 }, { name := "NAME", type := (.object "java/util/regex/Pattern"), accessFlags := 26, slot := 0, constantValue := 0 }]
  methods := #[k3m0, k3m1]
  instanceTypes := #[.long, .int]
  staticTypes := #[(.object "java/util/regex/Pattern")]
  resolved := Array.replicate 138 none
  statics := none }

def pool4 : Array CpInfo := pool [(1, u "java/lang/Cloneable"), (0, .class_ 1), (0, u "java/lang/Object"), (0, .class_ 3)] 3

/-- java/lang/Cloneable -/
def k4 : Class := { plain "java/lang/Cloneable" (some 0) with
  accessFlags := 1537
  interfaces := #[]
  cf := some (fileOf pool4 2 #[] #[] 1537 4 #[] #[])
  fields := #[]
  methods := #[]
  instanceTypes := #[]
  staticTypes := #[]
  resolved := Array.replicate 8 none
  statics := none }

def pool5 : Array CpInfo := pool [(1, u "java/io/Serializable"), (0, .class_ 1), (0, u "java/lang/Object"), (0, .class_ 3)] 3

/-- java/io/Serializable -/
def k5 : Class := { plain "java/io/Serializable" (some 0) with
  accessFlags := 1537
  interfaces := #[]
  cf := some (fileOf pool5 2 #[] #[] 1537 4 #[] #[])
  fields := #[]
  methods := #[]
  instanceTypes := #[]
  staticTypes := #[]
  resolved := Array.replicate 8 none
  statics := none }

/-- the primitive byte -/
def k6 : Class := { plain "byte" none with kind := .primitive 'B', accessFlags := 0x411 }
/-- [B -/
def k7 : Class := { plain "[B" (some 0) with kind := .array 6 .byte, interfaces := #[4, 5], accessFlags := 1041 }

def heap : Heap := #[]
def classes : Array Class := #[k0, k1, k2, k3, k4, k5, k6, k7]
def interned : List (Array UInt16 × Addr) := []
def slotsUsed : Nat := 0
def theMethod : MethodId := ⟨1, 1⟩
def args0 : Array Value := #[.long 5, .int 7, .int 1]
def aboutOver (below : List Frame) : State where
  vm := { classes := classes, interned := interned.toArray }
  heap := heap
  slotsUsed := slotsUsed
  threads := #[{ frames := .invoking theMethod args0 :: below }]
def below0 : List Frame := [.native { method := ⟨0, 0⟩, args := #[] }]
def about1 : State := aboutOver below0
def p0 : Program := .bare "" "" ""
def e0 : Env := launch0.env 0 0 0
theorem w_frames : about1.frames = Frame.invoking theMethod args0 :: below0 := rfl
set_option maxRecDepth 65536 in
theorem w_args : argsFit about1.vm theMethod args0 = true := by decide +kernel
set_option maxRecDepth 65536 in
theorem w_heap : heapFits about1 = true := by decide +kernel
set_option maxRecDepth 65536 in
theorem w_runnable : about1.curStatus? = some .runnable := by decide +kernel
set_option maxRecDepth 65536 in
theorem w_alone : about1.alone = true := by decide +kernel
set_option maxRecDepth 65536 in
theorem w_named : about1.methodNamed? x = some theMethod := by decide +kernel
set_option maxRecDepth 65536 in
theorem w_hears : about1.hears theMethod below0 = true := by decide +kernel
set_option maxRecDepth 65536 in
theorem w_ripe : about1.ripe theMethod args0 below0 = true := by decide +kernel
theorem w_running : about1.status = .running := rfl
set_option maxRecDepth 65536 in
theorem w_room : about1.hasRoom e0.platform room_1 = true :=
  launch0.hasRoom_least _ room_1 (by decide +kernel) (by decide +kernel) (by decide +kernel) (by decide +kernel) (by decide +kernel) (by decide +kernel)
theorem allAtoms_all (ts : List Jvm.Cond) (a : Array Jvm.Value) (st : Jvm.State) : (allAtoms ts).before a st = ts.all (fun c => c.before a st) := by
  induction ts with
  | nil => rfl
  | cons c t ih =>
    show (Jvm.Cond.and c (allAtoms t)).before a st = _
    rw [Jvm.Cond.before_and, ih, List.all_cons]
def words1 : List Jvm.Cond := Jvm.Cond.code x code maxLocals ret :: tables_1
/-- a 'code' word, met by the world's own term for the bytes: nothing is compared byte by byte -/
theorem code_word {y : MethodName} {bytes : ByteArray} {mx : Nat} {rt : Option FieldType} {a : Array Value} {s : State} {m : MethodId} {meth : Method} {c : Code} (h1 : s.methodNamed? y = some m) (h2 : s.vm.method? m = some meth) (h3 : meth.code = some c) (h4 : c.code = bytes)
    (h5 : (c.maxLocals == mx && c.exceptionTable.isEmpty && decide (c.maxStack ≤ mostOperands) && decide (meth.sig.returnType = rt) && !meth.locks && decide (parseMethodDescriptor y.desc = some meth.sig)) = true) : (Jvm.Cond.code y bytes mx rt).before a s = true := by
  simp only [Bool.and_eq_true, beq_iff_eq, Bool.not_eq_true', decide_eq_true_eq] at h5
  obtain ⟨⟨⟨⟨⟨g1, g2⟩, g3⟩, g4⟩, g5⟩, g6⟩ := h5
  simp [Cond.before, Cond.holds, Cond.value, h1, h2, h3, h4, g1, g2, g3, g4, g5, g6]
def isCode : Jvm.Cond → Bool
  | .code _ _ _ _ => true
  | _ => false
theorem all_split {L : List Jvm.Cond} {P : Jvm.Cond → Bool} (h1 : L.all (fun c => isCode c || P c) = true) (h2 : ∀ c ∈ L.filter isCode, P c = true) : L.all P = true := by
  refine List.all_eq_true.mpr fun c hc => ?_
  have h := List.all_eq_true.mp h1 c hc
  rcases Bool.eq_false_or_eq_true (isCode c) with hi | hi
  · exact h2 c (List.mem_filter.mpr ⟨hc, hi⟩)
  · simpa [hi] using h
set_option maxRecDepth 65536 in
theorem w_c0 : (Jvm.Cond.code x code maxLocals ret).before args0 about1 = true := code_word (m := ⟨1, 1⟩) (meth := k1m1) (c := k1c1) (by decide +kernel) rfl rfl rfl (by decide +kernel)
set_option maxRecDepth 65536 in
theorem w_c1 : (Jvm.Cond.code ({ cls := "com/example/fiddlehead/fiddlehead/server/Page", name := "<init>", desc := "(JI)V" } : Jvm.MethodName) prog_48_method_1_code (4 : Nat) (Option.none : Option Jvm.ClassFile.FieldType)).before args0 about1 = true := code_word (m := ⟨3, 0⟩) (meth := k3m0) (c := k3c0) (by decide +kernel) rfl rfl rfl (by decide +kernel)
set_option maxRecDepth 65536 in
theorem w_c2 : (Jvm.Cond.code ({ cls := "java/lang/Record", name := "<init>", desc := "()V" } : Jvm.MethodName) jdk_30_method_1_code (1 : Nat) (Option.none : Option Jvm.ClassFile.FieldType)).before args0 about1 = true := code_word (m := ⟨2, 0⟩) (meth := k2m0) (c := k2c0) (by decide +kernel) rfl rfl rfl (by decide +kernel)
set_option maxRecDepth 65536 in
theorem w_c3 : (Jvm.Cond.code ({ cls := "java/lang/Object", name := "<init>", desc := "()V" } : Jvm.MethodName) object_method_1_code (1 : Nat) (Option.none : Option Jvm.ClassFile.FieldType)).before args0 about1 = true := code_word (m := ⟨0, 0⟩) (meth := k0m0) (c := k0c0) (by decide +kernel) rfl rfl rfl (by decide +kernel)
set_option maxRecDepth 65536 in
theorem w_c4 : (Jvm.Cond.code ({ cls := "com/example/fiddlehead/fiddlehead/server/Page", name := "last", desc := "()J" } : Jvm.MethodName) prog_48_method_3_code (1 : Nat) (Option.some Jvm.ClassFile.FieldType.long)).before args0 about1 = true := code_word (m := ⟨3, 1⟩) (meth := k3m1) (c := k3c1) (by decide +kernel) rfl rfl rfl (by decide +kernel)
def codes1 : List Jvm.Cond := [Jvm.Cond.code x code maxLocals ret, Jvm.Cond.code ({ cls := "com/example/fiddlehead/fiddlehead/server/Page", name := "<init>", desc := "(JI)V" } : Jvm.MethodName) prog_48_method_1_code (4 : Nat) (Option.none : Option Jvm.ClassFile.FieldType), Jvm.Cond.code ({ cls := "java/lang/Record", name := "<init>", desc := "()V" } : Jvm.MethodName) jdk_30_method_1_code (1 : Nat) (Option.none : Option Jvm.ClassFile.FieldType), Jvm.Cond.code ({ cls := "java/lang/Object", name := "<init>", desc := "()V" } : Jvm.MethodName) object_method_1_code (1 : Nat) (Option.none : Option Jvm.ClassFile.FieldType), Jvm.Cond.code ({ cls := "com/example/fiddlehead/fiddlehead/server/Page", name := "last", desc := "()J" } : Jvm.MethodName) prog_48_method_3_code (1 : Nat) (Option.some Jvm.ClassFile.FieldType.long)]
set_option maxRecDepth 65536 in
theorem codes_eq : words1.filter isCode = codes1 := rfl
theorem w_codes : ∀ c ∈ words1.filter isCode, c.before args0 about1 = true := by
  rw [codes_eq]
  intro c hc
  simp only [codes1, List.mem_cons, List.not_mem_nil, or_false] at hc
  rcases hc with rfl | rfl | rfl | rfl | rfl
  · exact w_c0
  · exact w_c1
  · exact w_c2
  · exact w_c3
  · exact w_c4
set_option maxRecDepth 65536 in
theorem w_t1 : (words1.take 24).all (fun c => isCode c || c.before args0 about1) = true := by decide +kernel
set_option maxRecDepth 65536 in
theorem w_t2 : (words1.drop 24).all (fun c => isCode c || c.before args0 about1) = true := by decide +kernel
theorem w_tables : (allAtoms (Jvm.Cond.code x code maxLocals ret :: tables_1)).before args0 about1 = true := by
  rw [allAtoms_all]
  show words1.all (fun c => c.before args0 about1) = true
  refine all_split ?_ w_codes
  rw [← List.take_append_drop 24 words1, List.all_append, w_t1, w_t2]
  rfl
set_option maxRecDepth 65536 in
theorem w_case : (Jvm.Cond.and given_1 narrow_1).before args0 about1 = true := by decide +kernel
theorem w_applies : (headSpec (Jvm.Cond.code x code maxLocals ret :: tables_1) room_1).applies x e0.platform about1 = true :=
  (Spec.applies_iff w_frames).mpr ⟨w_running, w_runnable, w_alone, w_named, w_hears, w_ripe, w_room, w_tables⟩
theorem atStart : AtStart classFile x code maxLocals ret World_1 tables_1 room_1 Calls_1 rest_1 Pre_1 launch0 p0 e0 about1 theMethod args0 below0 :=
  ⟨lists_1, trivial, launch0.admits_env _ _ _, launch0.least_env, fairChoices_fair.cas, fairChoices_fair.clock, w_frames, w_args, w_heap, w_applies, trivial, trivial, w_case⟩
end start1
theorem witness_1 : WitnessClaimed_1 := ⟨start1.p0, start1.e0, start1.about1, start1.theMethod, start1.args0, start1.below0, start1.atStart⟩
end Jvm.Pilot.@@N@@
