import JvmDerived
import JvmDerived.Pilot.@@N@@Statement
import JvmDerived.Pilot.@@N@@Code
set_option linter.unusedVariables false
set_option linter.unusedSimpArgs false
namespace Jvm.Pilot.@@N@@
open Jvm Jvm.ClassFile Sem Op Lib Jvm.Free Jvm.Stand Jvm.LawKit Jvm.RoadKit Bundle Jvm.Pilot.@@N@@.Jvm.D
section Own
variable {p : Program} {l : Launch} {e : Env} {R : Room} {s : State} {m : MethodId} {args : Array Value} {below : List Frame} {meth : Method} {c : Code} {T : State} {locs : List Loc} {cells slots : Nat}
/-- from u the walk comes to its return, with what Q says of value, heap and the places written -/
def Ends (p : Program) (e : Env) (below : List Frame) (s : State) (Q : Option Value → Heap → List Loc → Prop) (kc ks : Nat) (u : State) : Prop :=
  ∃ s₂ o, Steps p.tables e below u s₂ ∧ s₂.status = .running ∧ Ended s₂ below o ∧ ∃ v L, o = .returned v ∧ Q v s₂.heap L ∧ FrameEnd s o s₂ L kc ks
variable {Q : Option Value → Heap → List Loc → Prop} {kc ks : Nat} {u u' : State}
theorem Ends.by (k : Ends p e below s Q kc ks u') (h : ∀ t, Steps p.tables e below u' t → Steps p.tables e below u t) : Ends p e below s Q kc ks u := by
  obtain ⟨s₂, o, h1, r⟩ := k
  exact ⟨s₂, o, h _ h1, r⟩
theorem Ends.go (h : Steps p.tables e below u u') (k : Ends p e below s Q kc ks u') : Ends p e below s Q kc ks u := k.by fun _ q => h.trans q
theorem Ends.retN (X : Stand p l e R s m args below meth c T locs cells slots) (hx : p.tables.exec = Jvm.exec) (hlk : meth.locks = false) {t : FieldType} (hret : meth.sig.returnType = some t) (ht : t = .boolean ∨ t = .byte ∨ t = .char ∨ t = .short) {pc : Nat} {Ls : Array Slot} {z w : Int32} {rest : List Value}
    (hd : decode c.code pc = .ok (.ireturn, 1)) (hz : nar t z = w) (hQ : Q (some (.int w)) T.heap locs) (hc : cells ≤ kc) (hs : slots ≤ ks) : Ends p e below s Q kc ks (T.setTop (mkF m pc Ls (.int z :: rest))) := by
  subst hz
  obtain ⟨fs, hr, hrun, hended, hW, hsame⟩ := X.leave (v := some (.int (nar t z))) (fun h => by rw [hret] at h; cases h) hlk
  exact ⟨_, _, Jvm.RoadKit.retN X hx hret ht hd hr, hrun, hended, _, _, rfl, hQ, ⟨_, rfl⟩, hW, hsame.mono hc hs⟩
theorem Ends.retI (X : Stand p l e R s m args below meth c T locs cells slots) (hx : p.tables.exec = Jvm.exec) (hlk : meth.locks = false) (hret : meth.sig.returnType = some .int) {pc : Nat} {Ls : Array Slot} {z : Int32} {rest : List Value}
    (hd : decode c.code pc = .ok (.ireturn, 1)) (hQ : Q (some (.int z)) T.heap locs) (hc : cells ≤ kc) (hs : slots ≤ ks) : Ends p e below s Q kc ks (T.setTop (mkF m pc Ls (.int z :: rest))) := by
  obtain ⟨fs, hr, hrun, hended, hW, hsame⟩ := X.leave (v := some (.int z)) (fun h => by rw [hret] at h; cases h) hlk
  exact ⟨_, _, Jvm.RoadKit.retOut X hx hret rfl (Or.inl ⟨rfl, by simp, z, rfl⟩) hd hr, hrun, hended, _, _, rfl, hQ, ⟨_, rfl⟩, hW, hsame.mono hc hs⟩
theorem Ends.retJ (X : Stand p l e R s m args below meth c T locs cells slots) (hx : p.tables.exec = Jvm.exec) (hlk : meth.locks = false) (hret : meth.sig.returnType = some .long) {pc : Nat} {Ls : Array Slot} {z : Int64} {rest : List Value}
    (hd : decode c.code pc = .ok (.lreturn, 1)) (hQ : Q (some (.long z)) T.heap locs) (hc : cells ≤ kc) (hs : slots ≤ ks) : Ends p e below s Q kc ks (T.setTop (mkF m pc Ls (.long z :: rest))) := by
  obtain ⟨fs, hr, hrun, hended, hW, hsame⟩ := X.leave (v := some (.long z)) (fun h => by rw [hret] at h; cases h) hlk
  exact ⟨_, _, Jvm.RoadKit.retOut X hx hret rfl (Or.inr (Or.inl ⟨rfl, rfl, z, rfl⟩)) hd hr, hrun, hended, _, _, rfl, hQ, ⟨_, rfl⟩, hW, hsame.mono hc hs⟩
theorem Ends.retA (X : Stand p l e R s m args below meth c T locs cells slots) (hx : p.tables.exec = Jvm.exec) (hlk : meth.locks = false) {t : FieldType} (hret : meth.sig.returnType = some t) (ht : t.isReference = true) (hn : ∀ a, narrow t (.ref a) = .ref a) {pc : Nat} {Ls : Array Slot} {a : Addr} {rest : List Value}
    (hd : decode c.code pc = .ok (.areturn, 1)) (hQ : Q (some (.ref a)) T.heap locs) (hc : cells ≤ kc) (hs : slots ≤ ks) : Ends p e below s Q kc ks (T.setTop (mkF m pc Ls (.ref a :: rest))) := by
  obtain ⟨fs, hr, hrun, hended, hW, hsame⟩ := X.leave (v := some (.ref a)) (fun h => by rw [hret] at h; cases h) hlk
  exact ⟨_, _, Jvm.RoadKit.retOut X hx hret (hn a) (Or.inr (Or.inr (Or.inr (Or.inr ⟨rfl, ht, rfl⟩)))) hd hr, hrun, hended, _, _, rfl, hQ, ⟨_, rfl⟩, hW, hsame.mono hc hs⟩
theorem Ends.retV (X : Stand p l e R s m args below meth c T locs cells slots) (hx : p.tables.exec = Jvm.exec) (hlk : meth.locks = false) (hret : meth.sig.returnType = none) {pc : Nat} {Ls : Array Slot}
    (hd : decode c.code pc = .ok (.return_, 1)) (hQ : Q none T.heap locs) (hc : cells ≤ kc) (hs : slots ≤ ks) : Ends p e below s Q kc ks (T.setTop (mkF m pc Ls [])) := by
  obtain ⟨fs, hr, hrun, hended, hW, hsame⟩ := X.leave (v := none) (fun _ => rfl) hlk
  exact ⟨_, _, X.returnOut hx hret hd hr, hrun, hended, _, _, rfl, hQ, ⟨_, rfl⟩, hW, hsame.mono hc hs⟩
theorem lremM {g : JFrame} {target : State} (X : Stand p l e R s m args below meth c T locs cells slots) (hx : p.tables.exec = Jvm.exec) (hg : g.method = m) {x y : Int64} {rest : List Value} (hd : decode c.code g.pc = .ok (.lrem, 1)) (hs : g.stack = .long y :: .long x :: rest) (hy : y ≠ 0)
    (hr : Steps p.tables e below (T.setTop { g with pc := g.pc + 1, stack := .long (x % y) :: rest }) target) : Steps p.tables e below (T.setTop g) target :=
  XS.lrem X.here hx hg hd hs hy (by rw [lrem_mod x y]; exact hr)
/-- a method that writes nothing: what it returns, the heap as it was -/
def QP (V : Option Value) (h0 : Heap) (n0 : Nat) (v : Option Value) (h : Heap) (L : List Loc) : Prop := v = V ∧ Fr n0 L ∧ h = h0
/-- a law: it returns 1; nothing old is written -/
def QL (n0 : Nat) (v : Option Value) (_ : Heap) (L : List Loc) : Prop := v = some (.int 1) ∧ Fr n0 L
end Own
section OwnHeap
variable {p : Program} {l : Launch} {e : Env} {R : Room} {s : State} {m : MethodId} {args : Array Value} {below : List Frame} {meth : Method} {c : Code} {T : State} {locs : List Loc} {cells slots : Nat}
variable {Q : Option Value → Heap → List Loc → Prop} {kc ks : Nat} {Z : State} {a0 : Array Value} {h h' : Heap} {a b : Addr} {ty : FieldType} {n sl : Nat} {g : Nat → Int32} {v : Value} {j x : Int32} {pc : Nat} {Ls : Array Slot} {S : List Value}
/-- an array of n small values: place j holds g j -/
def Ary (Z : State) (h : Heap) (a : Addr) (ty : FieldType) (n : Nat) (g : Nat → Int32) : Prop := ∃ cl : Cell, Arr Z h a cl ty ∧ cl.slots.size = n ∧ n < 2 ^ 31 ∧ ∀ j, j < n → cl.slots[j]? = some (.int (g j))
def upd (g : Nat → Int32) (j : Nat) (x : Int32) : Nat → Int32 := fun i => if i = j then x else g i
theorem Ary.lt (V : Ary Z h a ty n g) : a < h.size := V.elim fun _ q => q.1.lt
theorem Ary.ext (V : Ary Z h a ty n g) (E : Ext h h') : Ary Z h' a ty n g := by obtain ⟨c, A, r⟩ := V; exact ⟨c, A.ext E, r⟩
theorem Ary.other (V : Ary Z h b ty n g) (W : Wr h h' a sl v) (q : b ≠ a) : Ary Z h' b ty n g := by obtain ⟨c, A, r⟩ := V; exact ⟨c, A.other W q, r⟩
theorem Ary.keep {ws : List Addr} (V : Ary Z h a ty n g) (K : Keep h h' ws) (q : a ∉ ws) : Ary Z h' a ty n g := by obtain ⟨c, A, r⟩ := V; exact ⟨c, ⟨K.2.1 a c A.1 q, A.2⟩, r⟩
theorem Ary.set (V : Ary Z h a ty n g) (W : Wr h h' a sl (.int x)) : Ary Z h' a ty n (upd g sl x) := by
  obtain ⟨c, A, S, M, H⟩ := V
  refine ⟨_, A.same W, by rw [sz_set]; exact S, M, fun i hi => ?_⟩
  have hi' : i < c.slots.size := by omega
  simp only [Cell.setSlot, Array.getElem?_setIfInBounds, upd]
  by_cases q : i = sl
  · subst q; simp [hi']
  · have q' : ¬ sl = i := fun e => q e.symm
    simp [q, q']; exact H i hi
theorem Ary.inb {cl : Cell} (S : cl.slots.size = n) (hj : 0 ≤ j.toInt ∧ j.toInt < n) : ¬ (j < 0 ∨ cl.slots.size ≤ j.toNatClampNeg) := by
  have e0 : (0 : Int32).toInt = 0 := rfl
  simp only [Int32.lt_iff_toInt_lt, Int32.toNatClampNeg] at *; omega
theorem Ary.at {cl : Cell} (H : ∀ j, j < n → cl.slots[j]? = some (.int (g j))) (hj : 0 ≤ j.toInt ∧ j.toInt < n) : cl.slots[j.toNatClampNeg]? = some (.int (g j.toNatClampNeg)) :=
  H _ (by simp only [Int32.toNatClampNeg]; omega)
theorem Ends.iald (k : Ends p e below s Q kc ks (T.setTop (mkF m (pc + 1) Ls (.int (g j.toNatClampNeg) :: S)))) (X : Stand p l e R s m args below meth c T locs cells slots) (hx : p.tables.exec = Jvm.exec) (hZ : Z.Warmed39 s.vm) (eT : T.heap = h) (V : Ary Z h a .int n g) (hj : 0 ≤ j.toInt ∧ j.toInt < n)
    (hd : decode c.code pc = .ok (.iaload, 1)) : Ends p e below s Q kc ks (T.setTop (mkF m pc Ls (.int j :: .ref a :: S))) := by
  obtain ⟨cl, A, S1, M, H⟩ := V
  exact k.by fun t q => X.iaload hx (j := j) (by rw [eT]; exact A.1) (State.isArrayOf_alike hZ.alike A.2.1) A.2.2 (Ary.inb S1 hj) (Ary.at H hj) (g := mkF m pc Ls (.int j :: .ref a :: S)) rfl rfl hd t q
theorem Ends.bald (k : Ends p e below s Q kc ks (T.setTop (mkF m (pc + 1) Ls (.int (g j.toNatClampNeg) :: S)))) (X : Stand p l e R s m args below meth c T locs cells slots) (hx : p.tables.exec = Jvm.exec) (hZ : Z.Warmed39 s.vm) (eT : T.heap = h) (V : Ary Z h a .byte n g) (hj : 0 ≤ j.toInt ∧ j.toInt < n)
    (hd : decode c.code pc = .ok (.baload, 1)) : Ends p e below s Q kc ks (T.setTop (mkF m pc Ls (.int j :: .ref a :: S))) := by
  obtain ⟨cl, A, S1, M, H⟩ := V
  exact k.by fun t q => X.baloadBytes hx (j := j) (by rw [eT]; exact A.1) (State.isArrayOf_alike hZ.alike A.2.1) A.2.2 (Ary.inb S1 hj) (Ary.at H hj) (g := mkF m pc Ls (.int j :: .ref a :: S)) rfl rfl hd t q
theorem Ends.alen {z : Int32} (k : Ends p e below s Q kc ks (T.setTop (mkF m (pc + 1) Ls (.int z :: S)))) (X : Stand p l e R s m args below meth c T locs cells slots) (hx : p.tables.exec = Jvm.exec) (hZ : Z.Warmed39 s.vm) (eT : T.heap = h) (V : Ary Z h a ty n g) (hz : z.toInt = n)
    (hd : decode c.code pc = .ok (.arraylength, 1)) : Ends p e below s Q kc ks (T.setTop (mkF m pc Ls (.ref a :: S))) := by
  obtain ⟨cl, A, S1, M, H⟩ := V
  have e1 : cl.slots.size.toInt32 = z := by
    rw [S1]; apply Int32.toInt_inj.mp; rw [hz]; exact len_toInt M
  exact k.by fun t q => X.arraylength hx (by rw [eT]; exact A.1) (State.isArrayOf_alike hZ.alike A.2.1) (g := mkF m pc Ls (.ref a :: S)) rfl rfl hd t (by rw [e1]; exact q)
theorem stIA (X : Stand p l e R s m args below meth c T locs cells slots) (hx : p.tables.exec = Jvm.exec) (hZ : Z.Warmed39 s.vm) (eT : T.heap = h) (V : Ary Z h a .int n g) (hj : 0 ≤ j.toInt ∧ j.toInt < n) (hd : decode c.code pc = .ok (.iastore, 1)) :
    ∃ T' h', Stand p l e R s m args below meth c T' (locs ++ [⟨a, j.toNatClampNeg⟩]) cells slots ∧ T'.heap = h' ∧ Wr h h' a j.toNatClampNeg (.int x) ∧ Ary Z h' a .int n (upd g j.toNatClampNeg x) ∧
      ∀ t, Steps p.tables e below (T'.setTop (mkF m (pc + 1) Ls S)) t → Steps p.tables e below (T.setTop (mkF m pc Ls (.int x :: .int j :: .ref a :: S))) t := by
  have V' := V
  obtain ⟨cl, A, S1, M, H⟩ := V
  obtain ⟨T', h', X', e', W, st⟩ := stI X hx hZ eT A (j := j) (x := x) (Ary.inb S1 hj) (g := mkF m pc Ls (.int x :: .int j :: .ref a :: S)) rfl rfl hd
  exact ⟨T', h', X', e', W, V'.set W, st⟩
theorem stBA (X : Stand p l e R s m args below meth c T locs cells slots) (hx : p.tables.exec = Jvm.exec) (hZ : Z.Warmed39 s.vm) (eT : T.heap = h) (V : Ary Z h a .byte n g) (hj : 0 ≤ j.toInt ∧ j.toInt < n) (hd : decode c.code pc = .ok (.bastore, 1)) :
    ∃ T' h', Stand p l e R s m args below meth c T' (locs ++ [⟨a, j.toNatClampNeg⟩]) cells slots ∧ T'.heap = h' ∧ Wr h h' a j.toNatClampNeg (.int x.toInt8.toInt32) ∧ Ary Z h' a .byte n (upd g j.toNatClampNeg x.toInt8.toInt32) ∧
      ∀ t, Steps p.tables e below (T'.setTop (mkF m (pc + 1) Ls S)) t → Steps p.tables e below (T.setTop (mkF m pc Ls (.int x :: .int j :: .ref a :: S))) t := by
  have V' := V
  obtain ⟨cl, A, S1, M, H⟩ := V
  obtain ⟨T', h', X', e', W, st⟩ := stB X hx hZ eT A (j := j) (x := x) (Ary.inb S1 hj) (g := mkF m pc Ls (.int x :: .int j :: .ref a :: S)) rfl rfl hd
  exact ⟨T', h', X', e', W, V'.set W, st⟩
theorem newAr (X : Stand p l e R s m args below meth c T locs cells slots) (hx : p.tables.exec = Jvm.exec) (hZ : Z.Warmed39 s.vm) {aty : ArrayType} (w : (Cond.arrayClass (newarray.typeOf aty)).before a0 Z = true) (hty : defaultValue (newarray.typeOf aty) = .int 0) (eT : T.heap = h) {z : Int32} {cap : Nat} (hz : z.toInt = n) (hcap : n ≤ cap)
    (hb : cap * 8 ≤ 536870912) (hc : cells + 1 ≤ R.cells) (hl : slots + cap ≤ R.slots) (hd : decode c.code pc = .ok (.newarray aty, 2)) :
    ∃ T' h', Stand p l e R s m args below meth c T' locs (cells + 1) (slots + cap) ∧ T'.heap = h' ∧ Ext h h' ∧ Ary Z h' h.size (newarray.typeOf aty) n (fun _ => 0) ∧
      ∀ t, Steps p.tables e below (T'.setTop (mkF m (pc + 2) Ls (.ref h.size :: S))) t → Steps p.tables e below (T.setTop (mkF m pc Ls (.int z :: S))) t := by
  have e0 : (0 : Int32).toInt = 0 := rfl
  have hz2 : z.toNatClampNeg = n := by simp only [Int32.toNatClampNeg]; omega
  have rz := rng32 z
  obtain ⟨T', h', cA, X', e', E, A, st⟩ := newP X hx hZ w eT (g := mkF m pc Ls (.int z :: S)) rfl hd rfl (by rw [Int32.lt_iff_toInt_lt]; omega) (cap := cap) (by omega) hb hc hl
  refine ⟨T', h', X', e', E, ⟨_, A, by rw [sz_new]; exact hz2, by omega, fun j hj => ?_⟩, st⟩
  simp only [newA, hz2, hty]
  simp [hj]
end OwnHeap

theorem d1_58 : decode prog_2_method_2_code 58 = .ok (.iconst 0, 1) := by decide +kernel
theorem d1_59 : decode prog_2_method_2_code 59 = .ok (.ireturn, 1) := by decide +kernel
theorem d1_54 : decode prog_2_method_2_code 54 = .ok (.iconst 1, 1) := by decide +kernel
theorem d1_55 : decode prog_2_method_2_code 55 = .ok (.goto 4, 3) := by decide +kernel
theorem d1_42 : decode prog_2_method_2_code 42 = .ok (.iload_n 0, 1) := by decide +kernel
theorem d1_43 : decode prog_2_method_2_code 43 = .ok (.ldc 64, 2) := by decide +kernel
theorem d1_45 : decode prog_2_method_2_code 45 = .ok (.if_icmp .lt 13, 3) := by decide +kernel
theorem d1_48 : decode prog_2_method_2_code 48 = .ok (.iload_n 0, 1) := by decide +kernel
theorem d1_49 : decode prog_2_method_2_code 49 = .ok (.ldc 65, 2) := by decide +kernel
theorem d1_51 : decode prog_2_method_2_code 51 = .ok (.if_icmp .gt 7, 3) := by decide +kernel
theorem d1_30 : decode prog_2_method_2_code 30 = .ok (.iload_n 0, 1) := by decide +kernel
theorem d1_31 : decode prog_2_method_2_code 31 = .ok (.ldc 62, 2) := by decide +kernel
theorem d1_33 : decode prog_2_method_2_code 33 = .ok (.if_icmp .lt 9, 3) := by decide +kernel
theorem d1_36 : decode prog_2_method_2_code 36 = .ok (.iload_n 0, 1) := by decide +kernel
theorem d1_37 : decode prog_2_method_2_code 37 = .ok (.ldc 63, 2) := by decide +kernel
theorem d1_39 : decode prog_2_method_2_code 39 = .ok (.if_icmp .le 15, 3) := by decide +kernel
theorem d1_0 : decode prog_2_method_2_code 0 = .ok (.iload_n 0, 1) := by decide +kernel
theorem d1_1 : decode prog_2_method_2_code 1 = .ok (.bipush 9, 2) := by decide +kernel
theorem d1_3 : decode prog_2_method_2_code 3 = .ok (.if_icmp .eq 51, 3) := by decide +kernel
theorem d1_6 : decode prog_2_method_2_code 6 = .ok (.iload_n 0, 1) := by decide +kernel
theorem d1_7 : decode prog_2_method_2_code 7 = .ok (.bipush 10, 2) := by decide +kernel
theorem d1_9 : decode prog_2_method_2_code 9 = .ok (.if_icmp .eq 45, 3) := by decide +kernel
theorem d1_12 : decode prog_2_method_2_code 12 = .ok (.iload_n 0, 1) := by decide +kernel
theorem d1_13 : decode prog_2_method_2_code 13 = .ok (.bipush 13, 2) := by decide +kernel
theorem d1_15 : decode prog_2_method_2_code 15 = .ok (.if_icmp .eq 39, 3) := by decide +kernel
theorem d1_18 : decode prog_2_method_2_code 18 = .ok (.iload_n 0, 1) := by decide +kernel
theorem d1_19 : decode prog_2_method_2_code 19 = .ok (.bipush 32, 2) := by decide +kernel
theorem d1_21 : decode prog_2_method_2_code 21 = .ok (.if_icmp .lt 9, 3) := by decide +kernel
theorem d1_24 : decode prog_2_method_2_code 24 = .ok (.iload_n 0, 1) := by decide +kernel
theorem d1_25 : decode prog_2_method_2_code 25 = .ok (.ldc 61, 2) := by decide +kernel
theorem d1_27 : decode prog_2_method_2_code 27 = .ok (.if_icmp .le 27, 3) := by decide +kernel
def f1_58 (x0 : Int32) : Int32 := (0 : Int32)
def f1_54 (x0 : Int32) : Int32 := (1 : Int32)
def f1_42 (x0 : Int32) : Int32 := (if x0 < (65536 : Int32) then (f1_58 x0) else (if (1114111 : Int32) < x0 then (f1_58 x0) else (f1_54 x0)))
def f1_30 (x0 : Int32) : Int32 := (if x0 < (57344 : Int32) then (f1_42 x0) else (if (65533 : Int32) < x0 then (f1_42 x0) else (f1_54 x0)))
def f1 (x0 : Int32) : Int32 := (if x0 = (9 : Int32) then (f1_54 x0) else (if x0 = (10 : Int32) then (f1_54 x0) else (if x0 = (13 : Int32) then (f1_54 x0) else (if x0 < (32 : Int32) then (f1_30 x0) else (if (55295 : Int32) < x0 then (f1_30 x0) else (f1_54 x0))))))
theorem ef_rm1 (m : MethodId) (x0 : Int32) : entryFrame m #[(.int x0)] 1 = mkF m 0 #[.val (.int x0)] [] := by first | (simp [entryFrame, mkF, argsToLocals, Value.category]; done) | rfl
theorem pn_0 : plainName "com/example/fiddlehead/fiddlehead/Event" = true := by first | (simp [plainName, overriddenIn]; done) | decide +kernel
set_option maxRecDepth 65536 in
set_option maxHeartbeats 40000000 in
theorem rm1 (l : Launch) (Z : State) (a0 : Array Value) (hw : ∀ d ∈ tables_1, d.before a0 Z = true) (ws : List Jvm.Cond) (x0 : Int32) (h0 : Heap) (n0 : Nat) (Z0 : n0 ≤ h0.size) :
    MetFree l (⟨"com/example/fiddlehead/fiddlehead/Event", "isTextCharacter", "(I)Z"⟩ : MethodName) (head1 (Jvm.Cond.code (⟨"com/example/fiddlehead/fiddlehead/Event", "isTextCharacter", "(I)Z"⟩ : MethodName) prog_2_method_2_code 1 (some .boolean) :: ws) ({ frames := 0, cells := 0, slots := 0, locals := 0 } : Room)) (fun a U => a = #[(.int x0)] ∧ Z.Warmed39 U.vm ∧ U.heap = h0) (fun _ _ _ _ _ => True) (fun _ U o U' => ∃ v L, o = .returned v ∧ (QP (some (.int (f1 x0))) h0 n0) v U'.heap L ∧ FrameEnd U o U' L ({ frames := 0, cells := 0, slots := 0, locals := 0 } : Room).cells ({ frames := 0, cells := 0, slots := 0, locals := 0 } : Room).slots) := by
  refine MetFree.of_bodySF (plainFor_of_name pn_0) hisR ?_
  intro p e s m args below meth c s₁ Bd hml0 hP hK
  obtain ⟨rfl, hZ, hh⟩ := hP
  have hx := Bd.exec
  have hby := Bd.bytes
  have hml : c.maxLocals = 1 := hml0
  have hown : s.vm.findClass "com/example/fiddlehead/fiddlehead/Event" = some m.cls := findClass_of_methodNamed Bd.named
  have hnm := (name_of_methodNamed Bd.named Bd.method).1
  have X0 : Stand p l e ({ frames := 0, cells := 0, slots := 0, locals := 0 } : Room) s m #[(.int x0)] below meth c s₁ [] 0 0 := Stand.of_body Bd
  have e0 : s₁.heap = h0 := by rw [← hh, Bd.state]; rfl
  have N0 := Fr.nil n0
  show Ends p e below s (QP (some (.int (f1 x0))) h0 n0) ({ frames := 0, cells := 0, slots := 0, locals := 0 } : Room).cells ({ frames := 0, cells := 0, slots := 0, locals := 0 } : Room).slots (s₁.setTop (entryFrame m #[(.int x0)] 1))
  rw [ef_rm1 m x0]
  have hv0 : f1 x0 = f1 x0 := rfl
  show Ends p e below s _ _ _ (s₁.setTop (mkF m 0 #[.val (.int x0)] []))
  have j58 : ∀ (T : State) (locs : List Loc) (X : Stand p l e ({ frames := 0, cells := 0, slots := 0, locals := 0 } : Room) s m #[(.int x0)] below meth c T locs 0 0) (eT : T.heap = h0) (N : Fr n0 locs) (hv1 : f1 x0 = f1_58 x0), Ends p e below s (QP (some (.int (f1 x0))) h0 n0) ({ frames := 0, cells := 0, slots := 0, locals := 0 } : Room).cells ({ frames := 0, cells := 0, slots := 0, locals := 0 } : Room).slots (T.setTop (mkF m 58 #[.val (.int x0)] [])) := by
    intro T locs X eT N  hv1
    refine Ends.by ?_ (fun _ k => XS.iconst X.here hx rfl (hb hby d1_58) k)
    show Ends p e below s _ _ _ (T.setTop (mkF m 59 #[.val (.int x0)] [(.int (0 : Int32))]))
    exact Ends.retN X hx Bd.notSynchronized Bd.returns (t := .boolean) (by simp) (hb hby d1_59) (w := (0 : Int32)) rfl ⟨by rw [hv1]; first | done | rfl, N, eT⟩ (by decide) (by decide)
  have j54 : ∀ (T : State) (locs : List Loc) (X : Stand p l e ({ frames := 0, cells := 0, slots := 0, locals := 0 } : Room) s m #[(.int x0)] below meth c T locs 0 0) (eT : T.heap = h0) (N : Fr n0 locs) (hv2 : f1 x0 = f1_54 x0), Ends p e below s (QP (some (.int (f1 x0))) h0 n0) ({ frames := 0, cells := 0, slots := 0, locals := 0 } : Room).cells ({ frames := 0, cells := 0, slots := 0, locals := 0 } : Room).slots (T.setTop (mkF m 54 #[.val (.int x0)] [])) := by
    intro T locs X eT N  hv2
    refine Ends.by ?_ (fun _ k => XS.iconst X.here hx rfl (hb hby d1_54) k)
    show Ends p e below s _ _ _ (T.setTop (mkF m 55 #[.val (.int x0)] [(.int (1 : Int32))]))
    refine Ends.by ?_ (fun _ k => XS.goto X.here hx rfl (pc0 := 55) (pc' := 59) rfl (hb hby d1_55) (by decide) (by decide) k)
    show Ends p e below s _ _ _ (T.setTop (mkF m 59 #[.val (.int x0)] [(.int (1 : Int32))]))
    exact Ends.retN X hx Bd.notSynchronized Bd.returns (t := .boolean) (by simp) (hb hby d1_59) (w := (1 : Int32)) rfl ⟨by rw [hv2]; first | done | rfl, N, eT⟩ (by decide) (by decide)
  have j42 : ∀ (T : State) (locs : List Loc) (X : Stand p l e ({ frames := 0, cells := 0, slots := 0, locals := 0 } : Room) s m #[(.int x0)] below meth c T locs 0 0) (eT : T.heap = h0) (N : Fr n0 locs) (hv3 : f1 x0 = f1_42 x0), Ends p e below s (QP (some (.int (f1 x0))) h0 n0) ({ frames := 0, cells := 0, slots := 0, locals := 0 } : Room).cells ({ frames := 0, cells := 0, slots := 0, locals := 0 } : Room).slots (T.setTop (mkF m 42 #[.val (.int x0)] [])) := by
    intro T locs X eT N  hv3
    refine Ends.by ?_ (fun _ k => XS.iloadN X.here hx rfl (hb hby d1_42) rfl k)
    show Ends p e below s _ _ _ (T.setTop (mkF m 43 #[.val (.int x0)] [(.int x0)]))
    refine Ends.by ?_ (X.ldcInt hx hown (mvT hZ (hw _ (List.mem_of_getElem? (i := 16) rfl))) (g := (mkF m 43 #[.val (.int x0)] [(.int x0)])) rfl (hb hby d1_43))
    show Ends p e below s _ _ _ (T.setTop (mkF m 45 #[.val (.int x0)] [(.int (65536 : Int32)), (.int x0)]))
    by_cases hc4 : x0 < (65536 : Int32)
    · have hv5 := hv3.trans (if_pos hc4)
      refine Ends.by ?_ (fun _ k => XS.icmpYes X.here hx rfl (pc0 := 45) (pc' := 58) rfl (hb hby d1_45) rfl (XT.ii_lt_t hc4) (by decide) (by decide) k)
      show Ends p e below s _ _ _ (T.setTop (mkF m 58 #[.val (.int x0)] []))
      exact j58 T _ X eT N hv5
    · have hv6 := hv3.trans (if_neg hc4)
      refine Ends.by ?_ (fun _ k => XS.icmpNo X.here hx rfl (hb hby d1_45) rfl (XT.ii_lt_f hc4) k)
      show Ends p e below s _ _ _ (T.setTop (mkF m 48 #[.val (.int x0)] []))
      refine Ends.by ?_ (fun _ k => XS.iloadN X.here hx rfl (hb hby d1_48) rfl k)
      show Ends p e below s _ _ _ (T.setTop (mkF m 49 #[.val (.int x0)] [(.int x0)]))
      refine Ends.by ?_ (X.ldcInt hx hown (mvT hZ (hw _ (List.mem_of_getElem? (i := 23) rfl))) (g := (mkF m 49 #[.val (.int x0)] [(.int x0)])) rfl (hb hby d1_49))
      show Ends p e below s _ _ _ (T.setTop (mkF m 51 #[.val (.int x0)] [(.int (1114111 : Int32)), (.int x0)]))
      by_cases hc7 : (1114111 : Int32) < x0
      · have hv8 := hv6.trans (if_pos hc7)
        refine Ends.by ?_ (fun _ k => XS.icmpYes X.here hx rfl (pc0 := 51) (pc' := 58) rfl (hb hby d1_51) rfl (XT.ii_gt_t hc7) (by decide) (by decide) k)
        show Ends p e below s _ _ _ (T.setTop (mkF m 58 #[.val (.int x0)] []))
        exact j58 T _ X eT N hv8
      · have hv9 := hv6.trans (if_neg hc7)
        refine Ends.by ?_ (fun _ k => XS.icmpNo X.here hx rfl (hb hby d1_51) rfl (XT.ii_gt_f hc7) k)
        show Ends p e below s _ _ _ (T.setTop (mkF m 54 #[.val (.int x0)] []))
        exact j54 T _ X eT N hv9
  have j30 : ∀ (T : State) (locs : List Loc) (X : Stand p l e ({ frames := 0, cells := 0, slots := 0, locals := 0 } : Room) s m #[(.int x0)] below meth c T locs 0 0) (eT : T.heap = h0) (N : Fr n0 locs) (hv10 : f1 x0 = f1_30 x0), Ends p e below s (QP (some (.int (f1 x0))) h0 n0) ({ frames := 0, cells := 0, slots := 0, locals := 0 } : Room).cells ({ frames := 0, cells := 0, slots := 0, locals := 0 } : Room).slots (T.setTop (mkF m 30 #[.val (.int x0)] [])) := by
    intro T locs X eT N  hv10
    refine Ends.by ?_ (fun _ k => XS.iloadN X.here hx rfl (hb hby d1_30) rfl k)
    show Ends p e below s _ _ _ (T.setTop (mkF m 31 #[.val (.int x0)] [(.int x0)]))
    refine Ends.by ?_ (X.ldcInt hx hown (mvT hZ (hw _ (List.mem_of_getElem? (i := 15) rfl))) (g := (mkF m 31 #[.val (.int x0)] [(.int x0)])) rfl (hb hby d1_31))
    show Ends p e below s _ _ _ (T.setTop (mkF m 33 #[.val (.int x0)] [(.int (57344 : Int32)), (.int x0)]))
    by_cases hc11 : x0 < (57344 : Int32)
    · have hv12 := hv10.trans (if_pos hc11)
      refine Ends.by ?_ (fun _ k => XS.icmpYes X.here hx rfl (pc0 := 33) (pc' := 42) rfl (hb hby d1_33) rfl (XT.ii_lt_t hc11) (by decide) (by decide) k)
      show Ends p e below s _ _ _ (T.setTop (mkF m 42 #[.val (.int x0)] []))
      exact j42 T _ X eT N hv12
    · have hv13 := hv10.trans (if_neg hc11)
      refine Ends.by ?_ (fun _ k => XS.icmpNo X.here hx rfl (hb hby d1_33) rfl (XT.ii_lt_f hc11) k)
      show Ends p e below s _ _ _ (T.setTop (mkF m 36 #[.val (.int x0)] []))
      refine Ends.by ?_ (fun _ k => XS.iloadN X.here hx rfl (hb hby d1_36) rfl k)
      show Ends p e below s _ _ _ (T.setTop (mkF m 37 #[.val (.int x0)] [(.int x0)]))
      refine Ends.by ?_ (X.ldcInt hx hown (mvT hZ (hw _ (List.mem_of_getElem? (i := 22) rfl))) (g := (mkF m 37 #[.val (.int x0)] [(.int x0)])) rfl (hb hby d1_37))
      show Ends p e below s _ _ _ (T.setTop (mkF m 39 #[.val (.int x0)] [(.int (65533 : Int32)), (.int x0)]))
      by_cases hc14 : (65533 : Int32) < x0
      · have hv15 := hv13.trans (if_pos hc14)
        refine Ends.by ?_ (fun _ k => XS.icmpNo X.here hx rfl (hb hby d1_39) rfl (XT.ii_le_f hc14) k)
        show Ends p e below s _ _ _ (T.setTop (mkF m 42 #[.val (.int x0)] []))
        exact j42 T _ X eT N hv15
      · have hv16 := hv13.trans (if_neg hc14)
        refine Ends.by ?_ (fun _ k => XS.icmpYes X.here hx rfl (pc0 := 39) (pc' := 54) rfl (hb hby d1_39) rfl (XT.ii_le_t hc14) (by decide) (by decide) k)
        show Ends p e below s _ _ _ (T.setTop (mkF m 54 #[.val (.int x0)] []))
        exact j54 T _ X eT N hv16
  refine Ends.by ?_ (fun _ k => XS.iloadN X0.here hx rfl (hb hby d1_0) rfl k)
  show Ends p e below s _ _ _ (s₁.setTop (mkF m 1 #[.val (.int x0)] [(.int x0)]))
  refine Ends.by ?_ (fun _ k => XS.bipush X0.here hx rfl (hb hby d1_1) k)
  show Ends p e below s _ _ _ (s₁.setTop (mkF m 3 #[.val (.int x0)] [(.int (9 : Int32)), (.int x0)]))
  by_cases hc17 : x0 = (9 : Int32)
  · have hv18 := hv0.trans (if_pos hc17)
    refine Ends.by ?_ (fun _ k => XS.icmpYes X0.here hx rfl (pc0 := 3) (pc' := 54) rfl (hb hby d1_3) rfl (XT.ii_eq_t hc17) (by decide) (by decide) k)
    show Ends p e below s _ _ _ (s₁.setTop (mkF m 54 #[.val (.int x0)] []))
    exact j54 s₁ _ X0 e0 N0 hv18
  · have hv19 := hv0.trans (if_neg hc17)
    refine Ends.by ?_ (fun _ k => XS.icmpNo X0.here hx rfl (hb hby d1_3) rfl (XT.ii_eq_f hc17) k)
    show Ends p e below s _ _ _ (s₁.setTop (mkF m 6 #[.val (.int x0)] []))
    refine Ends.by ?_ (fun _ k => XS.iloadN X0.here hx rfl (hb hby d1_6) rfl k)
    show Ends p e below s _ _ _ (s₁.setTop (mkF m 7 #[.val (.int x0)] [(.int x0)]))
    refine Ends.by ?_ (fun _ k => XS.bipush X0.here hx rfl (hb hby d1_7) k)
    show Ends p e below s _ _ _ (s₁.setTop (mkF m 9 #[.val (.int x0)] [(.int (10 : Int32)), (.int x0)]))
    by_cases hc20 : x0 = (10 : Int32)
    · have hv21 := hv19.trans (if_pos hc20)
      refine Ends.by ?_ (fun _ k => XS.icmpYes X0.here hx rfl (pc0 := 9) (pc' := 54) rfl (hb hby d1_9) rfl (XT.ii_eq_t hc20) (by decide) (by decide) k)
      show Ends p e below s _ _ _ (s₁.setTop (mkF m 54 #[.val (.int x0)] []))
      exact j54 s₁ _ X0 e0 N0 hv21
    · have hv22 := hv19.trans (if_neg hc20)
      refine Ends.by ?_ (fun _ k => XS.icmpNo X0.here hx rfl (hb hby d1_9) rfl (XT.ii_eq_f hc20) k)
      show Ends p e below s _ _ _ (s₁.setTop (mkF m 12 #[.val (.int x0)] []))
      refine Ends.by ?_ (fun _ k => XS.iloadN X0.here hx rfl (hb hby d1_12) rfl k)
      show Ends p e below s _ _ _ (s₁.setTop (mkF m 13 #[.val (.int x0)] [(.int x0)]))
      refine Ends.by ?_ (fun _ k => XS.bipush X0.here hx rfl (hb hby d1_13) k)
      show Ends p e below s _ _ _ (s₁.setTop (mkF m 15 #[.val (.int x0)] [(.int (13 : Int32)), (.int x0)]))
      by_cases hc23 : x0 = (13 : Int32)
      · have hv24 := hv22.trans (if_pos hc23)
        refine Ends.by ?_ (fun _ k => XS.icmpYes X0.here hx rfl (pc0 := 15) (pc' := 54) rfl (hb hby d1_15) rfl (XT.ii_eq_t hc23) (by decide) (by decide) k)
        show Ends p e below s _ _ _ (s₁.setTop (mkF m 54 #[.val (.int x0)] []))
        exact j54 s₁ _ X0 e0 N0 hv24
      · have hv25 := hv22.trans (if_neg hc23)
        refine Ends.by ?_ (fun _ k => XS.icmpNo X0.here hx rfl (hb hby d1_15) rfl (XT.ii_eq_f hc23) k)
        show Ends p e below s _ _ _ (s₁.setTop (mkF m 18 #[.val (.int x0)] []))
        refine Ends.by ?_ (fun _ k => XS.iloadN X0.here hx rfl (hb hby d1_18) rfl k)
        show Ends p e below s _ _ _ (s₁.setTop (mkF m 19 #[.val (.int x0)] [(.int x0)]))
        refine Ends.by ?_ (fun _ k => XS.bipush X0.here hx rfl (hb hby d1_19) k)
        show Ends p e below s _ _ _ (s₁.setTop (mkF m 21 #[.val (.int x0)] [(.int (32 : Int32)), (.int x0)]))
        by_cases hc26 : x0 < (32 : Int32)
        · have hv27 := hv25.trans (if_pos hc26)
          refine Ends.by ?_ (fun _ k => XS.icmpYes X0.here hx rfl (pc0 := 21) (pc' := 30) rfl (hb hby d1_21) rfl (XT.ii_lt_t hc26) (by decide) (by decide) k)
          show Ends p e below s _ _ _ (s₁.setTop (mkF m 30 #[.val (.int x0)] []))
          exact j30 s₁ _ X0 e0 N0 hv27
        · have hv28 := hv25.trans (if_neg hc26)
          refine Ends.by ?_ (fun _ k => XS.icmpNo X0.here hx rfl (hb hby d1_21) rfl (XT.ii_lt_f hc26) k)
          show Ends p e below s _ _ _ (s₁.setTop (mkF m 24 #[.val (.int x0)] []))
          refine Ends.by ?_ (fun _ k => XS.iloadN X0.here hx rfl (hb hby d1_24) rfl k)
          show Ends p e below s _ _ _ (s₁.setTop (mkF m 25 #[.val (.int x0)] [(.int x0)]))
          refine Ends.by ?_ (X0.ldcInt hx hown (mvT hZ (hw _ (List.mem_of_getElem? (i := 21) rfl))) (g := (mkF m 25 #[.val (.int x0)] [(.int x0)])) rfl (hb hby d1_25))
          show Ends p e below s _ _ _ (s₁.setTop (mkF m 27 #[.val (.int x0)] [(.int (55295 : Int32)), (.int x0)]))
          by_cases hc29 : (55295 : Int32) < x0
          · have hv30 := hv28.trans (if_pos hc29)
            refine Ends.by ?_ (fun _ k => XS.icmpNo X0.here hx rfl (hb hby d1_27) rfl (XT.ii_le_f hc29) k)
            show Ends p e below s _ _ _ (s₁.setTop (mkF m 30 #[.val (.int x0)] []))
            exact j30 s₁ _ X0 e0 N0 hv30
          · have hv31 := hv28.trans (if_neg hc29)
            refine Ends.by ?_ (fun _ k => XS.icmpYes X0.here hx rfl (pc0 := 27) (pc' := 54) rfl (hb hby d1_27) rfl (XT.ii_le_t hc29) (by decide) (by decide) k)
            show Ends p e below s _ _ _ (s₁.setTop (mkF m 54 #[.val (.int x0)] []))
            exact j54 s₁ _ X0 e0 N0 hv31

theorem d2_72 : decode method_3_code 72 = .ok (.iconst 0, 1) := by decide +kernel
theorem d2_73 : decode method_3_code 73 = .ok (.ireturn, 1) := by decide +kernel
theorem d2_56 : decode method_3_code 56 = .ok (.iload_n 0, 1) := by decide +kernel
theorem d2_57 : decode method_3_code 57 = .ok (.ldc 12, 2) := by decide +kernel
theorem d2_59 : decode method_3_code 59 = .ok (.if_icmp .eq 13, 3) := by decide +kernel
theorem d2_62 : decode method_3_code 62 = .ok (.iload_n 0, 1) := by decide +kernel
theorem d2_63 : decode method_3_code 63 = .ok (.ldc 13, 2) := by decide +kernel
theorem d2_65 : decode method_3_code 65 = .ok (.if_icmp .eq 7, 3) := by decide +kernel
theorem d2_68 : decode method_3_code 68 = .ok (.iconst 1, 1) := by decide +kernel
theorem d2_69 : decode method_3_code 69 = .ok (.goto 4, 3) := by decide +kernel
theorem d2_36 : decode method_3_code 36 = .ok (.iconst 1, 1) := by decide +kernel
theorem d2_37 : decode method_3_code 37 = .ok (.goto 4, 3) := by decide +kernel
theorem d2_41 : decode method_3_code 41 = .ok (.ireturn, 1) := by decide +kernel
theorem d2_10 : decode method_3_code 10 = .ok (.iconst 0, 1) := by decide +kernel
theorem d2_11 : decode method_3_code 11 = .ok (.ireturn, 1) := by decide +kernel
theorem d2_0 : decode method_3_code 0 = .ok (.iload_n 0, 1) := by decide +kernel
theorem d2_1 : decode method_3_code 1 = .ok (.ifCond .lt 9, 3) := by decide +kernel
theorem d2_4 : decode method_3_code 4 = .ok (.iload_n 0, 1) := by decide +kernel
theorem d2_5 : decode method_3_code 5 = .ok (.ldc 15, 2) := by decide +kernel
theorem d2_7 : decode method_3_code 7 = .ok (.if_icmp .le 5, 3) := by decide +kernel
theorem d2_12 : decode method_3_code 12 = .ok (.iload_n 0, 1) := by decide +kernel
theorem d2_13 : decode method_3_code 13 = .ok (.bipush 32, 2) := by decide +kernel
theorem d2_15 : decode method_3_code 15 = .ok (.if_icmp .ge 27, 3) := by decide +kernel
theorem d2_18 : decode method_3_code 18 = .ok (.iload_n 0, 1) := by decide +kernel
theorem d2_19 : decode method_3_code 19 = .ok (.bipush 9, 2) := by decide +kernel
theorem d2_21 : decode method_3_code 21 = .ok (.if_icmp .eq 15, 3) := by decide +kernel
theorem d2_24 : decode method_3_code 24 = .ok (.iload_n 0, 1) := by decide +kernel
theorem d2_25 : decode method_3_code 25 = .ok (.bipush 10, 2) := by decide +kernel
theorem d2_27 : decode method_3_code 27 = .ok (.if_icmp .eq 9, 3) := by decide +kernel
theorem d2_30 : decode method_3_code 30 = .ok (.iload_n 0, 1) := by decide +kernel
theorem d2_31 : decode method_3_code 31 = .ok (.bipush 13, 2) := by decide +kernel
theorem d2_33 : decode method_3_code 33 = .ok (.if_icmp .ne 7, 3) := by decide +kernel
theorem d2_40 : decode method_3_code 40 = .ok (.iconst 0, 1) := by decide +kernel
theorem d2_42 : decode method_3_code 42 = .ok (.iload_n 0, 1) := by decide +kernel
theorem d2_43 : decode method_3_code 43 = .ok (.ldc 8, 2) := by decide +kernel
theorem d2_45 : decode method_3_code 45 = .ok (.if_icmp .lt 11, 3) := by decide +kernel
theorem d2_48 : decode method_3_code 48 = .ok (.iload_n 0, 1) := by decide +kernel
theorem d2_49 : decode method_3_code 49 = .ok (.ldc 9, 2) := by decide +kernel
theorem d2_51 : decode method_3_code 51 = .ok (.if_icmp .gt 5, 3) := by decide +kernel
theorem d2_54 : decode method_3_code 54 = .ok (.iconst 0, 1) := by decide +kernel
theorem d2_55 : decode method_3_code 55 = .ok (.ireturn, 1) := by decide +kernel
def f2_72 (x0 : Int32) : Int32 := (0 : Int32)
def f2_56 (x0 : Int32) : Int32 := (if x0 = (65534 : Int32) then (f2_72 x0) else (if x0 = (65535 : Int32) then (f2_72 x0) else (1 : Int32)))
def f2_36 (x0 : Int32) : Int32 := (1 : Int32)
def f2_10 (x0 : Int32) : Int32 := (0 : Int32)
def f2 (x0 : Int32) : Int32 := (if x0 < (0 : Int32) then (f2_10 x0) else (if (1114111 : Int32) < x0 then (f2_10 x0) else (if x0 < (32 : Int32) then (if x0 = (9 : Int32) then (f2_36 x0) else (if x0 = (10 : Int32) then (f2_36 x0) else (if x0 = (13 : Int32) then (f2_36 x0) else (0 : Int32)))) else (if x0 < (55296 : Int32) then (f2_56 x0) else (if (57343 : Int32) < x0 then (f2_56 x0) else (0 : Int32))))))
theorem ef_rm2 (m : MethodId) (x0 : Int32) : entryFrame m #[(.int x0)] 1 = mkF m 0 #[.val (.int x0)] [] := by first | (simp [entryFrame, mkF, argsToLocals, Value.category]; done) | rfl
theorem pn_1 : plainName "com/example/fiddlehead/fiddlehead/EventIsTextCharacterPinLaw" = true := by first | (simp [plainName, overriddenIn]; done) | decide +kernel
set_option maxRecDepth 65536 in
set_option maxHeartbeats 40000000 in
theorem rm2 (l : Launch) (Z : State) (a0 : Array Value) (hw : ∀ d ∈ tables_1, d.before a0 Z = true) (ws : List Jvm.Cond) (x0 : Int32) (h0 : Heap) (n0 : Nat) (Z0 : n0 ≤ h0.size) :
    MetFree l (⟨"com/example/fiddlehead/fiddlehead/EventIsTextCharacterPinLaw", "expected", "(I)Z"⟩ : MethodName) (head1 (Jvm.Cond.code (⟨"com/example/fiddlehead/fiddlehead/EventIsTextCharacterPinLaw", "expected", "(I)Z"⟩ : MethodName) method_3_code 1 (some .boolean) :: ws) ({ frames := 0, cells := 0, slots := 0, locals := 0 } : Room)) (fun a U => a = #[(.int x0)] ∧ Z.Warmed39 U.vm ∧ U.heap = h0) (fun _ _ _ _ _ => True) (fun _ U o U' => ∃ v L, o = .returned v ∧ (QP (some (.int (f2 x0))) h0 n0) v U'.heap L ∧ FrameEnd U o U' L ({ frames := 0, cells := 0, slots := 0, locals := 0 } : Room).cells ({ frames := 0, cells := 0, slots := 0, locals := 0 } : Room).slots) := by
  refine MetFree.of_bodySF (plainFor_of_name pn_1) hisR ?_
  intro p e s m args below meth c s₁ Bd hml0 hP hK
  obtain ⟨rfl, hZ, hh⟩ := hP
  have hx := Bd.exec
  have hby := Bd.bytes
  have hml : c.maxLocals = 1 := hml0
  have hown : s.vm.findClass "com/example/fiddlehead/fiddlehead/EventIsTextCharacterPinLaw" = some m.cls := findClass_of_methodNamed Bd.named
  have hnm := (name_of_methodNamed Bd.named Bd.method).1
  have X0 : Stand p l e ({ frames := 0, cells := 0, slots := 0, locals := 0 } : Room) s m #[(.int x0)] below meth c s₁ [] 0 0 := Stand.of_body Bd
  have e0 : s₁.heap = h0 := by rw [← hh, Bd.state]; rfl
  have N0 := Fr.nil n0
  show Ends p e below s (QP (some (.int (f2 x0))) h0 n0) ({ frames := 0, cells := 0, slots := 0, locals := 0 } : Room).cells ({ frames := 0, cells := 0, slots := 0, locals := 0 } : Room).slots (s₁.setTop (entryFrame m #[(.int x0)] 1))
  rw [ef_rm2 m x0]
  have hv0 : f2 x0 = f2 x0 := rfl
  show Ends p e below s _ _ _ (s₁.setTop (mkF m 0 #[.val (.int x0)] []))
  have j72 : ∀ (T : State) (locs : List Loc) (X : Stand p l e ({ frames := 0, cells := 0, slots := 0, locals := 0 } : Room) s m #[(.int x0)] below meth c T locs 0 0) (eT : T.heap = h0) (N : Fr n0 locs) (hv1 : f2 x0 = f2_72 x0), Ends p e below s (QP (some (.int (f2 x0))) h0 n0) ({ frames := 0, cells := 0, slots := 0, locals := 0 } : Room).cells ({ frames := 0, cells := 0, slots := 0, locals := 0 } : Room).slots (T.setTop (mkF m 72 #[.val (.int x0)] [])) := by
    intro T locs X eT N  hv1
    refine Ends.by ?_ (fun _ k => XS.iconst X.here hx rfl (hb hby d2_72) k)
    show Ends p e below s _ _ _ (T.setTop (mkF m 73 #[.val (.int x0)] [(.int (0 : Int32))]))
    exact Ends.retN X hx Bd.notSynchronized Bd.returns (t := .boolean) (by simp) (hb hby d2_73) (w := (0 : Int32)) rfl ⟨by rw [hv1]; first | done | rfl, N, eT⟩ (by decide) (by decide)
  have j56 : ∀ (T : State) (locs : List Loc) (X : Stand p l e ({ frames := 0, cells := 0, slots := 0, locals := 0 } : Room) s m #[(.int x0)] below meth c T locs 0 0) (eT : T.heap = h0) (N : Fr n0 locs) (hv2 : f2 x0 = f2_56 x0), Ends p e below s (QP (some (.int (f2 x0))) h0 n0) ({ frames := 0, cells := 0, slots := 0, locals := 0 } : Room).cells ({ frames := 0, cells := 0, slots := 0, locals := 0 } : Room).slots (T.setTop (mkF m 56 #[.val (.int x0)] [])) := by
    intro T locs X eT N  hv2
    refine Ends.by ?_ (fun _ k => XS.iloadN X.here hx rfl (hb hby d2_56) rfl k)
    show Ends p e below s _ _ _ (T.setTop (mkF m 57 #[.val (.int x0)] [(.int x0)]))
    refine Ends.by ?_ (X.ldcInt hx hown (mvT hZ (hw _ (List.mem_of_getElem? (i := 6) rfl))) (g := (mkF m 57 #[.val (.int x0)] [(.int x0)])) rfl (hb hby d2_57))
    show Ends p e below s _ _ _ (T.setTop (mkF m 59 #[.val (.int x0)] [(.int (65534 : Int32)), (.int x0)]))
    by_cases hc3 : x0 = (65534 : Int32)
    · have hv4 := hv2.trans (if_pos hc3)
      refine Ends.by ?_ (fun _ k => XS.icmpYes X.here hx rfl (pc0 := 59) (pc' := 72) rfl (hb hby d2_59) rfl (XT.ii_eq_t hc3) (by decide) (by decide) k)
      show Ends p e below s _ _ _ (T.setTop (mkF m 72 #[.val (.int x0)] []))
      exact j72 T _ X eT N hv4
    · have hv5 := hv2.trans (if_neg hc3)
      refine Ends.by ?_ (fun _ k => XS.icmpNo X.here hx rfl (hb hby d2_59) rfl (XT.ii_eq_f hc3) k)
      show Ends p e below s _ _ _ (T.setTop (mkF m 62 #[.val (.int x0)] []))
      refine Ends.by ?_ (fun _ k => XS.iloadN X.here hx rfl (hb hby d2_62) rfl k)
      show Ends p e below s _ _ _ (T.setTop (mkF m 63 #[.val (.int x0)] [(.int x0)]))
      refine Ends.by ?_ (X.ldcInt hx hown (mvT hZ (hw _ (List.mem_of_getElem? (i := 7) rfl))) (g := (mkF m 63 #[.val (.int x0)] [(.int x0)])) rfl (hb hby d2_63))
      show Ends p e below s _ _ _ (T.setTop (mkF m 65 #[.val (.int x0)] [(.int (65535 : Int32)), (.int x0)]))
      by_cases hc6 : x0 = (65535 : Int32)
      · have hv7 := hv5.trans (if_pos hc6)
        refine Ends.by ?_ (fun _ k => XS.icmpYes X.here hx rfl (pc0 := 65) (pc' := 72) rfl (hb hby d2_65) rfl (XT.ii_eq_t hc6) (by decide) (by decide) k)
        show Ends p e below s _ _ _ (T.setTop (mkF m 72 #[.val (.int x0)] []))
        exact j72 T _ X eT N hv7
      · have hv8 := hv5.trans (if_neg hc6)
        refine Ends.by ?_ (fun _ k => XS.icmpNo X.here hx rfl (hb hby d2_65) rfl (XT.ii_eq_f hc6) k)
        show Ends p e below s _ _ _ (T.setTop (mkF m 68 #[.val (.int x0)] []))
        refine Ends.by ?_ (fun _ k => XS.iconst X.here hx rfl (hb hby d2_68) k)
        show Ends p e below s _ _ _ (T.setTop (mkF m 69 #[.val (.int x0)] [(.int (1 : Int32))]))
        refine Ends.by ?_ (fun _ k => XS.goto X.here hx rfl (pc0 := 69) (pc' := 73) rfl (hb hby d2_69) (by decide) (by decide) k)
        show Ends p e below s _ _ _ (T.setTop (mkF m 73 #[.val (.int x0)] [(.int (1 : Int32))]))
        exact Ends.retN X hx Bd.notSynchronized Bd.returns (t := .boolean) (by simp) (hb hby d2_73) (w := (1 : Int32)) rfl ⟨by rw [hv8]; first | done | rfl, N, eT⟩ (by decide) (by decide)
  have j36 : ∀ (T : State) (locs : List Loc) (X : Stand p l e ({ frames := 0, cells := 0, slots := 0, locals := 0 } : Room) s m #[(.int x0)] below meth c T locs 0 0) (eT : T.heap = h0) (N : Fr n0 locs) (hv9 : f2 x0 = f2_36 x0), Ends p e below s (QP (some (.int (f2 x0))) h0 n0) ({ frames := 0, cells := 0, slots := 0, locals := 0 } : Room).cells ({ frames := 0, cells := 0, slots := 0, locals := 0 } : Room).slots (T.setTop (mkF m 36 #[.val (.int x0)] [])) := by
    intro T locs X eT N  hv9
    refine Ends.by ?_ (fun _ k => XS.iconst X.here hx rfl (hb hby d2_36) k)
    show Ends p e below s _ _ _ (T.setTop (mkF m 37 #[.val (.int x0)] [(.int (1 : Int32))]))
    refine Ends.by ?_ (fun _ k => XS.goto X.here hx rfl (pc0 := 37) (pc' := 41) rfl (hb hby d2_37) (by decide) (by decide) k)
    show Ends p e below s _ _ _ (T.setTop (mkF m 41 #[.val (.int x0)] [(.int (1 : Int32))]))
    exact Ends.retN X hx Bd.notSynchronized Bd.returns (t := .boolean) (by simp) (hb hby d2_41) (w := (1 : Int32)) rfl ⟨by rw [hv9]; first | done | rfl, N, eT⟩ (by decide) (by decide)
  have j10 : ∀ (T : State) (locs : List Loc) (X : Stand p l e ({ frames := 0, cells := 0, slots := 0, locals := 0 } : Room) s m #[(.int x0)] below meth c T locs 0 0) (eT : T.heap = h0) (N : Fr n0 locs) (hv10 : f2 x0 = f2_10 x0), Ends p e below s (QP (some (.int (f2 x0))) h0 n0) ({ frames := 0, cells := 0, slots := 0, locals := 0 } : Room).cells ({ frames := 0, cells := 0, slots := 0, locals := 0 } : Room).slots (T.setTop (mkF m 10 #[.val (.int x0)] [])) := by
    intro T locs X eT N  hv10
    refine Ends.by ?_ (fun _ k => XS.iconst X.here hx rfl (hb hby d2_10) k)
    show Ends p e below s _ _ _ (T.setTop (mkF m 11 #[.val (.int x0)] [(.int (0 : Int32))]))
    exact Ends.retN X hx Bd.notSynchronized Bd.returns (t := .boolean) (by simp) (hb hby d2_11) (w := (0 : Int32)) rfl ⟨by rw [hv10]; first | done | rfl, N, eT⟩ (by decide) (by decide)
  refine Ends.by ?_ (fun _ k => XS.iloadN X0.here hx rfl (hb hby d2_0) rfl k)
  show Ends p e below s _ _ _ (s₁.setTop (mkF m 1 #[.val (.int x0)] [(.int x0)]))
  by_cases hc11 : x0 < (0 : Int32)
  · have hv12 := hv0.trans (if_pos hc11)
    refine Ends.by ?_ (fun _ k => XS.ifYes X0.here hx rfl (pc0 := 1) (pc' := 10) rfl (hb hby d2_1) rfl (XT.i0_lt_t hc11) (by decide) (by decide) k)
    show Ends p e below s _ _ _ (s₁.setTop (mkF m 10 #[.val (.int x0)] []))
    exact j10 s₁ _ X0 e0 N0 hv12
  · have hv13 := hv0.trans (if_neg hc11)
    refine Ends.by ?_ (fun _ k => XS.ifNo X0.here hx rfl (hb hby d2_1) rfl (XT.i0_lt_f hc11) k)
    show Ends p e below s _ _ _ (s₁.setTop (mkF m 4 #[.val (.int x0)] []))
    refine Ends.by ?_ (fun _ k => XS.iloadN X0.here hx rfl (hb hby d2_4) rfl k)
    show Ends p e below s _ _ _ (s₁.setTop (mkF m 5 #[.val (.int x0)] [(.int x0)]))
    refine Ends.by ?_ (X0.ldcInt hx hown (mvT hZ (hw _ (List.mem_of_getElem? (i := 9) rfl))) (g := (mkF m 5 #[.val (.int x0)] [(.int x0)])) rfl (hb hby d2_5))
    show Ends p e below s _ _ _ (s₁.setTop (mkF m 7 #[.val (.int x0)] [(.int (1114111 : Int32)), (.int x0)]))
    by_cases hc14 : (1114111 : Int32) < x0
    · have hv15 := hv13.trans (if_pos hc14)
      refine Ends.by ?_ (fun _ k => XS.icmpNo X0.here hx rfl (hb hby d2_7) rfl (XT.ii_le_f hc14) k)
      show Ends p e below s _ _ _ (s₁.setTop (mkF m 10 #[.val (.int x0)] []))
      exact j10 s₁ _ X0 e0 N0 hv15
    · have hv16 := hv13.trans (if_neg hc14)
      refine Ends.by ?_ (fun _ k => XS.icmpYes X0.here hx rfl (pc0 := 7) (pc' := 12) rfl (hb hby d2_7) rfl (XT.ii_le_t hc14) (by decide) (by decide) k)
      show Ends p e below s _ _ _ (s₁.setTop (mkF m 12 #[.val (.int x0)] []))
      refine Ends.by ?_ (fun _ k => XS.iloadN X0.here hx rfl (hb hby d2_12) rfl k)
      show Ends p e below s _ _ _ (s₁.setTop (mkF m 13 #[.val (.int x0)] [(.int x0)]))
      refine Ends.by ?_ (fun _ k => XS.bipush X0.here hx rfl (hb hby d2_13) k)
      show Ends p e below s _ _ _ (s₁.setTop (mkF m 15 #[.val (.int x0)] [(.int (32 : Int32)), (.int x0)]))
      by_cases hc17 : x0 < (32 : Int32)
      · have hv18 := hv16.trans (if_pos hc17)
        refine Ends.by ?_ (fun _ k => XS.icmpNo X0.here hx rfl (hb hby d2_15) rfl (XT.ii_ge_f hc17) k)
        show Ends p e below s _ _ _ (s₁.setTop (mkF m 18 #[.val (.int x0)] []))
        refine Ends.by ?_ (fun _ k => XS.iloadN X0.here hx rfl (hb hby d2_18) rfl k)
        show Ends p e below s _ _ _ (s₁.setTop (mkF m 19 #[.val (.int x0)] [(.int x0)]))
        refine Ends.by ?_ (fun _ k => XS.bipush X0.here hx rfl (hb hby d2_19) k)
        show Ends p e below s _ _ _ (s₁.setTop (mkF m 21 #[.val (.int x0)] [(.int (9 : Int32)), (.int x0)]))
        by_cases hc19 : x0 = (9 : Int32)
        · have hv20 := hv18.trans (if_pos hc19)
          refine Ends.by ?_ (fun _ k => XS.icmpYes X0.here hx rfl (pc0 := 21) (pc' := 36) rfl (hb hby d2_21) rfl (XT.ii_eq_t hc19) (by decide) (by decide) k)
          show Ends p e below s _ _ _ (s₁.setTop (mkF m 36 #[.val (.int x0)] []))
          exact j36 s₁ _ X0 e0 N0 hv20
        · have hv21 := hv18.trans (if_neg hc19)
          refine Ends.by ?_ (fun _ k => XS.icmpNo X0.here hx rfl (hb hby d2_21) rfl (XT.ii_eq_f hc19) k)
          show Ends p e below s _ _ _ (s₁.setTop (mkF m 24 #[.val (.int x0)] []))
          refine Ends.by ?_ (fun _ k => XS.iloadN X0.here hx rfl (hb hby d2_24) rfl k)
          show Ends p e below s _ _ _ (s₁.setTop (mkF m 25 #[.val (.int x0)] [(.int x0)]))
          refine Ends.by ?_ (fun _ k => XS.bipush X0.here hx rfl (hb hby d2_25) k)
          show Ends p e below s _ _ _ (s₁.setTop (mkF m 27 #[.val (.int x0)] [(.int (10 : Int32)), (.int x0)]))
          by_cases hc22 : x0 = (10 : Int32)
          · have hv23 := hv21.trans (if_pos hc22)
            refine Ends.by ?_ (fun _ k => XS.icmpYes X0.here hx rfl (pc0 := 27) (pc' := 36) rfl (hb hby d2_27) rfl (XT.ii_eq_t hc22) (by decide) (by decide) k)
            show Ends p e below s _ _ _ (s₁.setTop (mkF m 36 #[.val (.int x0)] []))
            exact j36 s₁ _ X0 e0 N0 hv23
          · have hv24 := hv21.trans (if_neg hc22)
            refine Ends.by ?_ (fun _ k => XS.icmpNo X0.here hx rfl (hb hby d2_27) rfl (XT.ii_eq_f hc22) k)
            show Ends p e below s _ _ _ (s₁.setTop (mkF m 30 #[.val (.int x0)] []))
            refine Ends.by ?_ (fun _ k => XS.iloadN X0.here hx rfl (hb hby d2_30) rfl k)
            show Ends p e below s _ _ _ (s₁.setTop (mkF m 31 #[.val (.int x0)] [(.int x0)]))
            refine Ends.by ?_ (fun _ k => XS.bipush X0.here hx rfl (hb hby d2_31) k)
            show Ends p e below s _ _ _ (s₁.setTop (mkF m 33 #[.val (.int x0)] [(.int (13 : Int32)), (.int x0)]))
            by_cases hc25 : x0 = (13 : Int32)
            · have hv26 := hv24.trans (if_pos hc25)
              refine Ends.by ?_ (fun _ k => XS.icmpNo X0.here hx rfl (hb hby d2_33) rfl (XT.ii_ne_f hc25) k)
              show Ends p e below s _ _ _ (s₁.setTop (mkF m 36 #[.val (.int x0)] []))
              exact j36 s₁ _ X0 e0 N0 hv26
            · have hv27 := hv24.trans (if_neg hc25)
              refine Ends.by ?_ (fun _ k => XS.icmpYes X0.here hx rfl (pc0 := 33) (pc' := 40) rfl (hb hby d2_33) rfl (XT.ii_ne_t hc25) (by decide) (by decide) k)
              show Ends p e below s _ _ _ (s₁.setTop (mkF m 40 #[.val (.int x0)] []))
              refine Ends.by ?_ (fun _ k => XS.iconst X0.here hx rfl (hb hby d2_40) k)
              show Ends p e below s _ _ _ (s₁.setTop (mkF m 41 #[.val (.int x0)] [(.int (0 : Int32))]))
              exact Ends.retN X0 hx Bd.notSynchronized Bd.returns (t := .boolean) (by simp) (hb hby d2_41) (w := (0 : Int32)) rfl ⟨by rw [hv27]; first | done | rfl, N0, e0⟩ (by decide) (by decide)
      · have hv28 := hv16.trans (if_neg hc17)
        refine Ends.by ?_ (fun _ k => XS.icmpYes X0.here hx rfl (pc0 := 15) (pc' := 42) rfl (hb hby d2_15) rfl (XT.ii_ge_t hc17) (by decide) (by decide) k)
        show Ends p e below s _ _ _ (s₁.setTop (mkF m 42 #[.val (.int x0)] []))
        refine Ends.by ?_ (fun _ k => XS.iloadN X0.here hx rfl (hb hby d2_42) rfl k)
        show Ends p e below s _ _ _ (s₁.setTop (mkF m 43 #[.val (.int x0)] [(.int x0)]))
        refine Ends.by ?_ (X0.ldcInt hx hown (mvT hZ (hw _ (List.mem_of_getElem? (i := 2) rfl))) (g := (mkF m 43 #[.val (.int x0)] [(.int x0)])) rfl (hb hby d2_43))
        show Ends p e below s _ _ _ (s₁.setTop (mkF m 45 #[.val (.int x0)] [(.int (55296 : Int32)), (.int x0)]))
        by_cases hc29 : x0 < (55296 : Int32)
        · have hv30 := hv28.trans (if_pos hc29)
          refine Ends.by ?_ (fun _ k => XS.icmpYes X0.here hx rfl (pc0 := 45) (pc' := 56) rfl (hb hby d2_45) rfl (XT.ii_lt_t hc29) (by decide) (by decide) k)
          show Ends p e below s _ _ _ (s₁.setTop (mkF m 56 #[.val (.int x0)] []))
          exact j56 s₁ _ X0 e0 N0 hv30
        · have hv31 := hv28.trans (if_neg hc29)
          refine Ends.by ?_ (fun _ k => XS.icmpNo X0.here hx rfl (hb hby d2_45) rfl (XT.ii_lt_f hc29) k)
          show Ends p e below s _ _ _ (s₁.setTop (mkF m 48 #[.val (.int x0)] []))
          refine Ends.by ?_ (fun _ k => XS.iloadN X0.here hx rfl (hb hby d2_48) rfl k)
          show Ends p e below s _ _ _ (s₁.setTop (mkF m 49 #[.val (.int x0)] [(.int x0)]))
          refine Ends.by ?_ (X0.ldcInt hx hown (mvT hZ (hw _ (List.mem_of_getElem? (i := 3) rfl))) (g := (mkF m 49 #[.val (.int x0)] [(.int x0)])) rfl (hb hby d2_49))
          show Ends p e below s _ _ _ (s₁.setTop (mkF m 51 #[.val (.int x0)] [(.int (57343 : Int32)), (.int x0)]))
          by_cases hc32 : (57343 : Int32) < x0
          · have hv33 := hv31.trans (if_pos hc32)
            refine Ends.by ?_ (fun _ k => XS.icmpYes X0.here hx rfl (pc0 := 51) (pc' := 56) rfl (hb hby d2_51) rfl (XT.ii_gt_t hc32) (by decide) (by decide) k)
            show Ends p e below s _ _ _ (s₁.setTop (mkF m 56 #[.val (.int x0)] []))
            exact j56 s₁ _ X0 e0 N0 hv33
          · have hv34 := hv31.trans (if_neg hc32)
            refine Ends.by ?_ (fun _ k => XS.icmpNo X0.here hx rfl (hb hby d2_51) rfl (XT.ii_gt_f hc32) k)
            show Ends p e below s _ _ _ (s₁.setTop (mkF m 54 #[.val (.int x0)] []))
            refine Ends.by ?_ (fun _ k => XS.iconst X0.here hx rfl (hb hby d2_54) k)
            show Ends p e below s _ _ _ (s₁.setTop (mkF m 55 #[.val (.int x0)] [(.int (0 : Int32))]))
            exact Ends.retN X0 hx Bd.notSynchronized Bd.returns (t := .boolean) (by simp) (hb hby d2_55) (w := (0 : Int32)) rfl ⟨by rw [hv34]; first | done | rfl, N0, e0⟩ (by decide) (by decide)

theorem own_lt {x k : Int32} (n : Int) (hk : k.toInt = n) (h : x.toInt < n) : x < k := by rw [Int32.lt_iff_toInt_lt, hk]; exact h
theorem own_nlt {x k : Int32} (n : Int) (hk : k.toInt = n) (h : n ≤ x.toInt) : ¬ x < k := by rw [Int32.lt_iff_toInt_lt, hk]; omega
theorem own_gt {x k : Int32} (n : Int) (hk : k.toInt = n) (h : n < x.toInt) : k < x := by rw [Int32.lt_iff_toInt_lt, hk]; exact h
theorem own_ngt {x k : Int32} (n : Int) (hk : k.toInt = n) (h : x.toInt ≤ n) : ¬ k < x := by rw [Int32.lt_iff_toInt_lt, hk]; omega
theorem own_eqk {x k : Int32} (n : Int) (hk : k.toInt = n) (h : x.toInt = n) : x = k := Int32.toInt_inj.mp (h.trans hk.symm)
theorem own_nek {x k : Int32} (n : Int) (hk : k.toInt = n) (h : x.toInt ≠ n) : ¬ x = k := fun q => h (by rw [q]; exact hk)
theorem own_eq_0 (x : Int32) (h : x.toInt ≤ -1) : f1 x = f2 x := by
  have c0 : ¬ (x = (9 : Int32)) := own_nek 9 (by decide) (by omega)
  have c1 : ¬ (x = (10 : Int32)) := own_nek 10 (by decide) (by omega)
  have c2 : ¬ (x = (13 : Int32)) := own_nek 13 (by decide) (by omega)
  have c3 : x < (32 : Int32) := own_lt 32 (by decide) (by omega)
  have c4 : x < (57344 : Int32) := own_lt 57344 (by decide) (by omega)
  have c5 : x < (65536 : Int32) := own_lt 65536 (by decide) (by omega)
  have c6 : x < (0 : Int32) := own_lt 0 (by decide) (by omega)
  simp only [f1_58, f1_54, f1_42, f1_30, f1, f2_72, f2_56, f2_36, f2_10, f2, c0, c1, c2, c3, c4, c5, c6, if_true, if_false, ite_true, ite_false, reduceIte]
  try first | rfl | decide
theorem own_eq_1 (x : Int32) (h : (0 ≤ x.toInt ∧ x.toInt ≤ 8)) : f1 x = f2 x := by
  have c0 : ¬ (x = (9 : Int32)) := own_nek 9 (by decide) (by omega)
  have c1 : ¬ (x = (10 : Int32)) := own_nek 10 (by decide) (by omega)
  have c2 : ¬ (x = (13 : Int32)) := own_nek 13 (by decide) (by omega)
  have c3 : x < (32 : Int32) := own_lt 32 (by decide) (by omega)
  have c4 : x < (57344 : Int32) := own_lt 57344 (by decide) (by omega)
  have c5 : x < (65536 : Int32) := own_lt 65536 (by decide) (by omega)
  have c6 : ¬ (x < (0 : Int32)) := own_nlt 0 (by decide) (by omega)
  have c7 : ¬ ((1114111 : Int32) < x) := own_ngt 1114111 (by decide) (by omega)
  simp only [f1_58, f1_54, f1_42, f1_30, f1, f2_72, f2_56, f2_36, f2_10, f2, c0, c1, c2, c3, c4, c5, c6, c7, if_true, if_false, ite_true, ite_false, reduceIte]
  try first | rfl | decide
theorem own_eq_2 (x : Int32) (h : (9 ≤ x.toInt ∧ x.toInt ≤ 9)) : f1 x = f2 x := by
  have c0 : (x = (9 : Int32)) = True := eq_true (own_eqk 9 (by decide) (by omega))
  have c1 : ¬ (x < (0 : Int32)) := own_nlt 0 (by decide) (by omega)
  have c2 : ¬ ((1114111 : Int32) < x) := own_ngt 1114111 (by decide) (by omega)
  have c3 : x < (32 : Int32) := own_lt 32 (by decide) (by omega)
  simp only [f1_58, f1_54, f1_42, f1_30, f1, f2_72, f2_56, f2_36, f2_10, f2, c0, c1, c2, c3, if_true, if_false, ite_true, ite_false, reduceIte]
  try first | rfl | decide
theorem own_eq_3 (x : Int32) (h : (10 ≤ x.toInt ∧ x.toInt ≤ 10)) : f1 x = f2 x := by
  have c0 : ¬ (x = (9 : Int32)) := own_nek 9 (by decide) (by omega)
  have c1 : (x = (10 : Int32)) = True := eq_true (own_eqk 10 (by decide) (by omega))
  have c2 : ¬ (x < (0 : Int32)) := own_nlt 0 (by decide) (by omega)
  have c3 : ¬ ((1114111 : Int32) < x) := own_ngt 1114111 (by decide) (by omega)
  have c4 : x < (32 : Int32) := own_lt 32 (by decide) (by omega)
  simp only [f1_58, f1_54, f1_42, f1_30, f1, f2_72, f2_56, f2_36, f2_10, f2, c0, c1, c2, c3, c4, if_true, if_false, ite_true, ite_false, reduceIte]
  try first | rfl | decide
theorem own_eq_4 (x : Int32) (h : (11 ≤ x.toInt ∧ x.toInt ≤ 12)) : f1 x = f2 x := by
  have c0 : ¬ (x = (9 : Int32)) := own_nek 9 (by decide) (by omega)
  have c1 : ¬ (x = (10 : Int32)) := own_nek 10 (by decide) (by omega)
  have c2 : ¬ (x = (13 : Int32)) := own_nek 13 (by decide) (by omega)
  have c3 : x < (32 : Int32) := own_lt 32 (by decide) (by omega)
  have c4 : x < (57344 : Int32) := own_lt 57344 (by decide) (by omega)
  have c5 : x < (65536 : Int32) := own_lt 65536 (by decide) (by omega)
  have c6 : ¬ (x < (0 : Int32)) := own_nlt 0 (by decide) (by omega)
  have c7 : ¬ ((1114111 : Int32) < x) := own_ngt 1114111 (by decide) (by omega)
  simp only [f1_58, f1_54, f1_42, f1_30, f1, f2_72, f2_56, f2_36, f2_10, f2, c0, c1, c2, c3, c4, c5, c6, c7, if_true, if_false, ite_true, ite_false, reduceIte]
  try first | rfl | decide
theorem own_eq_5 (x : Int32) (h : (13 ≤ x.toInt ∧ x.toInt ≤ 13)) : f1 x = f2 x := by
  have c0 : ¬ (x = (9 : Int32)) := own_nek 9 (by decide) (by omega)
  have c1 : ¬ (x = (10 : Int32)) := own_nek 10 (by decide) (by omega)
  have c2 : (x = (13 : Int32)) = True := eq_true (own_eqk 13 (by decide) (by omega))
  have c3 : ¬ (x < (0 : Int32)) := own_nlt 0 (by decide) (by omega)
  have c4 : ¬ ((1114111 : Int32) < x) := own_ngt 1114111 (by decide) (by omega)
  have c5 : x < (32 : Int32) := own_lt 32 (by decide) (by omega)
  simp only [f1_58, f1_54, f1_42, f1_30, f1, f2_72, f2_56, f2_36, f2_10, f2, c0, c1, c2, c3, c4, c5, if_true, if_false, ite_true, ite_false, reduceIte]
  try first | rfl | decide
theorem own_eq_6 (x : Int32) (h : (14 ≤ x.toInt ∧ x.toInt ≤ 31)) : f1 x = f2 x := by
  have c0 : ¬ (x = (9 : Int32)) := own_nek 9 (by decide) (by omega)
  have c1 : ¬ (x = (10 : Int32)) := own_nek 10 (by decide) (by omega)
  have c2 : ¬ (x = (13 : Int32)) := own_nek 13 (by decide) (by omega)
  have c3 : x < (32 : Int32) := own_lt 32 (by decide) (by omega)
  have c4 : x < (57344 : Int32) := own_lt 57344 (by decide) (by omega)
  have c5 : x < (65536 : Int32) := own_lt 65536 (by decide) (by omega)
  have c6 : ¬ (x < (0 : Int32)) := own_nlt 0 (by decide) (by omega)
  have c7 : ¬ ((1114111 : Int32) < x) := own_ngt 1114111 (by decide) (by omega)
  simp only [f1_58, f1_54, f1_42, f1_30, f1, f2_72, f2_56, f2_36, f2_10, f2, c0, c1, c2, c3, c4, c5, c6, c7, if_true, if_false, ite_true, ite_false, reduceIte]
  try first | rfl | decide
theorem own_eq_7 (x : Int32) (h : (32 ≤ x.toInt ∧ x.toInt ≤ 55295)) : f1 x = f2 x := by
  have c0 : ¬ (x = (9 : Int32)) := own_nek 9 (by decide) (by omega)
  have c1 : ¬ (x = (10 : Int32)) := own_nek 10 (by decide) (by omega)
  have c2 : ¬ (x = (13 : Int32)) := own_nek 13 (by decide) (by omega)
  have c3 : ¬ (x < (32 : Int32)) := own_nlt 32 (by decide) (by omega)
  have c4 : ¬ ((55295 : Int32) < x) := own_ngt 55295 (by decide) (by omega)
  have c5 : ¬ (x < (0 : Int32)) := own_nlt 0 (by decide) (by omega)
  have c6 : ¬ ((1114111 : Int32) < x) := own_ngt 1114111 (by decide) (by omega)
  have c8 : x < (55296 : Int32) := own_lt 55296 (by decide) (by omega)
  have c9 : ¬ (x = (65534 : Int32)) := own_nek 65534 (by decide) (by omega)
  have c10 : ¬ (x = (65535 : Int32)) := own_nek 65535 (by decide) (by omega)
  simp only [f1_58, f1_54, f1_42, f1_30, f1, f2_72, f2_56, f2_36, f2_10, f2, c0, c1, c2, c3, c4, c5, c6, c8, c9, c10, if_true, if_false, ite_true, ite_false, reduceIte]
  try first | rfl | decide
theorem own_eq_8 (x : Int32) (h : (55296 ≤ x.toInt ∧ x.toInt ≤ 57343)) : f1 x = f2 x := by
  have c0 : ¬ (x = (9 : Int32)) := own_nek 9 (by decide) (by omega)
  have c1 : ¬ (x = (10 : Int32)) := own_nek 10 (by decide) (by omega)
  have c2 : ¬ (x = (13 : Int32)) := own_nek 13 (by decide) (by omega)
  have c3 : ¬ (x < (32 : Int32)) := own_nlt 32 (by decide) (by omega)
  have c4 : (55295 : Int32) < x := own_gt 55295 (by decide) (by omega)
  have c5 : x < (57344 : Int32) := own_lt 57344 (by decide) (by omega)
  have c6 : x < (65536 : Int32) := own_lt 65536 (by decide) (by omega)
  have c7 : ¬ (x < (0 : Int32)) := own_nlt 0 (by decide) (by omega)
  have c8 : ¬ ((1114111 : Int32) < x) := own_ngt 1114111 (by decide) (by omega)
  have c10 : ¬ (x < (55296 : Int32)) := own_nlt 55296 (by decide) (by omega)
  have c11 : ¬ ((57343 : Int32) < x) := own_ngt 57343 (by decide) (by omega)
  simp only [f1_58, f1_54, f1_42, f1_30, f1, f2_72, f2_56, f2_36, f2_10, f2, c0, c1, c2, c3, c4, c5, c6, c7, c8, c10, c11, if_true, if_false, ite_true, ite_false, reduceIte]
  try first | rfl | decide
theorem own_eq_9 (x : Int32) (h : (57344 ≤ x.toInt ∧ x.toInt ≤ 65533)) : f1 x = f2 x := by
  have c0 : ¬ (x = (9 : Int32)) := own_nek 9 (by decide) (by omega)
  have c1 : ¬ (x = (10 : Int32)) := own_nek 10 (by decide) (by omega)
  have c2 : ¬ (x = (13 : Int32)) := own_nek 13 (by decide) (by omega)
  have c3 : ¬ (x < (32 : Int32)) := own_nlt 32 (by decide) (by omega)
  have c4 : (55295 : Int32) < x := own_gt 55295 (by decide) (by omega)
  have c5 : ¬ (x < (57344 : Int32)) := own_nlt 57344 (by decide) (by omega)
  have c6 : ¬ ((65533 : Int32) < x) := own_ngt 65533 (by decide) (by omega)
  have c7 : ¬ (x < (0 : Int32)) := own_nlt 0 (by decide) (by omega)
  have c8 : ¬ ((1114111 : Int32) < x) := own_ngt 1114111 (by decide) (by omega)
  have c10 : ¬ (x < (55296 : Int32)) := own_nlt 55296 (by decide) (by omega)
  have c11 : (57343 : Int32) < x := own_gt 57343 (by decide) (by omega)
  have c12 : ¬ (x = (65534 : Int32)) := own_nek 65534 (by decide) (by omega)
  have c13 : ¬ (x = (65535 : Int32)) := own_nek 65535 (by decide) (by omega)
  simp only [f1_58, f1_54, f1_42, f1_30, f1, f2_72, f2_56, f2_36, f2_10, f2, c0, c1, c2, c3, c4, c5, c6, c7, c8, c10, c11, c12, c13, if_true, if_false, ite_true, ite_false, reduceIte]
  try first | rfl | decide
theorem own_eq_10 (x : Int32) (h : (65534 ≤ x.toInt ∧ x.toInt ≤ 65534)) : f1 x = f2 x := by
  have c0 : ¬ (x = (9 : Int32)) := own_nek 9 (by decide) (by omega)
  have c1 : ¬ (x = (10 : Int32)) := own_nek 10 (by decide) (by omega)
  have c2 : ¬ (x = (13 : Int32)) := own_nek 13 (by decide) (by omega)
  have c3 : ¬ (x < (32 : Int32)) := own_nlt 32 (by decide) (by omega)
  have c4 : (55295 : Int32) < x := own_gt 55295 (by decide) (by omega)
  have c5 : ¬ (x < (57344 : Int32)) := own_nlt 57344 (by decide) (by omega)
  have c6 : (65533 : Int32) < x := own_gt 65533 (by decide) (by omega)
  have c7 : x < (65536 : Int32) := own_lt 65536 (by decide) (by omega)
  have c8 : ¬ (x < (0 : Int32)) := own_nlt 0 (by decide) (by omega)
  have c9 : ¬ ((1114111 : Int32) < x) := own_ngt 1114111 (by decide) (by omega)
  have c11 : ¬ (x < (55296 : Int32)) := own_nlt 55296 (by decide) (by omega)
  have c12 : (57343 : Int32) < x := own_gt 57343 (by decide) (by omega)
  have c13 : (x = (65534 : Int32)) = True := eq_true (own_eqk 65534 (by decide) (by omega))
  simp only [f1_58, f1_54, f1_42, f1_30, f1, f2_72, f2_56, f2_36, f2_10, f2, c0, c1, c2, c3, c4, c5, c6, c7, c8, c9, c11, c12, c13, if_true, if_false, ite_true, ite_false, reduceIte]
  try first | rfl | decide
theorem own_eq_11 (x : Int32) (h : (65535 ≤ x.toInt ∧ x.toInt ≤ 65535)) : f1 x = f2 x := by
  have c0 : ¬ (x = (9 : Int32)) := own_nek 9 (by decide) (by omega)
  have c1 : ¬ (x = (10 : Int32)) := own_nek 10 (by decide) (by omega)
  have c2 : ¬ (x = (13 : Int32)) := own_nek 13 (by decide) (by omega)
  have c3 : ¬ (x < (32 : Int32)) := own_nlt 32 (by decide) (by omega)
  have c4 : (55295 : Int32) < x := own_gt 55295 (by decide) (by omega)
  have c5 : ¬ (x < (57344 : Int32)) := own_nlt 57344 (by decide) (by omega)
  have c6 : (65533 : Int32) < x := own_gt 65533 (by decide) (by omega)
  have c7 : x < (65536 : Int32) := own_lt 65536 (by decide) (by omega)
  have c8 : ¬ (x < (0 : Int32)) := own_nlt 0 (by decide) (by omega)
  have c9 : ¬ ((1114111 : Int32) < x) := own_ngt 1114111 (by decide) (by omega)
  have c11 : ¬ (x < (55296 : Int32)) := own_nlt 55296 (by decide) (by omega)
  have c12 : (57343 : Int32) < x := own_gt 57343 (by decide) (by omega)
  have c13 : ¬ (x = (65534 : Int32)) := own_nek 65534 (by decide) (by omega)
  have c14 : (x = (65535 : Int32)) = True := eq_true (own_eqk 65535 (by decide) (by omega))
  simp only [f1_58, f1_54, f1_42, f1_30, f1, f2_72, f2_56, f2_36, f2_10, f2, c0, c1, c2, c3, c4, c5, c6, c7, c8, c9, c11, c12, c13, c14, if_true, if_false, ite_true, ite_false, reduceIte]
  try first | rfl | decide
theorem own_eq_12 (x : Int32) (h : (65536 ≤ x.toInt ∧ x.toInt ≤ 1114111)) : f1 x = f2 x := by
  have c0 : ¬ (x = (9 : Int32)) := own_nek 9 (by decide) (by omega)
  have c1 : ¬ (x = (10 : Int32)) := own_nek 10 (by decide) (by omega)
  have c2 : ¬ (x = (13 : Int32)) := own_nek 13 (by decide) (by omega)
  have c3 : ¬ (x < (32 : Int32)) := own_nlt 32 (by decide) (by omega)
  have c4 : (55295 : Int32) < x := own_gt 55295 (by decide) (by omega)
  have c5 : ¬ (x < (57344 : Int32)) := own_nlt 57344 (by decide) (by omega)
  have c6 : (65533 : Int32) < x := own_gt 65533 (by decide) (by omega)
  have c7 : ¬ (x < (65536 : Int32)) := own_nlt 65536 (by decide) (by omega)
  have c8 : ¬ ((1114111 : Int32) < x) := own_ngt 1114111 (by decide) (by omega)
  have c9 : ¬ (x < (0 : Int32)) := own_nlt 0 (by decide) (by omega)
  have c12 : ¬ (x < (55296 : Int32)) := own_nlt 55296 (by decide) (by omega)
  have c13 : (57343 : Int32) < x := own_gt 57343 (by decide) (by omega)
  have c14 : ¬ (x = (65534 : Int32)) := own_nek 65534 (by decide) (by omega)
  have c15 : ¬ (x = (65535 : Int32)) := own_nek 65535 (by decide) (by omega)
  simp only [f1_58, f1_54, f1_42, f1_30, f1, f2_72, f2_56, f2_36, f2_10, f2, c0, c1, c2, c3, c4, c5, c6, c7, c8, c9, c12, c13, c14, c15, if_true, if_false, ite_true, ite_false, reduceIte]
  try first | rfl | decide
theorem own_eq_13 (x : Int32) (h : 1114112 ≤ x.toInt) : f1 x = f2 x := by
  have c0 : ¬ (x = (9 : Int32)) := own_nek 9 (by decide) (by omega)
  have c1 : ¬ (x = (10 : Int32)) := own_nek 10 (by decide) (by omega)
  have c2 : ¬ (x = (13 : Int32)) := own_nek 13 (by decide) (by omega)
  have c3 : ¬ (x < (32 : Int32)) := own_nlt 32 (by decide) (by omega)
  have c4 : (55295 : Int32) < x := own_gt 55295 (by decide) (by omega)
  have c5 : ¬ (x < (57344 : Int32)) := own_nlt 57344 (by decide) (by omega)
  have c6 : (65533 : Int32) < x := own_gt 65533 (by decide) (by omega)
  have c7 : ¬ (x < (65536 : Int32)) := own_nlt 65536 (by decide) (by omega)
  have c8 : (1114111 : Int32) < x := own_gt 1114111 (by decide) (by omega)
  have c9 : ¬ (x < (0 : Int32)) := own_nlt 0 (by decide) (by omega)
  simp only [f1_58, f1_54, f1_42, f1_30, f1, f2_72, f2_56, f2_36, f2_10, f2, c0, c1, c2, c3, c4, c5, c6, c7, c8, c9, if_true, if_false, ite_true, ite_false, reduceIte]
  try first | rfl | decide
theorem own_eq (x : Int32) : f1 x = f2 x := by
  rcases (by omega : x.toInt ≤ -1 ∨ (0 ≤ x.toInt ∧ x.toInt ≤ 8) ∨ (9 ≤ x.toInt ∧ x.toInt ≤ 9) ∨ (10 ≤ x.toInt ∧ x.toInt ≤ 10) ∨ (11 ≤ x.toInt ∧ x.toInt ≤ 12) ∨ (13 ≤ x.toInt ∧ x.toInt ≤ 13) ∨ (14 ≤ x.toInt ∧ x.toInt ≤ 31) ∨ (32 ≤ x.toInt ∧ x.toInt ≤ 55295) ∨ (55296 ≤ x.toInt ∧ x.toInt ≤ 57343) ∨ (57344 ≤ x.toInt ∧ x.toInt ≤ 65533) ∨ (65534 ≤ x.toInt ∧ x.toInt ≤ 65534) ∨ (65535 ≤ x.toInt ∧ x.toInt ≤ 65535) ∨ (65536 ≤ x.toInt ∧ x.toInt ≤ 1114111) ∨ 1114112 ≤ x.toInt) with h | h | h | h | h | h | h | h | h | h | h | h | h | h
  · exact own_eq_0 x h
  · exact own_eq_1 x h
  · exact own_eq_2 x h
  · exact own_eq_3 x h
  · exact own_eq_4 x h
  · exact own_eq_5 x h
  · exact own_eq_6 x h
  · exact own_eq_7 x h
  · exact own_eq_8 x h
  · exact own_eq_9 x h
  · exact own_eq_10 x h
  · exact own_eq_11 x h
  · exact own_eq_12 x h
  · exact own_eq_13 x h
theorem own_in15 (x : Int32) : 0 ≤ (x &&& (15 : Int32)).toInt ∧ (x &&& (15 : Int32)).toInt < (16 : Nat) := by
  have h := c_mask x 15 4 (by decide) (by decide)
  omega
theorem pd_0 : parseMethodDescriptor "(I)Z" = some ⟨[.int], some .boolean⟩ := by decide +kernel
theorem ef_rm0 (m : MethodId) (x0 : Int32) (x1 : Int32) (x2 : Int32) : entryFrame m #[(.int x0), (.int x1), (.int x2)] maxLocals = mkF m 0 #[.val (.int x0), .val (.int x1), .val (.int x2), .unset, .unset, .unset, .unset] [] := by first | (simp [entryFrame, mkF, argsToLocals, Value.category, maxLocals]; done) | rfl
set_option maxRecDepth 65536 in
set_option maxHeartbeats 40000000 in
theorem rm0 (l : Launch) (Z : State) (a0 : Array Value) (hw : ∀ d ∈ tables_1, d.before a0 Z = true) (ws : List Jvm.Cond) (x0 : Int32) (x1 : Int32) (x2 : Int32) (h0 : Heap) (n0 : Nat) (Z0 : n0 ≤ h0.size) :
    MetFree l x (head1 (Jvm.Cond.code x code maxLocals ret :: ws) room_1) (fun a U => a = #[(.int x0), (.int x1), (.int x2)] ∧ Z.Warmed39 U.vm ∧ U.heap = h0) (fun _ _ _ _ _ => True) (fun _ U o U' => ∃ v L, o = .returned v ∧ (QL n0) v U'.heap L ∧ FrameEnd U o U' L room_1.cells room_1.slots) := by
  refine MetFree.of_bodySF (plainFor_of_name pn_1) hisR ?_
  intro p e s m args below meth c s₁ Bd hml0 hP hK
  obtain ⟨rfl, hZ, hh⟩ := hP
  have hx := Bd.exec
  have hby := Bd.bytes
  have hml : c.maxLocals = 7 := hml0
  have hown : s.vm.findClass "com/example/fiddlehead/fiddlehead/EventIsTextCharacterPinLaw" = some m.cls := findClass_of_methodNamed Bd.named
  have hnm := (name_of_methodNamed Bd.named Bd.method).1
  have X0 : Stand p l e room_1 s m #[(.int x0), (.int x1), (.int x2)] below meth c s₁ [] 0 0 := Stand.of_body Bd
  have e0 : s₁.heap = h0 := by rw [← hh, Bd.state]; rfl
  have N0 := Fr.nil n0
  show Ends p e below s (QL n0) room_1.cells room_1.slots (s₁.setTop (entryFrame m #[(.int x0), (.int x1), (.int x2)] maxLocals))
  rw [ef_rm0 m x0 x1 x2]
  show Ends p e below s _ _ _ (s₁.setTop (mkF m 0 #[.val (.int x0), .val (.int x1), .val (.int x2), .unset, .unset, .unset, .unset] []))
  refine Ends.by ?_ (fun _ k => XS.bipush X0.here hx rfl (hb hby at_0) k)
  show Ends p e below s _ _ _ (s₁.setTop (mkF m 2 #[.val (.int x0), .val (.int x1), .val (.int x2), .unset, .unset, .unset, .unset] [(.int (16 : Int32))]))
  obtain ⟨T1, h1, X1, e1, E1, V1, st1⟩ := newAr X0 hx hZ (hw _ (List.mem_of_getElem? (i := 0) rfl)) rfl e0 (n := 16) (z := (16 : Int32)) (cap := 16) (by decide) (by decide) (by decide) (by decide) (by decide) (Ls := #[.val (.int x0), .val (.int x1), .val (.int x2), .unset, .unset, .unset, .unset]) (S := []) (hb hby at_2)
  obtain ⟨b1, g1⟩ : ∃ z, z = h0.size := ⟨_, rfl⟩
  rw [← g1] at V1 st1
  have gn1 : n0 ≤ b1 := Nat.le_trans Z0 (Nat.le_of_eq g1.symm)
  have Zs2 : n0 ≤ h1.size := Nat.le_trans Z0 E1.1
  refine Ends.by ?_ st1
  show Ends p e below s _ _ _ (T1.setTop (mkF m 4 #[.val (.int x0), .val (.int x1), .val (.int x2), .unset, .unset, .unset, .unset] [(.ref b1)]))
  refine Ends.by ?_ (fun _ k => XS.dup X1.here hx rfl (hb hby at_4) rfl rfl k)
  show Ends p e below s _ _ _ (T1.setTop (mkF m 5 #[.val (.int x0), .val (.int x1), .val (.int x2), .unset, .unset, .unset, .unset] [(.ref b1), (.ref b1)]))
  refine Ends.by ?_ (fun _ k => XS.iconst X1.here hx rfl (hb hby at_5) k)
  show Ends p e below s _ _ _ (T1.setTop (mkF m 6 #[.val (.int x0), .val (.int x1), .val (.int x2), .unset, .unset, .unset, .unset] [(.int (0 : Int32)), (.ref b1), (.ref b1)]))
  refine Ends.by ?_ (fun _ k => XS.iconst X1.here hx rfl (hb hby at_6) k)
  show Ends p e below s _ _ _ (T1.setTop (mkF m 7 #[.val (.int x0), .val (.int x1), .val (.int x2), .unset, .unset, .unset, .unset] [(.int (0 : Int32)), (.int (0 : Int32)), (.ref b1), (.ref b1)]))
  obtain ⟨T3, h3, X3, e3, W3, V3, st3⟩ := stIA X1 hx hZ e1 V1 (j := (0 : Int32)) (x := (0 : Int32)) (by decide) (Ls := #[.val (.int x0), .val (.int x1), .val (.int x2), .unset, .unset, .unset, .unset]) (S := [(.ref b1)]) (hb hby at_7)
  have N3 := Fr.snoc X3 N0 gn1
  have Zs5 : n0 ≤ h3.size := Nat.le_trans Zs2 (Keep.of_wr W3).1
  refine Ends.by ?_ st3
  show Ends p e below s _ _ _ (T3.setTop (mkF m 8 #[.val (.int x0), .val (.int x1), .val (.int x2), .unset, .unset, .unset, .unset] [(.ref b1)]))
  refine Ends.by ?_ (fun _ k => XS.dup X3.here hx rfl (hb hby at_8) rfl rfl k)
  show Ends p e below s _ _ _ (T3.setTop (mkF m 9 #[.val (.int x0), .val (.int x1), .val (.int x2), .unset, .unset, .unset, .unset] [(.ref b1), (.ref b1)]))
  refine Ends.by ?_ (fun _ k => XS.iconst X3.here hx rfl (hb hby at_9) k)
  show Ends p e below s _ _ _ (T3.setTop (mkF m 10 #[.val (.int x0), .val (.int x1), .val (.int x2), .unset, .unset, .unset, .unset] [(.int (1 : Int32)), (.ref b1), (.ref b1)]))
  refine Ends.by ?_ (fun _ k => XS.bipush X3.here hx rfl (hb hby at_10) k)
  show Ends p e below s _ _ _ (T3.setTop (mkF m 12 #[.val (.int x0), .val (.int x1), .val (.int x2), .unset, .unset, .unset, .unset] [(.int (9 : Int32)), (.int (1 : Int32)), (.ref b1), (.ref b1)]))
  obtain ⟨T6, h6, X6, e6, W6, V6, st6⟩ := stIA X3 hx hZ e3 V3 (j := (1 : Int32)) (x := (9 : Int32)) (by decide) (Ls := #[.val (.int x0), .val (.int x1), .val (.int x2), .unset, .unset, .unset, .unset]) (S := [(.ref b1)]) (hb hby at_12)
  have N6 := Fr.snoc X6 N3 gn1
  have Zs8 : n0 ≤ h6.size := Nat.le_trans Zs5 (Keep.of_wr W6).1
  refine Ends.by ?_ st6
  show Ends p e below s _ _ _ (T6.setTop (mkF m 13 #[.val (.int x0), .val (.int x1), .val (.int x2), .unset, .unset, .unset, .unset] [(.ref b1)]))
  refine Ends.by ?_ (fun _ k => XS.dup X6.here hx rfl (hb hby at_13) rfl rfl k)
  show Ends p e below s _ _ _ (T6.setTop (mkF m 14 #[.val (.int x0), .val (.int x1), .val (.int x2), .unset, .unset, .unset, .unset] [(.ref b1), (.ref b1)]))
  refine Ends.by ?_ (fun _ k => XS.iconst X6.here hx rfl (hb hby at_14) k)
  show Ends p e below s _ _ _ (T6.setTop (mkF m 15 #[.val (.int x0), .val (.int x1), .val (.int x2), .unset, .unset, .unset, .unset] [(.int (2 : Int32)), (.ref b1), (.ref b1)]))
  refine Ends.by ?_ (fun _ k => XS.bipush X6.here hx rfl (hb hby at_15) k)
  show Ends p e below s _ _ _ (T6.setTop (mkF m 17 #[.val (.int x0), .val (.int x1), .val (.int x2), .unset, .unset, .unset, .unset] [(.int (10 : Int32)), (.int (2 : Int32)), (.ref b1), (.ref b1)]))
  obtain ⟨T9, h9, X9, e9, W9, V9, st9⟩ := stIA X6 hx hZ e6 V6 (j := (2 : Int32)) (x := (10 : Int32)) (by decide) (Ls := #[.val (.int x0), .val (.int x1), .val (.int x2), .unset, .unset, .unset, .unset]) (S := [(.ref b1)]) (hb hby at_17)
  have N9 := Fr.snoc X9 N6 gn1
  have Zs11 : n0 ≤ h9.size := Nat.le_trans Zs8 (Keep.of_wr W9).1
  refine Ends.by ?_ st9
  show Ends p e below s _ _ _ (T9.setTop (mkF m 18 #[.val (.int x0), .val (.int x1), .val (.int x2), .unset, .unset, .unset, .unset] [(.ref b1)]))
  refine Ends.by ?_ (fun _ k => XS.dup X9.here hx rfl (hb hby at_18) rfl rfl k)
  show Ends p e below s _ _ _ (T9.setTop (mkF m 19 #[.val (.int x0), .val (.int x1), .val (.int x2), .unset, .unset, .unset, .unset] [(.ref b1), (.ref b1)]))
  refine Ends.by ?_ (fun _ k => XS.iconst X9.here hx rfl (hb hby at_19) k)
  show Ends p e below s _ _ _ (T9.setTop (mkF m 20 #[.val (.int x0), .val (.int x1), .val (.int x2), .unset, .unset, .unset, .unset] [(.int (3 : Int32)), (.ref b1), (.ref b1)]))
  refine Ends.by ?_ (fun _ k => XS.bipush X9.here hx rfl (hb hby at_20) k)
  show Ends p e below s _ _ _ (T9.setTop (mkF m 22 #[.val (.int x0), .val (.int x1), .val (.int x2), .unset, .unset, .unset, .unset] [(.int (13 : Int32)), (.int (3 : Int32)), (.ref b1), (.ref b1)]))
  obtain ⟨T12, h12, X12, e12, W12, V12, st12⟩ := stIA X9 hx hZ e9 V9 (j := (3 : Int32)) (x := (13 : Int32)) (by decide) (Ls := #[.val (.int x0), .val (.int x1), .val (.int x2), .unset, .unset, .unset, .unset]) (S := [(.ref b1)]) (hb hby at_22)
  have N12 := Fr.snoc X12 N9 gn1
  have Zs14 : n0 ≤ h12.size := Nat.le_trans Zs11 (Keep.of_wr W12).1
  refine Ends.by ?_ st12
  show Ends p e below s _ _ _ (T12.setTop (mkF m 23 #[.val (.int x0), .val (.int x1), .val (.int x2), .unset, .unset, .unset, .unset] [(.ref b1)]))
  refine Ends.by ?_ (fun _ k => XS.dup X12.here hx rfl (hb hby at_23) rfl rfl k)
  show Ends p e below s _ _ _ (T12.setTop (mkF m 24 #[.val (.int x0), .val (.int x1), .val (.int x2), .unset, .unset, .unset, .unset] [(.ref b1), (.ref b1)]))
  refine Ends.by ?_ (fun _ k => XS.iconst X12.here hx rfl (hb hby at_24) k)
  show Ends p e below s _ _ _ (T12.setTop (mkF m 25 #[.val (.int x0), .val (.int x1), .val (.int x2), .unset, .unset, .unset, .unset] [(.int (4 : Int32)), (.ref b1), (.ref b1)]))
  refine Ends.by ?_ (fun _ k => XS.bipush X12.here hx rfl (hb hby at_25) k)
  show Ends p e below s _ _ _ (T12.setTop (mkF m 27 #[.val (.int x0), .val (.int x1), .val (.int x2), .unset, .unset, .unset, .unset] [(.int (31 : Int32)), (.int (4 : Int32)), (.ref b1), (.ref b1)]))
  obtain ⟨T15, h15, X15, e15, W15, V15, st15⟩ := stIA X12 hx hZ e12 V12 (j := (4 : Int32)) (x := (31 : Int32)) (by decide) (Ls := #[.val (.int x0), .val (.int x1), .val (.int x2), .unset, .unset, .unset, .unset]) (S := [(.ref b1)]) (hb hby at_27)
  have N15 := Fr.snoc X15 N12 gn1
  have Zs17 : n0 ≤ h15.size := Nat.le_trans Zs14 (Keep.of_wr W15).1
  refine Ends.by ?_ st15
  show Ends p e below s _ _ _ (T15.setTop (mkF m 28 #[.val (.int x0), .val (.int x1), .val (.int x2), .unset, .unset, .unset, .unset] [(.ref b1)]))
  refine Ends.by ?_ (fun _ k => XS.dup X15.here hx rfl (hb hby at_28) rfl rfl k)
  show Ends p e below s _ _ _ (T15.setTop (mkF m 29 #[.val (.int x0), .val (.int x1), .val (.int x2), .unset, .unset, .unset, .unset] [(.ref b1), (.ref b1)]))
  refine Ends.by ?_ (fun _ k => XS.iconst X15.here hx rfl (hb hby at_29) k)
  show Ends p e below s _ _ _ (T15.setTop (mkF m 30 #[.val (.int x0), .val (.int x1), .val (.int x2), .unset, .unset, .unset, .unset] [(.int (5 : Int32)), (.ref b1), (.ref b1)]))
  refine Ends.by ?_ (fun _ k => XS.bipush X15.here hx rfl (hb hby at_30) k)
  show Ends p e below s _ _ _ (T15.setTop (mkF m 32 #[.val (.int x0), .val (.int x1), .val (.int x2), .unset, .unset, .unset, .unset] [(.int (32 : Int32)), (.int (5 : Int32)), (.ref b1), (.ref b1)]))
  obtain ⟨T18, h18, X18, e18, W18, V18, st18⟩ := stIA X15 hx hZ e15 V15 (j := (5 : Int32)) (x := (32 : Int32)) (by decide) (Ls := #[.val (.int x0), .val (.int x1), .val (.int x2), .unset, .unset, .unset, .unset]) (S := [(.ref b1)]) (hb hby at_32)
  have N18 := Fr.snoc X18 N15 gn1
  have Zs20 : n0 ≤ h18.size := Nat.le_trans Zs17 (Keep.of_wr W18).1
  refine Ends.by ?_ st18
  show Ends p e below s _ _ _ (T18.setTop (mkF m 33 #[.val (.int x0), .val (.int x1), .val (.int x2), .unset, .unset, .unset, .unset] [(.ref b1)]))
  refine Ends.by ?_ (fun _ k => XS.dup X18.here hx rfl (hb hby at_33) rfl rfl k)
  show Ends p e below s _ _ _ (T18.setTop (mkF m 34 #[.val (.int x0), .val (.int x1), .val (.int x2), .unset, .unset, .unset, .unset] [(.ref b1), (.ref b1)]))
  refine Ends.by ?_ (fun _ k => XS.bipush X18.here hx rfl (hb hby at_34) k)
  show Ends p e below s _ _ _ (T18.setTop (mkF m 36 #[.val (.int x0), .val (.int x1), .val (.int x2), .unset, .unset, .unset, .unset] [(.int (6 : Int32)), (.ref b1), (.ref b1)]))
  refine Ends.by ?_ (X18.ldcInt hx hown (mvT hZ (hw _ (List.mem_of_getElem? (i := 1) rfl))) (g := (mkF m 36 #[.val (.int x0), .val (.int x1), .val (.int x2), .unset, .unset, .unset, .unset] [(.int (6 : Int32)), (.ref b1), (.ref b1)])) rfl (hb hby at_36))
  show Ends p e below s _ _ _ (T18.setTop (mkF m 38 #[.val (.int x0), .val (.int x1), .val (.int x2), .unset, .unset, .unset, .unset] [(.int (55295 : Int32)), (.int (6 : Int32)), (.ref b1), (.ref b1)]))
  obtain ⟨T21, h21, X21, e21, W21, V21, st21⟩ := stIA X18 hx hZ e18 V18 (j := (6 : Int32)) (x := (55295 : Int32)) (by decide) (Ls := #[.val (.int x0), .val (.int x1), .val (.int x2), .unset, .unset, .unset, .unset]) (S := [(.ref b1)]) (hb hby at_38)
  have N21 := Fr.snoc X21 N18 gn1
  have Zs23 : n0 ≤ h21.size := Nat.le_trans Zs20 (Keep.of_wr W21).1
  refine Ends.by ?_ st21
  show Ends p e below s _ _ _ (T21.setTop (mkF m 39 #[.val (.int x0), .val (.int x1), .val (.int x2), .unset, .unset, .unset, .unset] [(.ref b1)]))
  refine Ends.by ?_ (fun _ k => XS.dup X21.here hx rfl (hb hby at_39) rfl rfl k)
  show Ends p e below s _ _ _ (T21.setTop (mkF m 40 #[.val (.int x0), .val (.int x1), .val (.int x2), .unset, .unset, .unset, .unset] [(.ref b1), (.ref b1)]))
  refine Ends.by ?_ (fun _ k => XS.bipush X21.here hx rfl (hb hby at_40) k)
  show Ends p e below s _ _ _ (T21.setTop (mkF m 42 #[.val (.int x0), .val (.int x1), .val (.int x2), .unset, .unset, .unset, .unset] [(.int (7 : Int32)), (.ref b1), (.ref b1)]))
  refine Ends.by ?_ (X21.ldcInt hx hown (mvT hZ (hw _ (List.mem_of_getElem? (i := 2) rfl))) (g := (mkF m 42 #[.val (.int x0), .val (.int x1), .val (.int x2), .unset, .unset, .unset, .unset] [(.int (7 : Int32)), (.ref b1), (.ref b1)])) rfl (hb hby at_42))
  show Ends p e below s _ _ _ (T21.setTop (mkF m 44 #[.val (.int x0), .val (.int x1), .val (.int x2), .unset, .unset, .unset, .unset] [(.int (55296 : Int32)), (.int (7 : Int32)), (.ref b1), (.ref b1)]))
  obtain ⟨T24, h24, X24, e24, W24, V24, st24⟩ := stIA X21 hx hZ e21 V21 (j := (7 : Int32)) (x := (55296 : Int32)) (by decide) (Ls := #[.val (.int x0), .val (.int x1), .val (.int x2), .unset, .unset, .unset, .unset]) (S := [(.ref b1)]) (hb hby at_44)
  have N24 := Fr.snoc X24 N21 gn1
  have Zs26 : n0 ≤ h24.size := Nat.le_trans Zs23 (Keep.of_wr W24).1
  refine Ends.by ?_ st24
  show Ends p e below s _ _ _ (T24.setTop (mkF m 45 #[.val (.int x0), .val (.int x1), .val (.int x2), .unset, .unset, .unset, .unset] [(.ref b1)]))
  refine Ends.by ?_ (fun _ k => XS.dup X24.here hx rfl (hb hby at_45) rfl rfl k)
  show Ends p e below s _ _ _ (T24.setTop (mkF m 46 #[.val (.int x0), .val (.int x1), .val (.int x2), .unset, .unset, .unset, .unset] [(.ref b1), (.ref b1)]))
  refine Ends.by ?_ (fun _ k => XS.bipush X24.here hx rfl (hb hby at_46) k)
  show Ends p e below s _ _ _ (T24.setTop (mkF m 48 #[.val (.int x0), .val (.int x1), .val (.int x2), .unset, .unset, .unset, .unset] [(.int (8 : Int32)), (.ref b1), (.ref b1)]))
  refine Ends.by ?_ (X24.ldcInt hx hown (mvT hZ (hw _ (List.mem_of_getElem? (i := 3) rfl))) (g := (mkF m 48 #[.val (.int x0), .val (.int x1), .val (.int x2), .unset, .unset, .unset, .unset] [(.int (8 : Int32)), (.ref b1), (.ref b1)])) rfl (hb hby at_48))
  show Ends p e below s _ _ _ (T24.setTop (mkF m 50 #[.val (.int x0), .val (.int x1), .val (.int x2), .unset, .unset, .unset, .unset] [(.int (57343 : Int32)), (.int (8 : Int32)), (.ref b1), (.ref b1)]))
  obtain ⟨T27, h27, X27, e27, W27, V27, st27⟩ := stIA X24 hx hZ e24 V24 (j := (8 : Int32)) (x := (57343 : Int32)) (by decide) (Ls := #[.val (.int x0), .val (.int x1), .val (.int x2), .unset, .unset, .unset, .unset]) (S := [(.ref b1)]) (hb hby at_50)
  have N27 := Fr.snoc X27 N24 gn1
  have Zs29 : n0 ≤ h27.size := Nat.le_trans Zs26 (Keep.of_wr W27).1
  refine Ends.by ?_ st27
  show Ends p e below s _ _ _ (T27.setTop (mkF m 51 #[.val (.int x0), .val (.int x1), .val (.int x2), .unset, .unset, .unset, .unset] [(.ref b1)]))
  refine Ends.by ?_ (fun _ k => XS.dup X27.here hx rfl (hb hby at_51) rfl rfl k)
  show Ends p e below s _ _ _ (T27.setTop (mkF m 52 #[.val (.int x0), .val (.int x1), .val (.int x2), .unset, .unset, .unset, .unset] [(.ref b1), (.ref b1)]))
  refine Ends.by ?_ (fun _ k => XS.bipush X27.here hx rfl (hb hby at_52) k)
  show Ends p e below s _ _ _ (T27.setTop (mkF m 54 #[.val (.int x0), .val (.int x1), .val (.int x2), .unset, .unset, .unset, .unset] [(.int (9 : Int32)), (.ref b1), (.ref b1)]))
  refine Ends.by ?_ (X27.ldcInt hx hown (mvT hZ (hw _ (List.mem_of_getElem? (i := 4) rfl))) (g := (mkF m 54 #[.val (.int x0), .val (.int x1), .val (.int x2), .unset, .unset, .unset, .unset] [(.int (9 : Int32)), (.ref b1), (.ref b1)])) rfl (hb hby at_54))
  show Ends p e below s _ _ _ (T27.setTop (mkF m 56 #[.val (.int x0), .val (.int x1), .val (.int x2), .unset, .unset, .unset, .unset] [(.int (57344 : Int32)), (.int (9 : Int32)), (.ref b1), (.ref b1)]))
  obtain ⟨T30, h30, X30, e30, W30, V30, st30⟩ := stIA X27 hx hZ e27 V27 (j := (9 : Int32)) (x := (57344 : Int32)) (by decide) (Ls := #[.val (.int x0), .val (.int x1), .val (.int x2), .unset, .unset, .unset, .unset]) (S := [(.ref b1)]) (hb hby at_56)
  have N30 := Fr.snoc X30 N27 gn1
  have Zs32 : n0 ≤ h30.size := Nat.le_trans Zs29 (Keep.of_wr W30).1
  refine Ends.by ?_ st30
  show Ends p e below s _ _ _ (T30.setTop (mkF m 57 #[.val (.int x0), .val (.int x1), .val (.int x2), .unset, .unset, .unset, .unset] [(.ref b1)]))
  refine Ends.by ?_ (fun _ k => XS.dup X30.here hx rfl (hb hby at_57) rfl rfl k)
  show Ends p e below s _ _ _ (T30.setTop (mkF m 58 #[.val (.int x0), .val (.int x1), .val (.int x2), .unset, .unset, .unset, .unset] [(.ref b1), (.ref b1)]))
  refine Ends.by ?_ (fun _ k => XS.bipush X30.here hx rfl (hb hby at_58) k)
  show Ends p e below s _ _ _ (T30.setTop (mkF m 60 #[.val (.int x0), .val (.int x1), .val (.int x2), .unset, .unset, .unset, .unset] [(.int (10 : Int32)), (.ref b1), (.ref b1)]))
  refine Ends.by ?_ (X30.ldcInt hx hown (mvT hZ (hw _ (List.mem_of_getElem? (i := 5) rfl))) (g := (mkF m 60 #[.val (.int x0), .val (.int x1), .val (.int x2), .unset, .unset, .unset, .unset] [(.int (10 : Int32)), (.ref b1), (.ref b1)])) rfl (hb hby at_60))
  show Ends p e below s _ _ _ (T30.setTop (mkF m 62 #[.val (.int x0), .val (.int x1), .val (.int x2), .unset, .unset, .unset, .unset] [(.int (65533 : Int32)), (.int (10 : Int32)), (.ref b1), (.ref b1)]))
  obtain ⟨T33, h33, X33, e33, W33, V33, st33⟩ := stIA X30 hx hZ e30 V30 (j := (10 : Int32)) (x := (65533 : Int32)) (by decide) (Ls := #[.val (.int x0), .val (.int x1), .val (.int x2), .unset, .unset, .unset, .unset]) (S := [(.ref b1)]) (hb hby at_62)
  have N33 := Fr.snoc X33 N30 gn1
  have Zs35 : n0 ≤ h33.size := Nat.le_trans Zs32 (Keep.of_wr W33).1
  refine Ends.by ?_ st33
  show Ends p e below s _ _ _ (T33.setTop (mkF m 63 #[.val (.int x0), .val (.int x1), .val (.int x2), .unset, .unset, .unset, .unset] [(.ref b1)]))
  refine Ends.by ?_ (fun _ k => XS.dup X33.here hx rfl (hb hby at_63) rfl rfl k)
  show Ends p e below s _ _ _ (T33.setTop (mkF m 64 #[.val (.int x0), .val (.int x1), .val (.int x2), .unset, .unset, .unset, .unset] [(.ref b1), (.ref b1)]))
  refine Ends.by ?_ (fun _ k => XS.bipush X33.here hx rfl (hb hby at_64) k)
  show Ends p e below s _ _ _ (T33.setTop (mkF m 66 #[.val (.int x0), .val (.int x1), .val (.int x2), .unset, .unset, .unset, .unset] [(.int (11 : Int32)), (.ref b1), (.ref b1)]))
  refine Ends.by ?_ (X33.ldcInt hx hown (mvT hZ (hw _ (List.mem_of_getElem? (i := 6) rfl))) (g := (mkF m 66 #[.val (.int x0), .val (.int x1), .val (.int x2), .unset, .unset, .unset, .unset] [(.int (11 : Int32)), (.ref b1), (.ref b1)])) rfl (hb hby at_66))
  show Ends p e below s _ _ _ (T33.setTop (mkF m 68 #[.val (.int x0), .val (.int x1), .val (.int x2), .unset, .unset, .unset, .unset] [(.int (65534 : Int32)), (.int (11 : Int32)), (.ref b1), (.ref b1)]))
  obtain ⟨T36, h36, X36, e36, W36, V36, st36⟩ := stIA X33 hx hZ e33 V33 (j := (11 : Int32)) (x := (65534 : Int32)) (by decide) (Ls := #[.val (.int x0), .val (.int x1), .val (.int x2), .unset, .unset, .unset, .unset]) (S := [(.ref b1)]) (hb hby at_68)
  have N36 := Fr.snoc X36 N33 gn1
  have Zs38 : n0 ≤ h36.size := Nat.le_trans Zs35 (Keep.of_wr W36).1
  refine Ends.by ?_ st36
  show Ends p e below s _ _ _ (T36.setTop (mkF m 69 #[.val (.int x0), .val (.int x1), .val (.int x2), .unset, .unset, .unset, .unset] [(.ref b1)]))
  refine Ends.by ?_ (fun _ k => XS.dup X36.here hx rfl (hb hby at_69) rfl rfl k)
  show Ends p e below s _ _ _ (T36.setTop (mkF m 70 #[.val (.int x0), .val (.int x1), .val (.int x2), .unset, .unset, .unset, .unset] [(.ref b1), (.ref b1)]))
  refine Ends.by ?_ (fun _ k => XS.bipush X36.here hx rfl (hb hby at_70) k)
  show Ends p e below s _ _ _ (T36.setTop (mkF m 72 #[.val (.int x0), .val (.int x1), .val (.int x2), .unset, .unset, .unset, .unset] [(.int (12 : Int32)), (.ref b1), (.ref b1)]))
  refine Ends.by ?_ (X36.ldcInt hx hown (mvT hZ (hw _ (List.mem_of_getElem? (i := 7) rfl))) (g := (mkF m 72 #[.val (.int x0), .val (.int x1), .val (.int x2), .unset, .unset, .unset, .unset] [(.int (12 : Int32)), (.ref b1), (.ref b1)])) rfl (hb hby at_72))
  show Ends p e below s _ _ _ (T36.setTop (mkF m 74 #[.val (.int x0), .val (.int x1), .val (.int x2), .unset, .unset, .unset, .unset] [(.int (65535 : Int32)), (.int (12 : Int32)), (.ref b1), (.ref b1)]))
  obtain ⟨T39, h39, X39, e39, W39, V39, st39⟩ := stIA X36 hx hZ e36 V36 (j := (12 : Int32)) (x := (65535 : Int32)) (by decide) (Ls := #[.val (.int x0), .val (.int x1), .val (.int x2), .unset, .unset, .unset, .unset]) (S := [(.ref b1)]) (hb hby at_74)
  have N39 := Fr.snoc X39 N36 gn1
  have Zs41 : n0 ≤ h39.size := Nat.le_trans Zs38 (Keep.of_wr W39).1
  refine Ends.by ?_ st39
  show Ends p e below s _ _ _ (T39.setTop (mkF m 75 #[.val (.int x0), .val (.int x1), .val (.int x2), .unset, .unset, .unset, .unset] [(.ref b1)]))
  refine Ends.by ?_ (fun _ k => XS.dup X39.here hx rfl (hb hby at_75) rfl rfl k)
  show Ends p e below s _ _ _ (T39.setTop (mkF m 76 #[.val (.int x0), .val (.int x1), .val (.int x2), .unset, .unset, .unset, .unset] [(.ref b1), (.ref b1)]))
  refine Ends.by ?_ (fun _ k => XS.bipush X39.here hx rfl (hb hby at_76) k)
  show Ends p e below s _ _ _ (T39.setTop (mkF m 78 #[.val (.int x0), .val (.int x1), .val (.int x2), .unset, .unset, .unset, .unset] [(.int (13 : Int32)), (.ref b1), (.ref b1)]))
  refine Ends.by ?_ (X39.ldcInt hx hown (mvT hZ (hw _ (List.mem_of_getElem? (i := 8) rfl))) (g := (mkF m 78 #[.val (.int x0), .val (.int x1), .val (.int x2), .unset, .unset, .unset, .unset] [(.int (13 : Int32)), (.ref b1), (.ref b1)])) rfl (hb hby at_78))
  show Ends p e below s _ _ _ (T39.setTop (mkF m 80 #[.val (.int x0), .val (.int x1), .val (.int x2), .unset, .unset, .unset, .unset] [(.int (65536 : Int32)), (.int (13 : Int32)), (.ref b1), (.ref b1)]))
  obtain ⟨T42, h42, X42, e42, W42, V42, st42⟩ := stIA X39 hx hZ e39 V39 (j := (13 : Int32)) (x := (65536 : Int32)) (by decide) (Ls := #[.val (.int x0), .val (.int x1), .val (.int x2), .unset, .unset, .unset, .unset]) (S := [(.ref b1)]) (hb hby at_80)
  have N42 := Fr.snoc X42 N39 gn1
  have Zs44 : n0 ≤ h42.size := Nat.le_trans Zs41 (Keep.of_wr W42).1
  refine Ends.by ?_ st42
  show Ends p e below s _ _ _ (T42.setTop (mkF m 81 #[.val (.int x0), .val (.int x1), .val (.int x2), .unset, .unset, .unset, .unset] [(.ref b1)]))
  refine Ends.by ?_ (fun _ k => XS.dup X42.here hx rfl (hb hby at_81) rfl rfl k)
  show Ends p e below s _ _ _ (T42.setTop (mkF m 82 #[.val (.int x0), .val (.int x1), .val (.int x2), .unset, .unset, .unset, .unset] [(.ref b1), (.ref b1)]))
  refine Ends.by ?_ (fun _ k => XS.bipush X42.here hx rfl (hb hby at_82) k)
  show Ends p e below s _ _ _ (T42.setTop (mkF m 84 #[.val (.int x0), .val (.int x1), .val (.int x2), .unset, .unset, .unset, .unset] [(.int (14 : Int32)), (.ref b1), (.ref b1)]))
  refine Ends.by ?_ (X42.ldcInt hx hown (mvT hZ (hw _ (List.mem_of_getElem? (i := 9) rfl))) (g := (mkF m 84 #[.val (.int x0), .val (.int x1), .val (.int x2), .unset, .unset, .unset, .unset] [(.int (14 : Int32)), (.ref b1), (.ref b1)])) rfl (hb hby at_84))
  show Ends p e below s _ _ _ (T42.setTop (mkF m 86 #[.val (.int x0), .val (.int x1), .val (.int x2), .unset, .unset, .unset, .unset] [(.int (1114111 : Int32)), (.int (14 : Int32)), (.ref b1), (.ref b1)]))
  obtain ⟨T45, h45, X45, e45, W45, V45, st45⟩ := stIA X42 hx hZ e42 V42 (j := (14 : Int32)) (x := (1114111 : Int32)) (by decide) (Ls := #[.val (.int x0), .val (.int x1), .val (.int x2), .unset, .unset, .unset, .unset]) (S := [(.ref b1)]) (hb hby at_86)
  have N45 := Fr.snoc X45 N42 gn1
  have Zs47 : n0 ≤ h45.size := Nat.le_trans Zs44 (Keep.of_wr W45).1
  refine Ends.by ?_ st45
  show Ends p e below s _ _ _ (T45.setTop (mkF m 87 #[.val (.int x0), .val (.int x1), .val (.int x2), .unset, .unset, .unset, .unset] [(.ref b1)]))
  refine Ends.by ?_ (fun _ k => XS.dup X45.here hx rfl (hb hby at_87) rfl rfl k)
  show Ends p e below s _ _ _ (T45.setTop (mkF m 88 #[.val (.int x0), .val (.int x1), .val (.int x2), .unset, .unset, .unset, .unset] [(.ref b1), (.ref b1)]))
  refine Ends.by ?_ (fun _ k => XS.bipush X45.here hx rfl (hb hby at_88) k)
  show Ends p e below s _ _ _ (T45.setTop (mkF m 90 #[.val (.int x0), .val (.int x1), .val (.int x2), .unset, .unset, .unset, .unset] [(.int (15 : Int32)), (.ref b1), (.ref b1)]))
  refine Ends.by ?_ (X45.ldcInt hx hown (mvT hZ (hw _ (List.mem_of_getElem? (i := 10) rfl))) (g := (mkF m 90 #[.val (.int x0), .val (.int x1), .val (.int x2), .unset, .unset, .unset, .unset] [(.int (15 : Int32)), (.ref b1), (.ref b1)])) rfl (hb hby at_90))
  show Ends p e below s _ _ _ (T45.setTop (mkF m 92 #[.val (.int x0), .val (.int x1), .val (.int x2), .unset, .unset, .unset, .unset] [(.int (1114112 : Int32)), (.int (15 : Int32)), (.ref b1), (.ref b1)]))
  obtain ⟨T48, h48, X48, e48, W48, V48, st48⟩ := stIA X45 hx hZ e45 V45 (j := (15 : Int32)) (x := (1114112 : Int32)) (by decide) (Ls := #[.val (.int x0), .val (.int x1), .val (.int x2), .unset, .unset, .unset, .unset]) (S := [(.ref b1)]) (hb hby at_92)
  have N48 := Fr.snoc X48 N45 gn1
  have Zs50 : n0 ≤ h48.size := Nat.le_trans Zs47 (Keep.of_wr W48).1
  refine Ends.by ?_ st48
  show Ends p e below s _ _ _ (T48.setTop (mkF m 93 #[.val (.int x0), .val (.int x1), .val (.int x2), .unset, .unset, .unset, .unset] [(.ref b1)]))
  refine Ends.by ?_ (fun _ k => XS.astoreN X48.here hx rfl (hb hby at_93) rfl rfl (l' := #[.val (.int x0), .val (.int x1), .val (.int x2), .val (.ref b1), .unset, .unset, .unset]) rfl k)
  show Ends p e below s _ _ _ (T48.setTop (mkF m 94 #[.val (.int x0), .val (.int x1), .val (.int x2), .val (.ref b1), .unset, .unset, .unset] []))
  refine Ends.by ?_ (fun _ k => XS.aloadN X48.here hx rfl (hb hby at_94) rfl rfl k)
  show Ends p e below s _ _ _ (T48.setTop (mkF m 95 #[.val (.int x0), .val (.int x1), .val (.int x2), .val (.ref b1), .unset, .unset, .unset] [(.ref b1)]))
  refine Ends.by ?_ (fun _ k => XS.iloadN X48.here hx rfl (hb hby at_95) rfl k)
  show Ends p e below s _ _ _ (T48.setTop (mkF m 96 #[.val (.int x0), .val (.int x1), .val (.int x2), .val (.ref b1), .unset, .unset, .unset] [(.int x1), (.ref b1)]))
  refine Ends.by ?_ (fun _ k => XS.bipush X48.here hx rfl (hb hby at_96) k)
  show Ends p e below s _ _ _ (T48.setTop (mkF m 98 #[.val (.int x0), .val (.int x1), .val (.int x2), .val (.ref b1), .unset, .unset, .unset] [(.int (15 : Int32)), (.int x1), (.ref b1)]))
  refine Ends.by ?_ (fun _ k => XS.iand X48.here hx rfl (hb hby at_98) rfl k)
  show Ends p e below s _ _ _ (T48.setTop (mkF m 99 #[.val (.int x0), .val (.int x1), .val (.int x2), .val (.ref b1), .unset, .unset, .unset] [(.int (x1 &&& (15 : Int32))), (.ref b1)]))
  refine Ends.iald ?_ X48 hx hZ e48 V48 (own_in15 x1) (hb hby at_99)
  show Ends p e below s _ _ _ (T48.setTop (mkF m 100 #[.val (.int x0), .val (.int x1), .val (.int x2), .val (.ref b1), .unset, .unset, .unset] [(.int ((upd (upd (upd (upd (upd (upd (upd (upd (upd (upd (upd (upd (upd (upd (upd (upd (fun _ => (0 : Int32)) 0 (0 : Int32)) 1 (9 : Int32)) 2 (10 : Int32)) 3 (13 : Int32)) 4 (31 : Int32)) 5 (32 : Int32)) 6 (55295 : Int32)) 7 (55296 : Int32)) 8 (57343 : Int32)) 9 (57344 : Int32)) 10 (65533 : Int32)) 11 (65534 : Int32)) 12 (65535 : Int32)) 13 (65536 : Int32)) 14 (1114111 : Int32)) 15 (1114112 : Int32)) ((x1 &&& (15 : Int32))).toNatClampNeg))]))
  obtain ⟨y100, hy100⟩ : ∃ z : Int32, z = ((upd (upd (upd (upd (upd (upd (upd (upd (upd (upd (upd (upd (upd (upd (upd (upd (fun _ => (0 : Int32)) 0 (0 : Int32)) 1 (9 : Int32)) 2 (10 : Int32)) 3 (13 : Int32)) 4 (31 : Int32)) 5 (32 : Int32)) 6 (55295 : Int32)) 7 (55296 : Int32)) 8 (57343 : Int32)) 9 (57344 : Int32)) 10 (65533 : Int32)) 11 (65534 : Int32)) 12 (65535 : Int32)) 13 (65536 : Int32)) 14 (1114111 : Int32)) 15 (1114112 : Int32)) ((x1 &&& (15 : Int32))).toNatClampNeg) := ⟨_, rfl⟩
  rw [← hy100]
  show Ends p e below s _ _ _ (T48.setTop (mkF m 100 #[.val (.int x0), .val (.int x1), .val (.int x2), .val (.ref b1), .unset, .unset, .unset] [(.int y100)]))
  refine Ends.by ?_ (fun _ k => XS.iloadN X48.here hx rfl (hb hby at_100) rfl k)
  show Ends p e below s _ _ _ (T48.setTop (mkF m 101 #[.val (.int x0), .val (.int x1), .val (.int x2), .val (.ref b1), .unset, .unset, .unset] [(.int x2), (.int y100)]))
  refine Ends.by ?_ (fun _ k => XS.iconst X48.here hx rfl (hb hby at_101) k)
  show Ends p e below s _ _ _ (T48.setTop (mkF m 102 #[.val (.int x0), .val (.int x1), .val (.int x2), .val (.ref b1), .unset, .unset, .unset] [(.int (3 : Int32)), (.int x2), (.int y100)]))
  refine Ends.by ?_ (fun _ k => XS.iand X48.here hx rfl (hb hby at_102) rfl k)
  show Ends p e below s _ _ _ (T48.setTop (mkF m 103 #[.val (.int x0), .val (.int x1), .val (.int x2), .val (.ref b1), .unset, .unset, .unset] [(.int (x2 &&& (3 : Int32))), (.int y100)]))
  refine Ends.by ?_ (fun _ k => XS.iconst X48.here hx rfl (hb hby at_103) k)
  show Ends p e below s _ _ _ (T48.setTop (mkF m 104 #[.val (.int x0), .val (.int x1), .val (.int x2), .val (.ref b1), .unset, .unset, .unset] [(.int (1 : Int32)), (.int (x2 &&& (3 : Int32))), (.int y100)]))
  refine Ends.by ?_ (fun _ k => XS.isub X48.here hx rfl (hb hby at_104) rfl k)
  show Ends p e below s _ _ _ (T48.setTop (mkF m 105 #[.val (.int x0), .val (.int x1), .val (.int x2), .val (.ref b1), .unset, .unset, .unset] [(.int ((x2 &&& (3 : Int32)) - (1 : Int32))), (.int y100)]))
  refine Ends.by ?_ (fun _ k => XS.iadd X48.here hx rfl (hb hby at_105) rfl k)
  show Ends p e below s _ _ _ (T48.setTop (mkF m 106 #[.val (.int x0), .val (.int x1), .val (.int x2), .val (.ref b1), .unset, .unset, .unset] [(.int (y100 + ((x2 &&& (3 : Int32)) - (1 : Int32))))]))
  refine Ends.by ?_ (fun _ k => XS.istore X48.here hx rfl (hb hby at_106) rfl (l' := #[.val (.int x0), .val (.int x1), .val (.int x2), .val (.ref b1), .val (.int (y100 + ((x2 &&& (3 : Int32)) - (1 : Int32)))), .unset, .unset]) rfl k)
  show Ends p e below s _ _ _ (T48.setTop (mkF m 108 #[.val (.int x0), .val (.int x1), .val (.int x2), .val (.ref b1), .val (.int (y100 + ((x2 &&& (3 : Int32)) - (1 : Int32)))), .unset, .unset] []))
  refine Ends.by ?_ (fun _ k => XS.iloadN X48.here hx rfl (hb hby at_108) rfl k)
  show Ends p e below s _ _ _ (T48.setTop (mkF m 109 #[.val (.int x0), .val (.int x1), .val (.int x2), .val (.ref b1), .val (.int (y100 + ((x2 &&& (3 : Int32)) - (1 : Int32)))), .unset, .unset] [(.int x0)]))
  obtain ⟨v51, _, ⟨T51, L51, k51, n51⟩, -, X51, ⟨Lc51, hQ51, l51, y51, z51⟩, st51⟩ := Jvm.LawKit.callS X48 hx (y := (⟨"com/example/fiddlehead/fiddlehead/Event", "isTextCharacter", "(I)Z"⟩ : MethodName)) hown (mvT hZ (hw _ (List.mem_of_getElem? (i := 11) rfl))) (mvT hZ (hw _ (List.mem_of_getElem? (i := 12) rfl))) (mvT hZ (hw _ (List.mem_of_getElem? (i := 13) rfl))) (mvT hZ (hw _ (List.mem_of_getElem? (i := 14) rfl))) (by decide) (backOf (W := 0) (rm1 l Z a0 hw [] x0 h48 n0 Zs50) hZ (hw _ (List.mem_of_getElem? (i := 14) rfl)) (hw _ (List.mem_of_getElem? (i := 13) rfl)) (by decide) (by decide)) (g := (mkF m 109 #[.val (.int x0), .val (.int x1), .val (.int x2), .val (.ref b1), .val (.int (y100 + ((x2 &&& (3 : Int32)) - (1 : Int32)))), .unset, .unset] [(.int x0)])) rfl (by rw [hml]; rfl) (argsL := [(.int x0)]) (rest := []) (lenOf pd_0 rfl) rfl (by show 2 * 0 + _ ≤ _; exact Nat.le_of_eq rfl) (hb hby at_109) (fun _ _ => ⟨rfl, e48, (by decide : 1 + 0 ≤ _), (by decide : 16 + 0 ≤ _)⟩)
  dsimp only [Pt.U, Pt.locs, Pt.cells, Pt.slots] at X51 l51 y51 z51 st51 hQ51
  subst l51 y51 z51
  obtain ⟨rfl, N51q, e51⟩ := hQ51
  have N51 := Fr.app N48 N51q
  refine Ends.by ?_ st51
  show Ends p e below s _ _ _ (T51.setTop (mkF m 112 #[.val (.int x0), .val (.int x1), .val (.int x2), .val (.ref b1), .val (.int (y100 + ((x2 &&& (3 : Int32)) - (1 : Int32)))), .unset, .unset] [(.int (f1 x0))]))
  refine Ends.by ?_ (fun _ k => XS.iloadN X51.here hx rfl (hb hby at_112) rfl k)
  show Ends p e below s _ _ _ (T51.setTop (mkF m 113 #[.val (.int x0), .val (.int x1), .val (.int x2), .val (.ref b1), .val (.int (y100 + ((x2 &&& (3 : Int32)) - (1 : Int32)))), .unset, .unset] [(.int x0), (.int (f1 x0))]))
  obtain ⟨v52, _, ⟨T52, L52, k52, n52⟩, -, X52, ⟨Lc52, hQ52, l52, y52, z52⟩, st52⟩ := Jvm.LawKit.callS X51 hx (y := (⟨"com/example/fiddlehead/fiddlehead/EventIsTextCharacterPinLaw", "expected", "(I)Z"⟩ : MethodName)) hown (mvT hZ (hw _ (List.mem_of_getElem? (i := 17) rfl))) (mvT hZ (hw _ (List.mem_of_getElem? (i := 18) rfl))) (mvT hZ (hw _ (List.mem_of_getElem? (i := 19) rfl))) (mvT hZ (hw _ (List.mem_of_getElem? (i := 20) rfl))) (by decide) (backOf (W := 1) (rm2 l Z a0 hw [] x0 h48 n0 Zs50) hZ (hw _ (List.mem_of_getElem? (i := 20) rfl)) (hw _ (List.mem_of_getElem? (i := 19) rfl)) (by decide) (by decide)) (g := (mkF m 113 #[.val (.int x0), .val (.int x1), .val (.int x2), .val (.ref b1), .val (.int (y100 + ((x2 &&& (3 : Int32)) - (1 : Int32)))), .unset, .unset] [(.int x0), (.int (f1 x0))])) rfl (by rw [hml]; rfl) (argsL := [(.int x0)]) (rest := [(.int (f1 x0))]) (lenOf pd_0 rfl) rfl (by show 2 * 0 + _ ≤ _; exact Nat.le_of_eq rfl) (hb hby at_113) (fun _ _ => ⟨rfl, e51, (by decide : 1 + 0 ≤ _), (by decide : 16 + 0 ≤ _)⟩)
  dsimp only [Pt.U, Pt.locs, Pt.cells, Pt.slots] at X52 l52 y52 z52 st52 hQ52
  subst l52 y52 z52
  obtain ⟨rfl, N52q, e52⟩ := hQ52
  have N52 := Fr.app N51 N52q
  refine Ends.by ?_ st52
  show Ends p e below s _ _ _ (T52.setTop (mkF m 116 #[.val (.int x0), .val (.int x1), .val (.int x2), .val (.ref b1), .val (.int (y100 + ((x2 &&& (3 : Int32)) - (1 : Int32)))), .unset, .unset] [(.int (f2 x0)), (.int (f1 x0))]))
  refine Ends.by ?_ (fun _ k => XS.icmpNo X52.here hx rfl (hb hby at_116) rfl (XT.ii_ne_f (own_eq _ : (f1 x0) = (f2 x0))) k)
  show Ends p e below s _ _ _ (T52.setTop (mkF m 119 #[.val (.int x0), .val (.int x1), .val (.int x2), .val (.ref b1), .val (.int (y100 + ((x2 &&& (3 : Int32)) - (1 : Int32)))), .unset, .unset] []))
  refine Ends.by ?_ (fun _ k => XS.iconst X52.here hx rfl (hb hby at_119) k)
  show Ends p e below s _ _ _ (T52.setTop (mkF m 120 #[.val (.int x0), .val (.int x1), .val (.int x2), .val (.ref b1), .val (.int (y100 + ((x2 &&& (3 : Int32)) - (1 : Int32)))), .unset, .unset] [(.int (1 : Int32))]))
  refine Ends.by ?_ (fun _ k => XS.goto X52.here hx rfl (pc0 := 120) (pc' := 124) rfl (hb hby at_120) (by decide) (by decide) k)
  show Ends p e below s _ _ _ (T52.setTop (mkF m 124 #[.val (.int x0), .val (.int x1), .val (.int x2), .val (.ref b1), .val (.int (y100 + ((x2 &&& (3 : Int32)) - (1 : Int32)))), .unset, .unset] [(.int (1 : Int32))]))
  refine Ends.by ?_ (fun _ k => XS.istore X52.here hx rfl (hb hby at_124) rfl (l' := #[.val (.int x0), .val (.int x1), .val (.int x2), .val (.ref b1), .val (.int (y100 + ((x2 &&& (3 : Int32)) - (1 : Int32)))), .val (.int (1 : Int32)), .unset]) rfl k)
  show Ends p e below s _ _ _ (T52.setTop (mkF m 126 #[.val (.int x0), .val (.int x1), .val (.int x2), .val (.ref b1), .val (.int (y100 + ((x2 &&& (3 : Int32)) - (1 : Int32)))), .val (.int (1 : Int32)), .unset] []))
  refine Ends.by ?_ (fun _ k => XS.iload X52.here hx rfl (hb hby at_126) rfl k)
  show Ends p e below s _ _ _ (T52.setTop (mkF m 128 #[.val (.int x0), .val (.int x1), .val (.int x2), .val (.ref b1), .val (.int (y100 + ((x2 &&& (3 : Int32)) - (1 : Int32)))), .val (.int (1 : Int32)), .unset] [(.int (y100 + ((x2 &&& (3 : Int32)) - (1 : Int32))))]))
  obtain ⟨v53, _, ⟨T53, L53, k53, n53⟩, -, X53, ⟨Lc53, hQ53, l53, y53, z53⟩, st53⟩ := Jvm.LawKit.callS X52 hx (y := (⟨"com/example/fiddlehead/fiddlehead/Event", "isTextCharacter", "(I)Z"⟩ : MethodName)) hown (mvT hZ (hw _ (List.mem_of_getElem? (i := 11) rfl))) (mvT hZ (hw _ (List.mem_of_getElem? (i := 12) rfl))) (mvT hZ (hw _ (List.mem_of_getElem? (i := 13) rfl))) (mvT hZ (hw _ (List.mem_of_getElem? (i := 14) rfl))) (by decide) (backOf (W := 0) (rm1 l Z a0 hw [] (y100 + ((x2 &&& (3 : Int32)) - (1 : Int32))) h48 n0 Zs50) hZ (hw _ (List.mem_of_getElem? (i := 14) rfl)) (hw _ (List.mem_of_getElem? (i := 13) rfl)) (by decide) (by decide)) (g := (mkF m 128 #[.val (.int x0), .val (.int x1), .val (.int x2), .val (.ref b1), .val (.int (y100 + ((x2 &&& (3 : Int32)) - (1 : Int32)))), .val (.int (1 : Int32)), .unset] [(.int (y100 + ((x2 &&& (3 : Int32)) - (1 : Int32))))])) rfl (by rw [hml]; rfl) (argsL := [(.int (y100 + ((x2 &&& (3 : Int32)) - (1 : Int32))))]) (rest := []) (lenOf pd_0 rfl) rfl (by show 2 * 0 + _ ≤ _; exact Nat.le_of_eq rfl) (hb hby at_128) (fun _ _ => ⟨rfl, e52, (by decide : 1 + 0 ≤ _), (by decide : 16 + 0 ≤ _)⟩)
  dsimp only [Pt.U, Pt.locs, Pt.cells, Pt.slots] at X53 l53 y53 z53 st53 hQ53
  subst l53 y53 z53
  obtain ⟨rfl, N53q, e53⟩ := hQ53
  have N53 := Fr.app N52 N53q
  refine Ends.by ?_ st53
  show Ends p e below s _ _ _ (T53.setTop (mkF m 131 #[.val (.int x0), .val (.int x1), .val (.int x2), .val (.ref b1), .val (.int (y100 + ((x2 &&& (3 : Int32)) - (1 : Int32)))), .val (.int (1 : Int32)), .unset] [(.int (f1 (y100 + ((x2 &&& (3 : Int32)) - (1 : Int32)))))]))
  refine Ends.by ?_ (fun _ k => XS.iload X53.here hx rfl (hb hby at_131) rfl k)
  show Ends p e below s _ _ _ (T53.setTop (mkF m 133 #[.val (.int x0), .val (.int x1), .val (.int x2), .val (.ref b1), .val (.int (y100 + ((x2 &&& (3 : Int32)) - (1 : Int32)))), .val (.int (1 : Int32)), .unset] [(.int (y100 + ((x2 &&& (3 : Int32)) - (1 : Int32)))), (.int (f1 (y100 + ((x2 &&& (3 : Int32)) - (1 : Int32)))))]))
  obtain ⟨v54, _, ⟨T54, L54, k54, n54⟩, -, X54, ⟨Lc54, hQ54, l54, y54, z54⟩, st54⟩ := Jvm.LawKit.callS X53 hx (y := (⟨"com/example/fiddlehead/fiddlehead/EventIsTextCharacterPinLaw", "expected", "(I)Z"⟩ : MethodName)) hown (mvT hZ (hw _ (List.mem_of_getElem? (i := 17) rfl))) (mvT hZ (hw _ (List.mem_of_getElem? (i := 18) rfl))) (mvT hZ (hw _ (List.mem_of_getElem? (i := 19) rfl))) (mvT hZ (hw _ (List.mem_of_getElem? (i := 20) rfl))) (by decide) (backOf (W := 1) (rm2 l Z a0 hw [] (y100 + ((x2 &&& (3 : Int32)) - (1 : Int32))) h48 n0 Zs50) hZ (hw _ (List.mem_of_getElem? (i := 20) rfl)) (hw _ (List.mem_of_getElem? (i := 19) rfl)) (by decide) (by decide)) (g := (mkF m 133 #[.val (.int x0), .val (.int x1), .val (.int x2), .val (.ref b1), .val (.int (y100 + ((x2 &&& (3 : Int32)) - (1 : Int32)))), .val (.int (1 : Int32)), .unset] [(.int (y100 + ((x2 &&& (3 : Int32)) - (1 : Int32)))), (.int (f1 (y100 + ((x2 &&& (3 : Int32)) - (1 : Int32)))))])) rfl (by rw [hml]; rfl) (argsL := [(.int (y100 + ((x2 &&& (3 : Int32)) - (1 : Int32))))]) (rest := [(.int (f1 (y100 + ((x2 &&& (3 : Int32)) - (1 : Int32)))))]) (lenOf pd_0 rfl) rfl (by show 2 * 0 + _ ≤ _; exact Nat.le_of_eq rfl) (hb hby at_133) (fun _ _ => ⟨rfl, e53, (by decide : 1 + 0 ≤ _), (by decide : 16 + 0 ≤ _)⟩)
  dsimp only [Pt.U, Pt.locs, Pt.cells, Pt.slots] at X54 l54 y54 z54 st54 hQ54
  subst l54 y54 z54
  obtain ⟨rfl, N54q, e54⟩ := hQ54
  have N54 := Fr.app N53 N54q
  refine Ends.by ?_ st54
  show Ends p e below s _ _ _ (T54.setTop (mkF m 136 #[.val (.int x0), .val (.int x1), .val (.int x2), .val (.ref b1), .val (.int (y100 + ((x2 &&& (3 : Int32)) - (1 : Int32)))), .val (.int (1 : Int32)), .unset] [(.int (f2 (y100 + ((x2 &&& (3 : Int32)) - (1 : Int32))))), (.int (f1 (y100 + ((x2 &&& (3 : Int32)) - (1 : Int32)))))]))
  refine Ends.by ?_ (fun _ k => XS.icmpNo X54.here hx rfl (hb hby at_136) rfl (XT.ii_ne_f (own_eq _ : (f1 (y100 + ((x2 &&& (3 : Int32)) - (1 : Int32)))) = (f2 (y100 + ((x2 &&& (3 : Int32)) - (1 : Int32)))))) k)
  show Ends p e below s _ _ _ (T54.setTop (mkF m 139 #[.val (.int x0), .val (.int x1), .val (.int x2), .val (.ref b1), .val (.int (y100 + ((x2 &&& (3 : Int32)) - (1 : Int32)))), .val (.int (1 : Int32)), .unset] []))
  refine Ends.by ?_ (fun _ k => XS.iconst X54.here hx rfl (hb hby at_139) k)
  show Ends p e below s _ _ _ (T54.setTop (mkF m 140 #[.val (.int x0), .val (.int x1), .val (.int x2), .val (.ref b1), .val (.int (y100 + ((x2 &&& (3 : Int32)) - (1 : Int32)))), .val (.int (1 : Int32)), .unset] [(.int (1 : Int32))]))
  refine Ends.by ?_ (fun _ k => XS.goto X54.here hx rfl (pc0 := 140) (pc' := 144) rfl (hb hby at_140) (by decide) (by decide) k)
  show Ends p e below s _ _ _ (T54.setTop (mkF m 144 #[.val (.int x0), .val (.int x1), .val (.int x2), .val (.ref b1), .val (.int (y100 + ((x2 &&& (3 : Int32)) - (1 : Int32)))), .val (.int (1 : Int32)), .unset] [(.int (1 : Int32))]))
  refine Ends.by ?_ (fun _ k => XS.istore X54.here hx rfl (hb hby at_144) rfl (l' := #[.val (.int x0), .val (.int x1), .val (.int x2), .val (.ref b1), .val (.int (y100 + ((x2 &&& (3 : Int32)) - (1 : Int32)))), .val (.int (1 : Int32)), .val (.int (1 : Int32))]) rfl k)
  show Ends p e below s _ _ _ (T54.setTop (mkF m 146 #[.val (.int x0), .val (.int x1), .val (.int x2), .val (.ref b1), .val (.int (y100 + ((x2 &&& (3 : Int32)) - (1 : Int32)))), .val (.int (1 : Int32)), .val (.int (1 : Int32))] []))
  refine Ends.by ?_ (fun _ k => XS.iload X54.here hx rfl (hb hby at_146) rfl k)
  show Ends p e below s _ _ _ (T54.setTop (mkF m 148 #[.val (.int x0), .val (.int x1), .val (.int x2), .val (.ref b1), .val (.int (y100 + ((x2 &&& (3 : Int32)) - (1 : Int32)))), .val (.int (1 : Int32)), .val (.int (1 : Int32))] [(.int (1 : Int32))]))
  refine Ends.by ?_ (fun _ k => XS.ifNo X54.here hx rfl (hb hby at_148) rfl (XT.i0_eq_f (by decide)) k)
  show Ends p e below s _ _ _ (T54.setTop (mkF m 151 #[.val (.int x0), .val (.int x1), .val (.int x2), .val (.ref b1), .val (.int (y100 + ((x2 &&& (3 : Int32)) - (1 : Int32)))), .val (.int (1 : Int32)), .val (.int (1 : Int32))] []))
  refine Ends.by ?_ (fun _ k => XS.iload X54.here hx rfl (hb hby at_151) rfl k)
  show Ends p e below s _ _ _ (T54.setTop (mkF m 153 #[.val (.int x0), .val (.int x1), .val (.int x2), .val (.ref b1), .val (.int (y100 + ((x2 &&& (3 : Int32)) - (1 : Int32)))), .val (.int (1 : Int32)), .val (.int (1 : Int32))] [(.int (1 : Int32))]))
  refine Ends.by ?_ (fun _ k => XS.ifNo X54.here hx rfl (hb hby at_153) rfl (XT.i0_eq_f (by decide)) k)
  show Ends p e below s _ _ _ (T54.setTop (mkF m 156 #[.val (.int x0), .val (.int x1), .val (.int x2), .val (.ref b1), .val (.int (y100 + ((x2 &&& (3 : Int32)) - (1 : Int32)))), .val (.int (1 : Int32)), .val (.int (1 : Int32))] []))
  refine Ends.by ?_ (fun _ k => XS.iconst X54.here hx rfl (hb hby at_156) k)
  show Ends p e below s _ _ _ (T54.setTop (mkF m 157 #[.val (.int x0), .val (.int x1), .val (.int x2), .val (.ref b1), .val (.int (y100 + ((x2 &&& (3 : Int32)) - (1 : Int32)))), .val (.int (1 : Int32)), .val (.int (1 : Int32))] [(.int (1 : Int32))]))
  refine Ends.by ?_ (fun _ k => XS.goto X54.here hx rfl (pc0 := 157) (pc' := 161) rfl (hb hby at_157) (by decide) (by decide) k)
  show Ends p e below s _ _ _ (T54.setTop (mkF m 161 #[.val (.int x0), .val (.int x1), .val (.int x2), .val (.ref b1), .val (.int (y100 + ((x2 &&& (3 : Int32)) - (1 : Int32)))), .val (.int (1 : Int32)), .val (.int (1 : Int32))] [(.int (1 : Int32))]))
  exact Ends.retN X54 hx Bd.notSynchronized Bd.returns (t := .boolean) (by simp) (hb hby at_161) (w := 1) rfl ⟨rfl, N54⟩ (by decide) (by decide)

set_option maxRecDepth 65536 in
set_option maxHeartbeats 40000000 in
theorem comes_1 {Post : Tables → Env → Array Value → State → Outcome → State → Prop} (hpost : ∀ tb e args s v u, (limb_1_1.after args s (.returned v) u = true ∧ limb_1_2.after args s (.returned v) u = true ∧ True) → FrameEnd s (.returned v) u (Jvm.fieldLocs frame_1_writes args s ++ Jvm.arrayLocs frame_1_arrays args s ++ Jvm.staticLocs frame_1_statics s) 16 128 → Post tb e args s (.returned v) u) :
    ArmFor flags0 classFile x code maxLocals ret World_1 tables_1 room_1 Calls_1 rest_1 Pre_1 Post := by
  intro l hfl _ _ p e ha hc hk s m args below hf hA hF happ hP
  obtain ⟨hcalls, hrest, hpre⟩ := hP
  obtain ⟨-, -, -, hnamed, -, -, -, hat⟩ := (Spec.applies_iff hf).mp happ
  obtain ⟨hg, hn⟩ := and_e (Cond.before_iff.mp (show (Jvm.Cond.and given_1 narrow_1).before args s = true from hpre))
  obtain ⟨g1, g2⟩ := and_e hg
  obtain ⟨g3, g4⟩ := and_e g2
  obtain ⟨g5, g6⟩ := and_e g4
  obtain ⟨w0, w1, w2, rfl⟩ : ∃ w0 w1 w2 : Value, args = #[w0, w1, w2] := by
    have hs : args.size = 3 := by simpa [Cond.value, given_1] using g1
    obtain ⟨L⟩ := args
    match L, hs with
    | [w0, w1, w2], _ => exact ⟨w0, w1, w2, rfl⟩
  have hw := fun d (hd : d ∈ tables_1) => atoms_spec (ws := Jvm.Cond.code x code maxLocals ret :: tables_1) hat d (List.mem_cons_of_mem _ hd)
  obtain ⟨i0, ei0⟩ := is_v g3
  obtain rfl : w0 = (.int i0) := Option.some.inj ei0
  obtain ⟨i1, ei1⟩ := is_v g5
  obtain rfl : w1 = (.int i1) := Option.some.inj ei1
  obtain ⟨i2, ei2⟩ := is_v g6
  obtain rfl : w2 = (.int i2) := Option.some.inj ei2
  obtain ⟨n, o, h1, h2, h3, v, L, rfl, hQ, hq⟩ := rm0 l s _ hw tables_1 i0 i1 i2 s.heap s.heap.size (Nat.le_refl _) p e ha hc hk s m _ below hf ((Spec.applies_iff_loose hf).mp happ).1 ⟨rfl, State.Warmed39.refl s, rfl⟩ trivial
  obtain ⟨rfl, N⟩ := hQ
  refine ⟨n, _, h1, h2, h3, hpost _ _ _ _ _ _ ⟨Cond.after_iff.mpr rfl, Cond.after_iff.mpr (eq_i res_at (Term.int_eval (1)) rfl), trivial⟩ ⟨hq.1, hq.2.1, (hq.2.2.sift fun y hy => Or.inr (N y hy)).mono (by decide) (by decide)⟩⟩
theorem main_1_1 : Claimed_1_1 := comes_1 fun _ _ _ _ _ _ h hF => ⟨h.1, hF⟩
theorem main_1_2 : Claimed_1_2 := comes_1 fun _ _ _ _ _ _ h hF => ⟨h.2.1, hF⟩
end Jvm.Pilot.@@N@@
namespace Jvm.Pilot.@@N@@
open Jvm Jvm.ClassFile Sem Op Lib Jvm.Free Jvm.Stand Jvm.Pilot.@@N@@.Jvm.D
/-! MADE BY PROGRAM (witnessworld.py) out of the Statement's table words and the real class files: 10 classes; the members and pool entries that the words name. The judged class is class 1, her method 1. -/
namespace start1
open Jvm.ClassFile
def u (s : String) : CpInfo := .utf8 (stringToUtf16 s)
/-- a pool by its gaps: so many unusable entries, then the entry; so many at the end -/
def gap : Nat → List CpInfo → List CpInfo
  | 0, r => r
  | n + 1, r => .unusable :: gap n r
def poolList (es : List (Nat × CpInfo)) (last : Nat) : List CpInfo := es.foldr (fun e r => gap e.1 (e.2 :: r)) (gap last [])
def pool (es : List (Nat × CpInfo)) (last : Nat) : Array CpInfo := ⟨poolList es last⟩
def fileOf (pool : Array CpInfo) (this : Nat) (attrs : Array Attribute := #[]) (ms : Array MethodInfo := #[]) (fl : Nat := 33) (sup : Nat := 0) (ifs : Array Nat := #[]) (fds : Array FieldInfo := #[]) : ClassFile where
  minorVersion := 0
  majorVersion := 65
  constantPool := pool
  accessFlags := fl
  thisClass := this
  superClass := sup
  interfaces := ifs
  fields := fds
  methods := ms
  attributes := attrs
def plain (name : String) (sup : Option ClassId) : Class where
  name := name
  kind := .ordinary
  loader := none
  accessFlags := 33
  super := sup
  interfaces := #[]
  cf := none
  fields := #[]
  methods := #[]
  instanceTypes := #[]
  staticTypes := #[]
  resolved := #[]
  callSites := []
  init := .initialized
  statics := none
  mirror := none

def pool0 : Array CpInfo := pool [(5, u "<init>"), (0, u "()V"), (1, .class_ 10), (1, u "java/lang/Object")] 113

def k0m0 : Method := { name := "<init>", desc := "()V", sig := { parameters := [], returnType := none }, accessFlags := 1, code := none }
/-- java/lang/Object -/
def k0 : Class := { plain "java/lang/Object" none with
  accessFlags := 33
  interfaces := #[]
  cf := some (fileOf pool0 8 #[] #[{ accessFlags := 1, nameIndex := 5, descriptorIndex := 6, attributes := #[] }] 33 0 #[] #[])
  fields := #[]
  methods := #[k0m0]
  instanceTypes := #[]
  staticTypes := #[]
  resolved := Array.replicate 124 none
  statics := none }

def pool1 : Array CpInfo := pool [(2, .class_ 4), (1, u "java/lang/Object"), (0, u "<init>"), (0, u "()V"), (0, .integer 55295), (0, .integer 55296), (0, .integer 57343), (0, .integer 57344), (0, .integer 65533), (0, .integer 65534), (0, .integer 65535), (0, .integer 65536), (0, .integer 1114111), (0, .integer 1114112), (0, .methodref 18 19), (0, .class_ 20), (0, .nameAndType 21 22), (0, u "com/example/fiddlehead/fiddlehead/Event"), (0, u "isTextCharacter"), (0, u "(I)Z"), (0, .methodref 24 25), (0, .class_ 26), (0, .nameAndType 27 22), (0, u "com/example/fiddlehead/fiddlehead/EventIsTextCharacterPinLaw"), (0, u "expected"), (2, u "law"), (0, u "(III)Z")] 5

def k1m0 : Method := { name := "<init>", desc := "()V", sig := { parameters := [], returnType := none }, accessFlags := 1, code := none }
def k1c1 : Code := { maxStack := 4, maxLocals := 7, code := code, exceptionTable := #[], attributes := #[] }
def k1m1 : Method := { name := "law", desc := "(III)Z", sig := { parameters := [.int, .int, .int], returnType := some .boolean }, accessFlags := 9, code := some k1c1 }
def k1c2 : Code := { maxStack := 2, maxLocals := 1, code := method_3_code, exceptionTable := #[], attributes := #[] }
def k1m2 : Method := { name := "expected", desc := "(I)Z", sig := { parameters := [.int], returnType := some .boolean }, accessFlags := 10, code := some k1c2 }
/-- com/example/fiddlehead/fiddlehead/EventIsTextCharacterPinLaw -/
def k1 : Class := { plain "com/example/fiddlehead/fiddlehead/EventIsTextCharacterPinLaw" (some 0) with
  accessFlags := 49
  interfaces := #[]
  cf := some (fileOf pool1 24 #[] #[{ accessFlags := 1, nameIndex := 5, descriptorIndex := 6, attributes := #[] }, { accessFlags := 9, nameIndex := 30, descriptorIndex := 31, attributes := #[] }, { accessFlags := 10, nameIndex := 27, descriptorIndex := 22, attributes := #[] }] 49 2 #[] #[])
  fields := #[]
  methods := #[k1m0, k1m1, k1m2]
  instanceTypes := #[]
  staticTypes := #[]
  resolved := Array.replicate 37 none
  statics := none }

def pool2 : Array CpInfo := pool [(2, .class_ 4), (1, u "java/lang/Object"), (0, u "<init>"), (0, u "()V"), (0, .class_ 8), (0, u "java/lang/Record")] 13

def k2m0 : Method := { name := "<init>", desc := "()V", sig := { parameters := [], returnType := none }, accessFlags := 4, code := none }
/-- java/lang/Record -/
def k2 : Class := { plain "java/lang/Record" (some 0) with
  accessFlags := 1057
  interfaces := #[]
  cf := some (fileOf pool2 7 #[] #[{ accessFlags := 4, nameIndex := 5, descriptorIndex := 6, attributes := #[] }] 1057 2 #[] #[])
  fields := #[]
  methods := #[k2m0]
  instanceTypes := #[]
  staticTypes := #[]
  resolved := Array.replicate 22 none
  statics := none }

def pool3 : Array CpInfo := pool [(2, .class_ 4), (1, u "java/lang/Record"), (32, .class_ 39), (1, u "com/example/fiddlehead/fiddlehead/Event"), (2, u "title"), (5, u "author"), (1, u "content"), (2, u "id"), (0, u "Ljava/lang/String;"), (6, .integer 55295), (0, .integer 57344), (0, .integer 65533), (0, .integer 65536), (0, .integer 1114111), (22, u "(I)Z"), (44, u "isTextCharacter")] 63

def k3c0 : Code := { maxStack := 2, maxLocals := 1, code := prog_2_method_2_code, exceptionTable := #[], attributes := #[] }
def k3m0 : Method := { name := "isTextCharacter", desc := "(I)Z", sig := { parameters := [.int], returnType := some .boolean }, accessFlags := 9, code := some k3c0 }
/-- com/example/fiddlehead/fiddlehead/Event -/
def k3 : Class := { plain "com/example/fiddlehead/fiddlehead/Event" (some 2) with
  accessFlags := 49
  interfaces := #[]
  cf := some (fileOf pool3 37 #[] #[{ accessFlags := 9, nameIndex := 133, descriptorIndex := 88, attributes := #[] }] 49 2 #[] #[{ accessFlags := 18, nameIndex := 53, descriptorIndex := 54, attributes := #[] }, { accessFlags := 18, nameIndex := 42, descriptorIndex := 54, attributes := #[] }, { accessFlags := 18, nameIndex := 48, descriptorIndex := 54, attributes := #[] }, { accessFlags := 18, nameIndex := 50, descriptorIndex := 54, attributes := #[] }])
  fields := #[{ name := "id", type := (.object "java/lang/String"), accessFlags := 18, slot := 0, constantValue := 0 }, { name := "title", type := (.object "java/lang/String"), accessFlags := 18, slot := 1, constantValue := 0 }, { name := "author", type := (.object "java/lang/String"), accessFlags := 18, slot := 2, constantValue := 0 }, { name := "content", type := (.object "java/lang/String"), accessFlags := 18, slot := 3, constantValue := 0 }]
  methods := #[k3m0]
  instanceTypes := #[(.object "java/lang/String"), (.object "java/lang/String"), (.object "java/lang/String"), (.object "java/lang/String")]
  staticTypes := #[]
  resolved := Array.replicate 197 none
  statics := none }

def pool4 : Array CpInfo := pool [(1, u "java/lang/Cloneable"), (0, .class_ 1), (0, u "java/lang/Object"), (0, .class_ 3)] 3

/-- java/lang/Cloneable -/
def k4 : Class := { plain "java/lang/Cloneable" (some 0) with
  accessFlags := 1537
  interfaces := #[]
  cf := some (fileOf pool4 2 #[] #[] 1537 4 #[] #[])
  fields := #[]
  methods := #[]
  instanceTypes := #[]
  staticTypes := #[]
  resolved := Array.replicate 8 none
  statics := none }

def pool5 : Array CpInfo := pool [(1, u "java/io/Serializable"), (0, .class_ 1), (0, u "java/lang/Object"), (0, .class_ 3)] 3

/-- java/io/Serializable -/
def k5 : Class := { plain "java/io/Serializable" (some 0) with
  accessFlags := 1537
  interfaces := #[]
  cf := some (fileOf pool5 2 #[] #[] 1537 4 #[] #[])
  fields := #[]
  methods := #[]
  instanceTypes := #[]
  staticTypes := #[]
  resolved := Array.replicate 8 none
  statics := none }

/-- the primitive byte -/
def k6 : Class := { plain "byte" none with kind := .primitive 'B', accessFlags := 0x411 }
/-- [B -/
def k7 : Class := { plain "[B" (some 0) with kind := .array 6 .byte, interfaces := #[4, 5], accessFlags := 1041 }

/-- the primitive int -/
def k8 : Class := { plain "int" none with kind := .primitive 'I', accessFlags := 0x411 }
/-- [I -/
def k9 : Class := { plain "[I" (some 0) with kind := .array 8 .int, interfaces := #[4, 5], accessFlags := 1041 }

def heap : Heap := #[]
def classes : Array Class := #[k0, k1, k2, k3, k4, k5, k6, k7, k8, k9]
def interned : List (Array UInt16 × Addr) := []
def slotsUsed : Nat := 0
def theMethod : MethodId := ⟨1, 1⟩
def args0 : Array Value := #[.int 5, .int 7, .int 1]
def aboutOver (below : List Frame) : State where
  vm := { classes := classes, interned := interned.toArray }
  heap := heap
  slotsUsed := slotsUsed
  threads := #[{ frames := .invoking theMethod args0 :: below }]
def below0 : List Frame := [.native { method := ⟨0, 0⟩, args := #[] }]
def about1 : State := aboutOver below0
def p0 : Program := .bare "" "" ""
def e0 : Env := launch0.env 0 0 0
theorem w_frames : about1.frames = Frame.invoking theMethod args0 :: below0 := rfl
set_option maxRecDepth 65536 in
theorem w_args : argsFit about1.vm theMethod args0 = true := by decide +kernel
set_option maxRecDepth 65536 in
theorem w_heap : heapFits about1 = true := by decide +kernel
set_option maxRecDepth 65536 in
theorem w_runnable : about1.curStatus? = some .runnable := by decide +kernel
set_option maxRecDepth 65536 in
theorem w_alone : about1.alone = true := by decide +kernel
set_option maxRecDepth 65536 in
theorem w_named : about1.methodNamed? x = some theMethod := by decide +kernel
set_option maxRecDepth 65536 in
theorem w_hears : about1.hears theMethod below0 = true := by decide +kernel
set_option maxRecDepth 65536 in
theorem w_ripe : about1.ripe theMethod args0 below0 = true := by decide +kernel
theorem w_running : about1.status = .running := rfl
set_option maxRecDepth 65536 in
theorem w_room : about1.hasRoom e0.platform room_1 = true :=
  launch0.hasRoom_least _ room_1 (by decide +kernel) (by decide +kernel) (by decide +kernel) (by decide +kernel) (by decide +kernel) (by decide +kernel)
theorem allAtoms_all (ts : List Jvm.Cond) (a : Array Jvm.Value) (st : Jvm.State) : (allAtoms ts).before a st = ts.all (fun c => c.before a st) := by
  induction ts with
  | nil => rfl
  | cons c t ih =>
    show (Jvm.Cond.and c (allAtoms t)).before a st = _
    rw [Jvm.Cond.before_and, ih, List.all_cons]
def words1 : List Jvm.Cond := Jvm.Cond.code x code maxLocals ret :: tables_1
/-- a 'code' word, met by the world's own term for the bytes: nothing is compared byte by byte -/
theorem code_word {y : MethodName} {bytes : ByteArray} {mx : Nat} {rt : Option FieldType} {a : Array Value} {s : State} {m : MethodId} {meth : Method} {c : Code} (h1 : s.methodNamed? y = some m) (h2 : s.vm.method? m = some meth) (h3 : meth.code = some c) (h4 : c.code = bytes)
    (h5 : (c.maxLocals == mx && c.exceptionTable.isEmpty && decide (c.maxStack ≤ mostOperands) && decide (meth.sig.returnType = rt) && !meth.locks && decide (parseMethodDescriptor y.desc = some meth.sig)) = true) : (Jvm.Cond.code y bytes mx rt).before a s = true := by
  simp only [Bool.and_eq_true, beq_iff_eq, Bool.not_eq_true', decide_eq_true_eq] at h5
  obtain ⟨⟨⟨⟨⟨g1, g2⟩, g3⟩, g4⟩, g5⟩, g6⟩ := h5
  simp [Cond.before, Cond.holds, Cond.value, h1, h2, h3, h4, g1, g2, g3, g4, g5, g6]
def isCode : Jvm.Cond → Bool
  | .code _ _ _ _ => true
  | _ => false
theorem all_split {L : List Jvm.Cond} {P : Jvm.Cond → Bool} (h1 : L.all (fun c => isCode c || P c) = true) (h2 : ∀ c ∈ L.filter isCode, P c = true) : L.all P = true := by
  refine List.all_eq_true.mpr fun c hc => ?_
  have h := List.all_eq_true.mp h1 c hc
  rcases Bool.eq_false_or_eq_true (isCode c) with hi | hi
  · exact h2 c (List.mem_filter.mpr ⟨hc, hi⟩)
  · simpa [hi] using h
set_option maxRecDepth 65536 in
theorem w_c0 : (Jvm.Cond.code x code maxLocals ret).before args0 about1 = true := code_word (m := ⟨1, 1⟩) (meth := k1m1) (c := k1c1) (by decide +kernel) rfl rfl rfl (by decide +kernel)
set_option maxRecDepth 65536 in
theorem w_c1 : (Jvm.Cond.code ({ cls := "com/example/fiddlehead/fiddlehead/Event", name := "isTextCharacter", desc := "(I)Z" } : Jvm.MethodName) prog_2_method_2_code (1 : Nat) (Option.some Jvm.ClassFile.FieldType.boolean)).before args0 about1 = true := code_word (m := ⟨3, 0⟩) (meth := k3m0) (c := k3c0) (by decide +kernel) rfl rfl rfl (by decide +kernel)
set_option maxRecDepth 65536 in
theorem w_c2 : (Jvm.Cond.code ({ cls := "com/example/fiddlehead/fiddlehead/EventIsTextCharacterPinLaw", name := "expected", desc := "(I)Z" } : Jvm.MethodName) method_3_code (1 : Nat) (Option.some Jvm.ClassFile.FieldType.boolean)).before args0 about1 = true := code_word (m := ⟨1, 2⟩) (meth := k1m2) (c := k1c2) (by decide +kernel) rfl rfl rfl (by decide +kernel)
def codes1 : List Jvm.Cond := [Jvm.Cond.code x code maxLocals ret, Jvm.Cond.code ({ cls := "com/example/fiddlehead/fiddlehead/Event", name := "isTextCharacter", desc := "(I)Z" } : Jvm.MethodName) prog_2_method_2_code (1 : Nat) (Option.some Jvm.ClassFile.FieldType.boolean), Jvm.Cond.code ({ cls := "com/example/fiddlehead/fiddlehead/EventIsTextCharacterPinLaw", name := "expected", desc := "(I)Z" } : Jvm.MethodName) method_3_code (1 : Nat) (Option.some Jvm.ClassFile.FieldType.boolean)]
set_option maxRecDepth 65536 in
theorem codes_eq : words1.filter isCode = codes1 := rfl
theorem w_codes : ∀ c ∈ words1.filter isCode, c.before args0 about1 = true := by
  rw [codes_eq]
  intro c hc
  simp only [codes1, List.mem_cons, List.not_mem_nil, or_false] at hc
  rcases hc with rfl | rfl | rfl
  · exact w_c0
  · exact w_c1
  · exact w_c2
set_option maxRecDepth 65536 in
theorem w_t1 : (words1.take 24).all (fun c => isCode c || c.before args0 about1) = true := by decide +kernel
set_option maxRecDepth 65536 in
theorem w_t2 : (words1.drop 24).all (fun c => isCode c || c.before args0 about1) = true := by decide +kernel
theorem w_tables : (allAtoms (Jvm.Cond.code x code maxLocals ret :: tables_1)).before args0 about1 = true := by
  rw [allAtoms_all]
  show words1.all (fun c => c.before args0 about1) = true
  refine all_split ?_ w_codes
  rw [← List.take_append_drop 24 words1, List.all_append, w_t1, w_t2]
  rfl
set_option maxRecDepth 65536 in
theorem w_case : (Jvm.Cond.and given_1 narrow_1).before args0 about1 = true := by decide +kernel
theorem w_applies : (headSpec (Jvm.Cond.code x code maxLocals ret :: tables_1) room_1).applies x e0.platform about1 = true :=
  (Spec.applies_iff w_frames).mpr ⟨w_running, w_runnable, w_alone, w_named, w_hears, w_ripe, w_room, w_tables⟩
theorem atStart : AtStart classFile x code maxLocals ret World_1 tables_1 room_1 Calls_1 rest_1 Pre_1 launch0 p0 e0 about1 theMethod args0 below0 :=
  ⟨lists_1, trivial, launch0.admits_env _ _ _, launch0.least_env, fairChoices_fair.cas, fairChoices_fair.clock, w_frames, w_args, w_heap, w_applies, trivial, trivial, w_case⟩
end start1
theorem witness_1 : WitnessClaimed_1 := ⟨start1.p0, start1.e0, start1.about1, start1.theMethod, start1.args0, start1.below0, start1.atStart⟩
end Jvm.Pilot.@@N@@
