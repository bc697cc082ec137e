import JvmDerived
import JvmDerived.Pilot.@@N@@Statement
import JvmDerived.Pilot.@@N@@Code
set_option linter.unusedVariables false
set_option linter.unusedSimpArgs false
namespace Jvm.Pilot.@@N@@
open Jvm Jvm.ClassFile Sem Op Lib Jvm.Free Jvm.Stand Jvm.LawKit Jvm.RoadKit Bundle Jvm.Pilot.@@N@@.Jvm.D
section Own
variable {p : Program} {l : Launch} {e : Env} {R : Room} {s : State} {m : MethodId} {args : Array Value} {below : List Frame} {meth : Method} {c : Code} {T : State} {locs : List Loc} {cells slots : Nat}
/-- from u the walk comes to its return, with what Q says of value, heap and the places written -/
def Ends (p : Program) (e : Env) (below : List Frame) (s : State) (Q : Option Value → Heap → List Loc → Prop) (kc ks : Nat) (u : State) : Prop :=
  ∃ s₂ o, Steps p.tables e below u s₂ ∧ s₂.status = .running ∧ Ended s₂ below o ∧ ∃ v L, o = .returned v ∧ Q v s₂.heap L ∧ FrameEnd s o s₂ L kc ks
variable {Q : Option Value → Heap → List Loc → Prop} {kc ks : Nat} {u u' : State}
theorem Ends.by (k : Ends p e below s Q kc ks u') (h : ∀ t, Steps p.tables e below u' t → Steps p.tables e below u t) : Ends p e below s Q kc ks u := by
  obtain ⟨s₂, o, h1, r⟩ := k
  exact ⟨s₂, o, h _ h1, r⟩
theorem Ends.go (h : Steps p.tables e below u u') (k : Ends p e below s Q kc ks u') : Ends p e below s Q kc ks u := k.by fun _ q => h.trans q
theorem Ends.retN (X : Stand p l e R s m args below meth c T locs cells slots) (hx : p.tables.exec = Jvm.exec) (hlk : meth.locks = false) {t : FieldType} (hret : meth.sig.returnType = some t) (ht : t = .boolean ∨ t = .byte ∨ t = .char ∨ t = .short) {pc : Nat} {Ls : Array Slot} {z w : Int32} {rest : List Value}
    (hd : decode c.code pc = .ok (.ireturn, 1)) (hz : nar t z = w) (hQ : Q (some (.int w)) T.heap locs) (hc : cells ≤ kc) (hs : slots ≤ ks) : Ends p e below s Q kc ks (T.setTop (mkF m pc Ls (.int z :: rest))) := by
  subst hz
  obtain ⟨fs, hr, hrun, hended, hW, hsame⟩ := X.leave (v := some (.int (nar t z))) (fun h => by rw [hret] at h; cases h) hlk
  exact ⟨_, _, Jvm.RoadKit.retN X hx hret ht hd hr, hrun, hended, _, _, rfl, hQ, ⟨_, rfl⟩, hW, hsame.mono hc hs⟩
theorem Ends.retI (X : Stand p l e R s m args below meth c T locs cells slots) (hx : p.tables.exec = Jvm.exec) (hlk : meth.locks = false) (hret : meth.sig.returnType = some .int) {pc : Nat} {Ls : Array Slot} {z : Int32} {rest : List Value}
    (hd : decode c.code pc = .ok (.ireturn, 1)) (hQ : Q (some (.int z)) T.heap locs) (hc : cells ≤ kc) (hs : slots ≤ ks) : Ends p e below s Q kc ks (T.setTop (mkF m pc Ls (.int z :: rest))) := by
  obtain ⟨fs, hr, hrun, hended, hW, hsame⟩ := X.leave (v := some (.int z)) (fun h => by rw [hret] at h; cases h) hlk
  exact ⟨_, _, Jvm.RoadKit.retOut X hx hret rfl (Or.inl ⟨rfl, by simp, z, rfl⟩) hd hr, hrun, hended, _, _, rfl, hQ, ⟨_, rfl⟩, hW, hsame.mono hc hs⟩
theorem Ends.retJ (X : Stand p l e R s m args below meth c T locs cells slots) (hx : p.tables.exec = Jvm.exec) (hlk : meth.locks = false) (hret : meth.sig.returnType = some .long) {pc : Nat} {Ls : Array Slot} {z : Int64} {rest : List Value}
    (hd : decode c.code pc = .ok (.lreturn, 1)) (hQ : Q (some (.long z)) T.heap locs) (hc : cells ≤ kc) (hs : slots ≤ ks) : Ends p e below s Q kc ks (T.setTop (mkF m pc Ls (.long z :: rest))) := by
  obtain ⟨fs, hr, hrun, hended, hW, hsame⟩ := X.leave (v := some (.long z)) (fun h => by rw [hret] at h; cases h) hlk
  exact ⟨_, _, Jvm.RoadKit.retOut X hx hret rfl (Or.inr (Or.inl ⟨rfl, rfl, z, rfl⟩)) hd hr, hrun, hended, _, _, rfl, hQ, ⟨_, rfl⟩, hW, hsame.mono hc hs⟩
theorem Ends.retA (X : Stand p l e R s m args below meth c T locs cells slots) (hx : p.tables.exec = Jvm.exec) (hlk : meth.locks = false) {t : FieldType} (hret : meth.sig.returnType = some t) (ht : t.isReference = true) (hn : ∀ a, narrow t (.ref a) = .ref a) {pc : Nat} {Ls : Array Slot} {a : Addr} {rest : List Value}
    (hd : decode c.code pc = .ok (.areturn, 1)) (hQ : Q (some (.ref a)) T.heap locs) (hc : cells ≤ kc) (hs : slots ≤ ks) : Ends p e below s Q kc ks (T.setTop (mkF m pc Ls (.ref a :: rest))) := by
  obtain ⟨fs, hr, hrun, hended, hW, hsame⟩ := X.leave (v := some (.ref a)) (fun h => by rw [hret] at h; cases h) hlk
  exact ⟨_, _, Jvm.RoadKit.retOut X hx hret (hn a) (Or.inr (Or.inr (Or.inr (Or.inr ⟨rfl, ht, rfl⟩)))) hd hr, hrun, hended, _, _, rfl, hQ, ⟨_, rfl⟩, hW, hsame.mono hc hs⟩
theorem Ends.retV (X : Stand p l e R s m args below meth c T locs cells slots) (hx : p.tables.exec = Jvm.exec) (hlk : meth.locks = false) (hret : meth.sig.returnType = none) {pc : Nat} {Ls : Array Slot}
    (hd : decode c.code pc = .ok (.return_, 1)) (hQ : Q none T.heap locs) (hc : cells ≤ kc) (hs : slots ≤ ks) : Ends p e below s Q kc ks (T.setTop (mkF m pc Ls [])) := by
  obtain ⟨fs, hr, hrun, hended, hW, hsame⟩ := X.leave (v := none) (fun _ => rfl) hlk
  exact ⟨_, _, X.returnOut hx hret hd hr, hrun, hended, _, _, rfl, hQ, ⟨_, rfl⟩, hW, hsame.mono hc hs⟩
theorem lremM {g : JFrame} {target : State} (X : Stand p l e R s m args below meth c T locs cells slots) (hx : p.tables.exec = Jvm.exec) (hg : g.method = m) {x y : Int64} {rest : List Value} (hd : decode c.code g.pc = .ok (.lrem, 1)) (hs : g.stack = .long y :: .long x :: rest) (hy : y ≠ 0)
    (hr : Steps p.tables e below (T.setTop { g with pc := g.pc + 1, stack := .long (x % y) :: rest }) target) : Steps p.tables e below (T.setTop g) target :=
  XS.lrem X.here hx hg hd hs hy (by rw [lrem_mod x y]; exact hr)
/-- a method that writes nothing: what it returns, the heap as it was -/
def QP (V : Option Value) (h0 : Heap) (n0 : Nat) (v : Option Value) (h : Heap) (L : List Loc) : Prop := v = V ∧ Fr n0 L ∧ h = h0
/-- a law: it returns 1; nothing old is written -/
def QL (n0 : Nat) (v : Option Value) (_ : Heap) (L : List Loc) : Prop := v = some (.int 1) ∧ Fr n0 L
end Own
section OwnSteps
variable {p : Program} {l : Launch} {e : Env} {R : Room} {s : State} {m : MethodId} {args : Array Value} {below : List Frame} {meth : Method} {c : Code} {T : State} {locs : List Loc} {cells slots : Nat} {Q : Option Value → Heap → List Loc → Prop} {kc ks : Nat} {pc : Nat} {Ls : Array Slot} {S : List Value}
theorem Es.iload {i : Nat} {v : Int32} {q : Nat} (k : Ends p e below s Q kc ks (T.setTop (mkF m q Ls (.int v :: S)))) (X : Stand p l e R s m args below meth c T locs cells slots) (hx : p.tables.exec = Jvm.exec) (hd : decode c.code pc = .ok (.iload i, 2)) (hq : pc + 2 = q) (hl : Ls[i]? = some (.val (.int v))) : Ends p e below s Q kc ks (T.setTop (mkF m pc Ls S)) := by
  subst hq
  exact k.by fun _ r => XS.iload X.here hx rfl hd hl r
theorem Es.iloadN {i : Fin 4} {v : Int32} {q : Nat} (k : Ends p e below s Q kc ks (T.setTop (mkF m q Ls (.int v :: S)))) (X : Stand p l e R s m args below meth c T locs cells slots) (hx : p.tables.exec = Jvm.exec) (hd : decode c.code pc = .ok (.iload_n i, 1)) (hq : pc + 1 = q) (hl : Ls[i.val]? = some (.val (.int v))) : Ends p e below s Q kc ks (T.setTop (mkF m pc Ls S)) := by
  subst hq
  exact k.by fun _ r => XS.iloadN X.here hx rfl hd hl r
theorem Es.istore {i : Nat} {x : Int32} {l' : Array Slot} {q : Nat} (k : Ends p e below s Q kc ks (T.setTop (mkF m q l' S))) (X : Stand p l e R s m args below meth c T locs cells slots) (hx : p.tables.exec = Jvm.exec) (hd : decode c.code pc = .ok (.istore i, 2)) (hq : pc + 2 = q) (hl : storeLocals Ls i (.int x) = some l') : Ends p e below s Q kc ks (T.setTop (mkF m pc Ls (.int x :: S))) := by
  subst hq
  exact k.by fun _ r => XS.istore X.here hx rfl hd rfl hl r
theorem Es.istoreN {i : Fin 4} {x : Int32} {l' : Array Slot} {q : Nat} (k : Ends p e below s Q kc ks (T.setTop (mkF m q l' S))) (X : Stand p l e R s m args below meth c T locs cells slots) (hx : p.tables.exec = Jvm.exec) (hd : decode c.code pc = .ok (.istore_n i, 1)) (hq : pc + 1 = q) (hl : storeLocals Ls i.val (.int x) = some l') : Ends p e below s Q kc ks (T.setTop (mkF m pc Ls (.int x :: S))) := by
  subst hq
  exact k.by fun _ r => XS.istoreN X.here hx rfl hd rfl hl r
theorem Es.lload {i : Nat} {v : Int64} {q : Nat} (k : Ends p e below s Q kc ks (T.setTop (mkF m q Ls (.long v :: S)))) (X : Stand p l e R s m args below meth c T locs cells slots) (hx : p.tables.exec = Jvm.exec) (hd : decode c.code pc = .ok (.lload i, 2)) (hq : pc + 2 = q) (hl : Ls[i]? = some (.val (.long v))) : Ends p e below s Q kc ks (T.setTop (mkF m pc Ls S)) := by
  subst hq
  exact k.by fun _ r => XS.lload X.here hx rfl hd hl r
theorem Es.lloadN {i : Fin 4} {v : Int64} {q : Nat} (k : Ends p e below s Q kc ks (T.setTop (mkF m q Ls (.long v :: S)))) (X : Stand p l e R s m args below meth c T locs cells slots) (hx : p.tables.exec = Jvm.exec) (hd : decode c.code pc = .ok (.lload_n i, 1)) (hq : pc + 1 = q) (hl : Ls[i.val]? = some (.val (.long v))) : Ends p e below s Q kc ks (T.setTop (mkF m pc Ls S)) := by
  subst hq
  exact k.by fun _ r => XS.lloadN X.here hx rfl hd hl r
theorem Es.lstore {i : Nat} {x : Int64} {l' : Array Slot} {q : Nat} (k : Ends p e below s Q kc ks (T.setTop (mkF m q l' S))) (X : Stand p l e R s m args below meth c T locs cells slots) (hx : p.tables.exec = Jvm.exec) (hd : decode c.code pc = .ok (.lstore i, 2)) (hq : pc + 2 = q) (hl : storeLocals Ls i (.long x) = some l') : Ends p e below s Q kc ks (T.setTop (mkF m pc Ls (.long x :: S))) := by
  subst hq
  exact k.by fun _ r => XS.lstore X.here hx rfl hd rfl hl r
theorem Es.lstoreN {i : Fin 4} {x : Int64} {l' : Array Slot} {q : Nat} (k : Ends p e below s Q kc ks (T.setTop (mkF m q l' S))) (X : Stand p l e R s m args below meth c T locs cells slots) (hx : p.tables.exec = Jvm.exec) (hd : decode c.code pc = .ok (.lstore_n i, 1)) (hq : pc + 1 = q) (hl : storeLocals Ls i.val (.long x) = some l') : Ends p e below s Q kc ks (T.setTop (mkF m pc Ls (.long x :: S))) := by
  subst hq
  exact k.by fun _ r => XS.lstoreN X.here hx rfl hd rfl hl r
theorem Es.dload {i : Nat} {v : UInt64} {q : Nat} (k : Ends p e below s Q kc ks (T.setTop (mkF m q Ls (.double v :: S)))) (X : Stand p l e R s m args below meth c T locs cells slots) (hx : p.tables.exec = Jvm.exec) (hd : decode c.code pc = .ok (.dload i, 2)) (hq : pc + 2 = q) (hl : Ls[i]? = some (.val (.double v))) : Ends p e below s Q kc ks (T.setTop (mkF m pc Ls S)) := by
  subst hq
  exact k.by fun _ r => XS.dload X.here hx rfl hd hl r
theorem Es.dloadN {i : Fin 4} {v : UInt64} {q : Nat} (k : Ends p e below s Q kc ks (T.setTop (mkF m q Ls (.double v :: S)))) (X : Stand p l e R s m args below meth c T locs cells slots) (hx : p.tables.exec = Jvm.exec) (hd : decode c.code pc = .ok (.dload_n i, 1)) (hq : pc + 1 = q) (hl : Ls[i.val]? = some (.val (.double v))) : Ends p e below s Q kc ks (T.setTop (mkF m pc Ls S)) := by
  subst hq
  exact k.by fun _ r => XS.dloadN X.here hx rfl hd hl r
theorem Es.dstore {i : Nat} {x : UInt64} {l' : Array Slot} {q : Nat} (k : Ends p e below s Q kc ks (T.setTop (mkF m q l' S))) (X : Stand p l e R s m args below meth c T locs cells slots) (hx : p.tables.exec = Jvm.exec) (hd : decode c.code pc = .ok (.dstore i, 2)) (hq : pc + 2 = q) (hl : storeLocals Ls i (.double x) = some l') : Ends p e below s Q kc ks (T.setTop (mkF m pc Ls (.double x :: S))) := by
  subst hq
  exact k.by fun _ r => XS.dstore X.here hx rfl hd rfl hl r
theorem Es.dstoreN {i : Fin 4} {x : UInt64} {l' : Array Slot} {q : Nat} (k : Ends p e below s Q kc ks (T.setTop (mkF m q l' S))) (X : Stand p l e R s m args below meth c T locs cells slots) (hx : p.tables.exec = Jvm.exec) (hd : decode c.code pc = .ok (.dstore_n i, 1)) (hq : pc + 1 = q) (hl : storeLocals Ls i.val (.double x) = some l') : Ends p e below s Q kc ks (T.setTop (mkF m pc Ls (.double x :: S))) := by
  subst hq
  exact k.by fun _ r => XS.dstoreN X.here hx rfl hd rfl hl r
theorem Es.aload {i : Nat} {v : Value} {q : Nat} (k : Ends p e below s Q kc ks (T.setTop (mkF m q Ls (v :: S)))) (X : Stand p l e R s m args below meth c T locs cells slots) (hx : p.tables.exec = Jvm.exec) (hd : decode c.code pc = .ok (.aload i, 2)) (hq : pc + 2 = q) (hl : Ls[i]? = some (.val v)) (hv : v.isRef = true) : Ends p e below s Q kc ks (T.setTop (mkF m pc Ls S)) := by
  subst hq
  exact k.by fun _ r => XS.aload X.here hx rfl hd hl hv r
theorem Es.aloadN {i : Fin 4} {v : Value} {q : Nat} (k : Ends p e below s Q kc ks (T.setTop (mkF m q Ls (v :: S)))) (X : Stand p l e R s m args below meth c T locs cells slots) (hx : p.tables.exec = Jvm.exec) (hd : decode c.code pc = .ok (.aload_n i, 1)) (hq : pc + 1 = q) (hl : Ls[i.val]? = some (.val v)) (hv : v.isRef = true) : Ends p e below s Q kc ks (T.setTop (mkF m pc Ls S)) := by
  subst hq
  exact k.by fun _ r => XS.aloadN X.here hx rfl hd hl hv r
theorem Es.astore {i : Nat} {x : Value} {l' : Array Slot} {q : Nat} (k : Ends p e below s Q kc ks (T.setTop (mkF m q l' S))) (X : Stand p l e R s m args below meth c T locs cells slots) (hx : p.tables.exec = Jvm.exec) (hd : decode c.code pc = .ok (.astore i, 2)) (hq : pc + 2 = q) (hv : x.isRef = true) (hl : storeLocals Ls i x = some l') : Ends p e below s Q kc ks (T.setTop (mkF m pc Ls (x :: S))) := by
  subst hq
  exact k.by fun _ r => XS.astore X.here hx rfl hd rfl hv hl r
theorem Es.astoreN {i : Fin 4} {x : Value} {l' : Array Slot} {q : Nat} (k : Ends p e below s Q kc ks (T.setTop (mkF m q l' S))) (X : Stand p l e R s m args below meth c T locs cells slots) (hx : p.tables.exec = Jvm.exec) (hd : decode c.code pc = .ok (.astore_n i, 1)) (hq : pc + 1 = q) (hv : x.isRef = true) (hl : storeLocals Ls i.val x = some l') : Ends p e below s Q kc ks (T.setTop (mkF m pc Ls (x :: S))) := by
  subst hq
  exact k.by fun _ r => XS.astoreN X.here hx rfl hd rfl hv hl r
theorem Es.iconst {i : Int} {z : Int32} {q : Nat} (k : Ends p e below s Q kc ks (T.setTop (mkF m q Ls (.int z :: S)))) (X : Stand p l e R s m args below meth c T locs cells slots) (hx : p.tables.exec = Jvm.exec) (hd : decode c.code pc = .ok (.iconst i, 1)) (hq : pc + 1 = q) (hz : Int32.ofInt i = z) : Ends p e below s Q kc ks (T.setTop (mkF m pc Ls S)) := by
  subst hq
  subst hz
  exact k.by fun _ r => XS.iconst X.here hx rfl hd r
theorem Es.bipush {i : Int} {z : Int32} {q : Nat} (k : Ends p e below s Q kc ks (T.setTop (mkF m q Ls (.int z :: S)))) (X : Stand p l e R s m args below meth c T locs cells slots) (hx : p.tables.exec = Jvm.exec) (hd : decode c.code pc = .ok (.bipush i, 2)) (hq : pc + 2 = q) (hz : (Int8.ofInt i).toInt32 = z) : Ends p e below s Q kc ks (T.setTop (mkF m pc Ls S)) := by
  subst hq
  subst hz
  exact k.by fun _ r => XS.bipush X.here hx rfl hd r
theorem Es.sipush {i : Int} {z : Int32} {q : Nat} (k : Ends p e below s Q kc ks (T.setTop (mkF m q Ls (.int z :: S)))) (X : Stand p l e R s m args below meth c T locs cells slots) (hx : p.tables.exec = Jvm.exec) (hd : decode c.code pc = .ok (.sipush i, 3)) (hq : pc + 3 = q) (hz : (Int16.ofInt i).toInt32 = z) : Ends p e below s Q kc ks (T.setTop (mkF m pc Ls S)) := by
  subst hq
  subst hz
  exact k.by fun _ r => XS.sipush X.here hx rfl hd r
theorem Es.lconst {i : Fin 2} {z : Int64} {q : Nat} (k : Ends p e below s Q kc ks (T.setTop (mkF m q Ls (.long z :: S)))) (X : Stand p l e R s m args below meth c T locs cells slots) (hx : p.tables.exec = Jvm.exec) (hd : decode c.code pc = .ok (.lconst i, 1)) (hq : pc + 1 = q) (hz : Int64.ofNat i = z) : Ends p e below s Q kc ks (T.setTop (mkF m pc Ls S)) := by
  subst hq
  subst hz
  exact k.by fun _ r => XS.lconst X.here hx rfl hd r
theorem Es.aconst_null  {q : Nat} (k : Ends p e below s Q kc ks (T.setTop (mkF m q Ls (.null :: S)))) (X : Stand p l e R s m args below meth c T locs cells slots) (hx : p.tables.exec = Jvm.exec) (hd : decode c.code pc = .ok (.aconst_null, 1)) (hq : pc + 1 = q) : Ends p e below s Q kc ks (T.setTop (mkF m pc Ls S)) := by
  subst hq
  exact k.by fun _ r => XS.aconstNull X.here hx rfl hd r
theorem Es.iadd {x y : Int32} {q : Nat} (k : Ends p e below s Q kc ks (T.setTop (mkF m q Ls (.int (x + y) :: S)))) (X : Stand p l e R s m args below meth c T locs cells slots) (hx : p.tables.exec = Jvm.exec) (hd : decode c.code pc = .ok (.iadd, 1)) (hq : pc + 1 = q) : Ends p e below s Q kc ks (T.setTop (mkF m pc Ls (.int y :: .int x :: S))) := by
  subst hq
  exact k.by fun _ r => XS.iadd X.here hx rfl hd rfl r
theorem Es.ladd {x y : Int64} {q : Nat} (k : Ends p e below s Q kc ks (T.setTop (mkF m q Ls (.long (x + y) :: S)))) (X : Stand p l e R s m args below meth c T locs cells slots) (hx : p.tables.exec = Jvm.exec) (hd : decode c.code pc = .ok (.ladd, 1)) (hq : pc + 1 = q) : Ends p e below s Q kc ks (T.setTop (mkF m pc Ls (.long y :: .long x :: S))) := by
  subst hq
  exact k.by fun _ r => XS.ladd X.here hx rfl hd rfl r
theorem Es.isub {x y : Int32} {q : Nat} (k : Ends p e below s Q kc ks (T.setTop (mkF m q Ls (.int (x - y) :: S)))) (X : Stand p l e R s m args below meth c T locs cells slots) (hx : p.tables.exec = Jvm.exec) (hd : decode c.code pc = .ok (.isub, 1)) (hq : pc + 1 = q) : Ends p e below s Q kc ks (T.setTop (mkF m pc Ls (.int y :: .int x :: S))) := by
  subst hq
  exact k.by fun _ r => XS.isub X.here hx rfl hd rfl r
theorem Es.lsub {x y : Int64} {q : Nat} (k : Ends p e below s Q kc ks (T.setTop (mkF m q Ls (.long (x - y) :: S)))) (X : Stand p l e R s m args below meth c T locs cells slots) (hx : p.tables.exec = Jvm.exec) (hd : decode c.code pc = .ok (.lsub, 1)) (hq : pc + 1 = q) : Ends p e below s Q kc ks (T.setTop (mkF m pc Ls (.long y :: .long x :: S))) := by
  subst hq
  exact k.by fun _ r => XS.lsub X.here hx rfl hd rfl r
theorem Es.imul {x y : Int32} {q : Nat} (k : Ends p e below s Q kc ks (T.setTop (mkF m q Ls (.int (x * y) :: S)))) (X : Stand p l e R s m args below meth c T locs cells slots) (hx : p.tables.exec = Jvm.exec) (hd : decode c.code pc = .ok (.imul, 1)) (hq : pc + 1 = q) : Ends p e below s Q kc ks (T.setTop (mkF m pc Ls (.int y :: .int x :: S))) := by
  subst hq
  exact k.by fun _ r => XS.imul X.here hx rfl hd rfl r
theorem Es.lmul {x y : Int64} {q : Nat} (k : Ends p e below s Q kc ks (T.setTop (mkF m q Ls (.long (x * y) :: S)))) (X : Stand p l e R s m args below meth c T locs cells slots) (hx : p.tables.exec = Jvm.exec) (hd : decode c.code pc = .ok (.lmul, 1)) (hq : pc + 1 = q) : Ends p e below s Q kc ks (T.setTop (mkF m pc Ls (.long y :: .long x :: S))) := by
  subst hq
  exact k.by fun _ r => XS.lmul X.here hx rfl hd rfl r
theorem Es.iand {x y : Int32} {q : Nat} (k : Ends p e below s Q kc ks (T.setTop (mkF m q Ls (.int (x &&& y) :: S)))) (X : Stand p l e R s m args below meth c T locs cells slots) (hx : p.tables.exec = Jvm.exec) (hd : decode c.code pc = .ok (.iand, 1)) (hq : pc + 1 = q) : Ends p e below s Q kc ks (T.setTop (mkF m pc Ls (.int y :: .int x :: S))) := by
  subst hq
  exact k.by fun _ r => XS.iand X.here hx rfl hd rfl r
theorem Es.land {x y : Int64} {q : Nat} (k : Ends p e below s Q kc ks (T.setTop (mkF m q Ls (.long (x &&& y) :: S)))) (X : Stand p l e R s m args below meth c T locs cells slots) (hx : p.tables.exec = Jvm.exec) (hd : decode c.code pc = .ok (.land, 1)) (hq : pc + 1 = q) : Ends p e below s Q kc ks (T.setTop (mkF m pc Ls (.long y :: .long x :: S))) := by
  subst hq
  exact k.by fun _ r => XS.land X.here hx rfl hd rfl r
theorem Es.ior {x y : Int32} {q : Nat} (k : Ends p e below s Q kc ks (T.setTop (mkF m q Ls (.int (x ||| y) :: S)))) (X : Stand p l e R s m args below meth c T locs cells slots) (hx : p.tables.exec = Jvm.exec) (hd : decode c.code pc = .ok (.ior, 1)) (hq : pc + 1 = q) : Ends p e below s Q kc ks (T.setTop (mkF m pc Ls (.int y :: .int x :: S))) := by
  subst hq
  exact k.by fun _ r => XS.ior X.here hx rfl hd rfl r
theorem Es.lor {x y : Int64} {q : Nat} (k : Ends p e below s Q kc ks (T.setTop (mkF m q Ls (.long (x ||| y) :: S)))) (X : Stand p l e R s m args below meth c T locs cells slots) (hx : p.tables.exec = Jvm.exec) (hd : decode c.code pc = .ok (.lor, 1)) (hq : pc + 1 = q) : Ends p e below s Q kc ks (T.setTop (mkF m pc Ls (.long y :: .long x :: S))) := by
  subst hq
  exact k.by fun _ r => XS.lor X.here hx rfl hd rfl r
theorem Es.ixor {x y : Int32} {q : Nat} (k : Ends p e below s Q kc ks (T.setTop (mkF m q Ls (.int (x ^^^ y) :: S)))) (X : Stand p l e R s m args below meth c T locs cells slots) (hx : p.tables.exec = Jvm.exec) (hd : decode c.code pc = .ok (.ixor, 1)) (hq : pc + 1 = q) : Ends p e below s Q kc ks (T.setTop (mkF m pc Ls (.int y :: .int x :: S))) := by
  subst hq
  exact k.by fun _ r => XS.ixor X.here hx rfl hd rfl r
theorem Es.lxor {x y : Int64} {q : Nat} (k : Ends p e below s Q kc ks (T.setTop (mkF m q Ls (.long (x ^^^ y) :: S)))) (X : Stand p l e R s m args below meth c T locs cells slots) (hx : p.tables.exec = Jvm.exec) (hd : decode c.code pc = .ok (.lxor, 1)) (hq : pc + 1 = q) : Ends p e below s Q kc ks (T.setTop (mkF m pc Ls (.long y :: .long x :: S))) := by
  subst hq
  exact k.by fun _ r => XS.lxor X.here hx rfl hd rfl r
theorem Es.ishl {x : Int32} {y : Int32} {q : Nat} (k : Ends p e below s Q kc ks (T.setTop (mkF m q Ls (.int (x <<< (y &&& 31)) :: S)))) (X : Stand p l e R s m args below meth c T locs cells slots) (hx : p.tables.exec = Jvm.exec) (hd : decode c.code pc = .ok (.ishl, 1)) (hq : pc + 1 = q) : Ends p e below s Q kc ks (T.setTop (mkF m pc Ls (.int y :: .int x :: S))) := by
  subst hq
  exact k.by fun _ r => XS.ishl X.here hx rfl hd rfl r
theorem Es.ishr {x : Int32} {y : Int32} {q : Nat} (k : Ends p e below s Q kc ks (T.setTop (mkF m q Ls (.int (x >>> (y &&& 31)) :: S)))) (X : Stand p l e R s m args below meth c T locs cells slots) (hx : p.tables.exec = Jvm.exec) (hd : decode c.code pc = .ok (.ishr, 1)) (hq : pc + 1 = q) : Ends p e below s Q kc ks (T.setTop (mkF m pc Ls (.int y :: .int x :: S))) := by
  subst hq
  exact k.by fun _ r => XS.ishr X.here hx rfl hd rfl r
theorem Es.iushr {x : Int32} {y : Int32} {q : Nat} (k : Ends p e below s Q kc ks (T.setTop (mkF m q Ls (.int ((x.toUInt32 >>> (y &&& 31).toUInt32).toInt32) :: S)))) (X : Stand p l e R s m args below meth c T locs cells slots) (hx : p.tables.exec = Jvm.exec) (hd : decode c.code pc = .ok (.iushr, 1)) (hq : pc + 1 = q) : Ends p e below s Q kc ks (T.setTop (mkF m pc Ls (.int y :: .int x :: S))) := by
  subst hq
  exact k.by fun _ r => XS.iushr X.here hx rfl hd rfl r
theorem Es.lshl {x : Int64} {y : Int32} {q : Nat} (k : Ends p e below s Q kc ks (T.setTop (mkF m q Ls (.long (x <<< (y &&& 0x3f).toInt64) :: S)))) (X : Stand p l e R s m args below meth c T locs cells slots) (hx : p.tables.exec = Jvm.exec) (hd : decode c.code pc = .ok (.lshl, 1)) (hq : pc + 1 = q) : Ends p e below s Q kc ks (T.setTop (mkF m pc Ls (.int y :: .long x :: S))) := by
  subst hq
  exact k.by fun _ r => XS.lshl X.here hx rfl hd rfl r
theorem Es.lshr {x : Int64} {y : Int32} {q : Nat} (k : Ends p e below s Q kc ks (T.setTop (mkF m q Ls (.long (x >>> (y &&& 0x3f).toInt64) :: S)))) (X : Stand p l e R s m args below meth c T locs cells slots) (hx : p.tables.exec = Jvm.exec) (hd : decode c.code pc = .ok (.lshr, 1)) (hq : pc + 1 = q) : Ends p e below s Q kc ks (T.setTop (mkF m pc Ls (.int y :: .long x :: S))) := by
  subst hq
  exact k.by fun _ r => XS.lshr X.here hx rfl hd rfl r
theorem Es.lushr {x : Int64} {y : Int32} {q : Nat} (k : Ends p e below s Q kc ks (T.setTop (mkF m q Ls (.long ((x.toUInt64 >>> (y &&& 0x3f).toInt64.toUInt64).toInt64) :: S)))) (X : Stand p l e R s m args below meth c T locs cells slots) (hx : p.tables.exec = Jvm.exec) (hd : decode c.code pc = .ok (.lushr, 1)) (hq : pc + 1 = q) : Ends p e below s Q kc ks (T.setTop (mkF m pc Ls (.int y :: .long x :: S))) := by
  subst hq
  exact k.by fun _ r => XS.lushr X.here hx rfl hd rfl r
theorem Es.ineg {x : Int32} {q : Nat} (k : Ends p e below s Q kc ks (T.setTop (mkF m q Ls (.int (-x) :: S)))) (X : Stand p l e R s m args below meth c T locs cells slots) (hx : p.tables.exec = Jvm.exec) (hd : decode c.code pc = .ok (.ineg, 1)) (hq : pc + 1 = q) : Ends p e below s Q kc ks (T.setTop (mkF m pc Ls (.int x :: S))) := by
  subst hq
  exact k.by fun _ r => XS.ineg X.here hx rfl hd rfl r
theorem Es.lneg {x : Int64} {q : Nat} (k : Ends p e below s Q kc ks (T.setTop (mkF m q Ls (.long (-x) :: S)))) (X : Stand p l e R s m args below meth c T locs cells slots) (hx : p.tables.exec = Jvm.exec) (hd : decode c.code pc = .ok (.lneg, 1)) (hq : pc + 1 = q) : Ends p e below s Q kc ks (T.setTop (mkF m pc Ls (.long x :: S))) := by
  subst hq
  exact k.by fun _ r => XS.lneg X.here hx rfl hd rfl r
theorem Es.i2l {x : Int32} {q : Nat} (k : Ends p e below s Q kc ks (T.setTop (mkF m q Ls (.long (x.toInt64) :: S)))) (X : Stand p l e R s m args below meth c T locs cells slots) (hx : p.tables.exec = Jvm.exec) (hd : decode c.code pc = .ok (.i2l, 1)) (hq : pc + 1 = q) : Ends p e below s Q kc ks (T.setTop (mkF m pc Ls (.int x :: S))) := by
  subst hq
  exact k.by fun _ r => XS.i2l X.here hx rfl hd rfl r
theorem Es.l2i {x : Int64} {q : Nat} (k : Ends p e below s Q kc ks (T.setTop (mkF m q Ls (.int (x.toInt32) :: S)))) (X : Stand p l e R s m args below meth c T locs cells slots) (hx : p.tables.exec = Jvm.exec) (hd : decode c.code pc = .ok (.l2i, 1)) (hq : pc + 1 = q) : Ends p e below s Q kc ks (T.setTop (mkF m pc Ls (.long x :: S))) := by
  subst hq
  exact k.by fun _ r => XS.l2i X.here hx rfl hd rfl r
theorem Es.i2b {x : Int32} {q : Nat} (k : Ends p e below s Q kc ks (T.setTop (mkF m q Ls (.int (x.toInt8.toInt32) :: S)))) (X : Stand p l e R s m args below meth c T locs cells slots) (hx : p.tables.exec = Jvm.exec) (hd : decode c.code pc = .ok (.i2b, 1)) (hq : pc + 1 = q) : Ends p e below s Q kc ks (T.setTop (mkF m pc Ls (.int x :: S))) := by
  subst hq
  exact k.by fun _ r => XS.i2b X.here hx rfl hd rfl r
theorem Es.i2s {x : Int32} {q : Nat} (k : Ends p e below s Q kc ks (T.setTop (mkF m q Ls (.int (x.toInt16.toInt32) :: S)))) (X : Stand p l e R s m args below meth c T locs cells slots) (hx : p.tables.exec = Jvm.exec) (hd : decode c.code pc = .ok (.i2s, 1)) (hq : pc + 1 = q) : Ends p e below s Q kc ks (T.setTop (mkF m pc Ls (.int x :: S))) := by
  subst hq
  exact k.by fun _ r => XS.i2s X.here hx rfl hd rfl r
theorem Es.i2c {x : Int32} {q : Nat} (k : Ends p e below s Q kc ks (T.setTop (mkF m q Ls (.int (x.toUInt32.toUInt16.toUInt32.toInt32) :: S)))) (X : Stand p l e R s m args below meth c T locs cells slots) (hx : p.tables.exec = Jvm.exec) (hd : decode c.code pc = .ok (.i2c, 1)) (hq : pc + 1 = q) : Ends p e below s Q kc ks (T.setTop (mkF m pc Ls (.int x :: S))) := by
  subst hq
  exact k.by fun _ r => XS.i2c X.here hx rfl hd rfl r
theorem Es.lcmp {x y : Int64} {q : Nat} (k : Ends p e below s Q kc ks (T.setTop (mkF m q Ls (.int (XT.cmpL x y) :: S)))) (X : Stand p l e R s m args below meth c T locs cells slots) (hx : p.tables.exec = Jvm.exec) (hd : decode c.code pc = .ok (.lcmp, 1)) (hq : pc + 1 = q) : Ends p e below s Q kc ks (T.setTop (mkF m pc Ls (.long y :: .long x :: S))) := by
  subst hq
  exact k.by fun _ r => XS.lcmp X.here hx rfl hd rfl r
theorem Es.idiv {x y : Int32} {q : Nat} (k : Ends p e below s Q kc ks (T.setTop (mkF m q Ls (.int (x / y) :: S)))) (X : Stand p l e R s m args below meth c T locs cells slots) (hx : p.tables.exec = Jvm.exec) (hd : decode c.code pc = .ok (.idiv, 1)) (hq : pc + 1 = q) (hy : y ≠ 0) : Ends p e below s Q kc ks (T.setTop (mkF m pc Ls (.int y :: .int x :: S))) := by
  subst hq
  exact k.by fun _ r => XS.idiv X.here hx rfl hd rfl hy r
theorem Es.ldiv {x y : Int64} {q : Nat} (k : Ends p e below s Q kc ks (T.setTop (mkF m q Ls (.long (x / y) :: S)))) (X : Stand p l e R s m args below meth c T locs cells slots) (hx : p.tables.exec = Jvm.exec) (hd : decode c.code pc = .ok (.ldiv, 1)) (hq : pc + 1 = q) (hy : y ≠ 0) : Ends p e below s Q kc ks (T.setTop (mkF m pc Ls (.long y :: .long x :: S))) := by
  subst hq
  exact k.by fun _ r => XS.ldiv X.here hx rfl hd rfl hy r
theorem Es.dup {x : Value} {q : Nat} (k : Ends p e below s Q kc ks (T.setTop (mkF m q Ls (x :: x :: S)))) (X : Stand p l e R s m args below meth c T locs cells slots) (hx : p.tables.exec = Jvm.exec) (hd : decode c.code pc = .ok (.dup, 1)) (hq : pc + 1 = q) (hc : x.category = 1) : Ends p e below s Q kc ks (T.setTop (mkF m pc Ls (x :: S))) := by
  subst hq
  exact k.by fun _ r => XS.dup X.here hx rfl hd rfl hc r
theorem Es.dup_x1 {x y : Value} {q : Nat} (k : Ends p e below s Q kc ks (T.setTop (mkF m q Ls (x :: y :: x :: S)))) (X : Stand p l e R s m args below meth c T locs cells slots) (hx : p.tables.exec = Jvm.exec) (hd : decode c.code pc = .ok (.dup_x1, 1)) (hq : pc + 1 = q) (hc : x.category = 1) (hc2 : y.category = 1) : Ends p e below s Q kc ks (T.setTop (mkF m pc Ls (x :: y :: S))) := by
  subst hq
  exact k.by fun _ r => XS.dupX1 X.here hx rfl hd rfl hc hc2 r
theorem Es.pop {x : Value} {q : Nat} (k : Ends p e below s Q kc ks (T.setTop (mkF m q Ls S))) (X : Stand p l e R s m args below meth c T locs cells slots) (hx : p.tables.exec = Jvm.exec) (hd : decode c.code pc = .ok (.pop, 1)) (hq : pc + 1 = q) (hc : x.category = 1) : Ends p e below s Q kc ks (T.setTop (mkF m pc Ls (x :: S))) := by
  subst hq
  exact k.by fun _ r => XS.pop X.here hx rfl hd rfl hc r
theorem Es.iinc {i : Nat} {cst : Int} {x : Int32} {l' : Array Slot} {q : Nat} (k : Ends p e below s Q kc ks (T.setTop (mkF m q l' S))) (X : Stand p l e R s m args below meth c T locs cells slots) (hx : p.tables.exec = Jvm.exec) (hd : decode c.code pc = .ok (.iinc i cst, 3)) (hq : pc + 3 = q) (hl : Ls[i]? = some (.val (.int x))) (hl' : storeLocals Ls i (.int (x + Int32.ofInt cst)) = some l') : Ends p e below s Q kc ks (T.setTop (mkF m pc Ls S)) := by
  subst hq
  exact k.by fun _ r => XS.iinc X.here hx rfl hd hl hl' r
theorem Es.ifNo {cd : ClassFile.Cond} {o : Int} {x : Int32} {q : Nat} (k : Ends p e below s Q kc ks (T.setTop (mkF m q Ls S))) (X : Stand p l e R s m args below meth c T locs cells slots) (hx : p.tables.exec = Jvm.exec) (hd : decode c.code pc = .ok (.ifCond cd o, 3)) (hq : pc + 3 = q) (hc : ifCond.holds cd x = false) : Ends p e below s Q kc ks (T.setTop (mkF m pc Ls (.int x :: S))) := by
  subst hq
  exact k.by fun _ r => XS.ifNo X.here hx rfl hd rfl hc r
theorem Es.icmpNo {cd : ClassFile.Cond} {o : Int} {x y : Int32} {q : Nat} (k : Ends p e below s Q kc ks (T.setTop (mkF m q Ls S))) (X : Stand p l e R s m args below meth c T locs cells slots) (hx : p.tables.exec = Jvm.exec) (hd : decode c.code pc = .ok (.if_icmp cd o, 3)) (hq : pc + 3 = q) (hc : if_icmp.holds cd x y = false) : Ends p e below s Q kc ks (T.setTop (mkF m pc Ls (.int y :: .int x :: S))) := by
  subst hq
  exact k.by fun _ r => XS.icmpNo X.here hx rfl hd rfl hc r
theorem Es.ifnonnullNo {o : Int} {q : Nat} (k : Ends p e below s Q kc ks (T.setTop (mkF m q Ls S))) (X : Stand p l e R s m args below meth c T locs cells slots) (hx : p.tables.exec = Jvm.exec) (hd : decode c.code pc = .ok (.ifnonnull o, 3)) (hq : pc + 3 = q) : Ends p e below s Q kc ks (T.setTop (mkF m pc Ls (.null :: S))) := by
  subst hq
  exact k.by fun _ r => XS.ifnonnullNo X.here hx rfl hd rfl r
theorem Es.goto {o : Int} {q : Nat} (k : Ends p e below s Q kc ks (T.setTop (mkF m q Ls S))) (X : Stand p l e R s m args below meth c T locs cells slots) (hx : p.tables.exec = Jvm.exec) (hd : decode c.code pc = .ok (.goto o, 3)) (ho : 0 ≤ (pc : Int) + o) (hp : ((pc : Int) + o).toNat = q) : Ends p e below s Q kc ks (T.setTop (mkF m pc Ls S)) :=
  k.by fun _ r => XS.goto X.here hx rfl (pc0 := pc) (pc' := q) rfl hd ho hp r
theorem Es.ifYes {cd : ClassFile.Cond} {o : Int} {x : Int32} {q : Nat} (k : Ends p e below s Q kc ks (T.setTop (mkF m q Ls S))) (X : Stand p l e R s m args below meth c T locs cells slots) (hx : p.tables.exec = Jvm.exec) (hd : decode c.code pc = .ok (.ifCond cd o, 3)) (hc : ifCond.holds cd x = true) (ho : 0 ≤ (pc : Int) + o) (hp : ((pc : Int) + o).toNat = q) : Ends p e below s Q kc ks (T.setTop (mkF m pc Ls (.int x :: S))) :=
  k.by fun _ r => XS.ifYes X.here hx rfl (pc0 := pc) (pc' := q) rfl hd rfl hc ho hp r
theorem Es.icmpYes {cd : ClassFile.Cond} {o : Int} {x y : Int32} {q : Nat} (k : Ends p e below s Q kc ks (T.setTop (mkF m q Ls S))) (X : Stand p l e R s m args below meth c T locs cells slots) (hx : p.tables.exec = Jvm.exec) (hd : decode c.code pc = .ok (.if_icmp cd o, 3)) (hc : if_icmp.holds cd x y = true) (ho : 0 ≤ (pc : Int) + o) (hp : ((pc : Int) + o).toNat = q) : Ends p e below s Q kc ks (T.setTop (mkF m pc Ls (.int y :: .int x :: S))) :=
  k.by fun _ r => XS.icmpYes X.here hx rfl (pc0 := pc) (pc' := q) rfl hd rfl hc ho hp r
theorem Es.ifnonnullYes {o : Int} {b : Addr} {q : Nat} (k : Ends p e below s Q kc ks (T.setTop (mkF m q Ls S))) (X : Stand p l e R s m args below meth c T locs cells slots) (hx : p.tables.exec = Jvm.exec) (hd : decode c.code pc = .ok (.ifnonnull o, 3)) (ho : 0 ≤ (pc : Int) + o) (hp : ((pc : Int) + o).toNat = q) : Ends p e below s Q kc ks (T.setTop (mkF m pc Ls (.ref b :: S))) :=
  k.by fun _ r => XS.ifnonnullYes X.here hx rfl (pc0 := pc) (pc' := q) rfl hd rfl ho hp r
theorem Es.irem {x y : Int32} {q : Nat} (k : Ends p e below s Q kc ks (T.setTop (mkF m q Ls (.int (x % y) :: S)))) (X : Stand p l e R s m args below meth c T locs cells slots) (hx : p.tables.exec = Jvm.exec) (hd : decode c.code pc = .ok (.irem, 1)) (hq : pc + 1 = q) (hy : y ≠ 0) : Ends p e below s Q kc ks (T.setTop (mkF m pc Ls (.int y :: .int x :: S))) := by
  subst hq
  exact k.by fun _ r => iremM X hx rfl hd rfl hy r
theorem Es.lrem {x y : Int64} {q : Nat} (k : Ends p e below s Q kc ks (T.setTop (mkF m q Ls (.long (x % y) :: S)))) (X : Stand p l e R s m args below meth c T locs cells slots) (hx : p.tables.exec = Jvm.exec) (hd : decode c.code pc = .ok (.lrem, 1)) (hq : pc + 1 = q) (hy : y ≠ 0) : Ends p e below s Q kc ks (T.setTop (mkF m pc Ls (.long y :: .long x :: S))) := by
  subst hq
  exact k.by fun _ r => lremM X hx rfl hd rfl hy r
theorem Es.ldc {own : String} {index : Nat} {v : Int32} {q : Nat} (k : Ends p e below s Q kc ks (T.setTop (mkF m q Ls (.int v :: S)))) (X : Stand p l e R s m args below meth c T locs cells slots) (hx : p.tables.exec = Jvm.exec) (hown : s.vm.findClass own = some m.cls) (w : (Cond.constant own index v).before args s = true) (hd : decode c.code pc = .ok (.ldc index, 2)) (hq : pc + 2 = q) : Ends p e below s Q kc ks (T.setTop (mkF m pc Ls S)) := by
  subst hq
  exact k.by (X.ldcInt hx hown w (g := mkF m pc Ls S) rfl hd)
theorem Es.ldc2 {own : String} {index : Nat} {v : Int64} {q : Nat} (k : Ends p e below s Q kc ks (T.setTop (mkF m q Ls (.long v :: S)))) (X : Stand p l e R s m args below meth c T locs cells slots) (hx : p.tables.exec = Jvm.exec) (hown : s.vm.findClass own = some m.cls) (w : (Cond.constantLong own index v).before args s = true) (hd : decode c.code pc = .ok (.ldc2_w index, 3)) (hq : pc + 3 = q) : Ends p e below s Q kc ks (T.setTop (mkF m pc Ls S)) := by
  subst hq
  exact k.by (X.ldc2Long hx hown w (g := mkF m pc Ls S) rfl hd)
end OwnSteps
section OwnHeap
variable {p : Program} {l : Launch} {e : Env} {R : Room} {s : State} {m : MethodId} {args : Array Value} {below : List Frame} {meth : Method} {c : Code} {T : State} {locs : List Loc} {cells slots : Nat}
variable {Q : Option Value → Heap → List Loc → Prop} {kc ks : Nat} {Z : State} {a0 : Array Value} {h h' : Heap} {a b : Addr} {ty : FieldType} {n sl : Nat} {g : Nat → Int32} {v : Value} {j x : Int32} {pc : Nat} {Ls : Array Slot} {S : List Value}
/-- an array of n small values: place j holds g j -/
def Ary (Z : State) (h : Heap) (a : Addr) (ty : FieldType) (n : Nat) (g : Nat → Int32) : Prop := ∃ cl : Cell, Arr Z h a cl ty ∧ cl.slots.size = n ∧ n < 2 ^ 31 ∧ ∀ j, j < n → cl.slots[j]? = some (.int (g j))
def upd (g : Nat → Int32) (j : Nat) (x : Int32) : Nat → Int32 := fun i => if i = j then x else g i
theorem Ary.lt (V : Ary Z h a ty n g) : a < h.size := V.elim fun _ q => q.1.lt
theorem Ary.ext (V : Ary Z h a ty n g) (E : Ext h h') : Ary Z h' a ty n g := by obtain ⟨c, A, r⟩ := V; exact ⟨c, A.ext E, r⟩
theorem Ary.other (V : Ary Z h b ty n g) (W : Wr h h' a sl v) (q : b ≠ a) : Ary Z h' b ty n g := by obtain ⟨c, A, r⟩ := V; exact ⟨c, A.other W q, r⟩
theorem Ary.keep {ws : List Addr} (V : Ary Z h a ty n g) (K : Keep h h' ws) (q : a ∉ ws) : Ary Z h' a ty n g := by obtain ⟨c, A, r⟩ := V; exact ⟨c, ⟨K.2.1 a c A.1 q, A.2⟩, r⟩
theorem Ary.set (V : Ary Z h a ty n g) (W : Wr h h' a sl (.int x)) : Ary Z h' a ty n (upd g sl x) := by
  obtain ⟨c, A, S, M, H⟩ := V
  refine ⟨_, A.same W, by rw [sz_set]; exact S, M, fun i hi => ?_⟩
  have hi' : i < c.slots.size := by omega
  simp only [Cell.setSlot, Array.getElem?_setIfInBounds, upd]
  by_cases q : i = sl
  · subst q; simp [hi']
  · have q' : ¬ sl = i := fun e => q e.symm
    simp [q, q']; exact H i hi
theorem Ary.inb {cl : Cell} (S : cl.slots.size = n) (hj : 0 ≤ j.toInt ∧ j.toInt < n) : ¬ (j < 0 ∨ cl.slots.size ≤ j.toNatClampNeg) := by
  have e0 : (0 : Int32).toInt = 0 := rfl
  simp only [Int32.lt_iff_toInt_lt, Int32.toNatClampNeg] at *; omega
theorem Ary.at {cl : Cell} (H : ∀ j, j < n → cl.slots[j]? = some (.int (g j))) (hj : 0 ≤ j.toInt ∧ j.toInt < n) : cl.slots[j.toNatClampNeg]? = some (.int (g j.toNatClampNeg)) :=
  H _ (by simp only [Int32.toNatClampNeg]; omega)
theorem Ends.iald (k : Ends p e below s Q kc ks (T.setTop (mkF m (pc + 1) Ls (.int (g j.toNatClampNeg) :: S)))) (X : Stand p l e R s m args below meth c T locs cells slots) (hx : p.tables.exec = Jvm.exec) (hZ : Z.Warmed39 s.vm) (eT : T.heap = h) (V : Ary Z h a .int n g) (hj : 0 ≤ j.toInt ∧ j.toInt < n)
    (hd : decode c.code pc = .ok (.iaload, 1)) : Ends p e below s Q kc ks (T.setTop (mkF m pc Ls (.int j :: .ref a :: S))) := by
  obtain ⟨cl, A, S1, M, H⟩ := V
  exact k.by fun t q => X.iaload hx (j := j) (by rw [eT]; exact A.1) (State.isArrayOf_alike hZ.alike A.2.1) A.2.2 (Ary.inb S1 hj) (Ary.at H hj) (g := mkF m pc Ls (.int j :: .ref a :: S)) rfl rfl hd t q
theorem Ends.bald (k : Ends p e below s Q kc ks (T.setTop (mkF m (pc + 1) Ls (.int (g j.toNatClampNeg) :: S)))) (X : Stand p l e R s m args below meth c T locs cells slots) (hx : p.tables.exec = Jvm.exec) (hZ : Z.Warmed39 s.vm) (eT : T.heap = h) (V : Ary Z h a .byte n g) (hj : 0 ≤ j.toInt ∧ j.toInt < n)
    (hd : decode c.code pc = .ok (.baload, 1)) : Ends p e below s Q kc ks (T.setTop (mkF m pc Ls (.int j :: .ref a :: S))) := by
  obtain ⟨cl, A, S1, M, H⟩ := V
  exact k.by fun t q => X.baloadBytes hx (j := j) (by rw [eT]; exact A.1) (State.isArrayOf_alike hZ.alike A.2.1) A.2.2 (Ary.inb S1 hj) (Ary.at H hj) (g := mkF m pc Ls (.int j :: .ref a :: S)) rfl rfl hd t q
theorem Ends.alen {z : Int32} (k : Ends p e below s Q kc ks (T.setTop (mkF m (pc + 1) Ls (.int z :: S)))) (X : Stand p l e R s m args below meth c T locs cells slots) (hx : p.tables.exec = Jvm.exec) (hZ : Z.Warmed39 s.vm) (eT : T.heap = h) (V : Ary Z h a ty n g) (hz : z.toInt = n)
    (hd : decode c.code pc = .ok (.arraylength, 1)) : Ends p e below s Q kc ks (T.setTop (mkF m pc Ls (.ref a :: S))) := by
  obtain ⟨cl, A, S1, M, H⟩ := V
  have e1 : cl.slots.size.toInt32 = z := by
    rw [S1]; apply Int32.toInt_inj.mp; rw [hz]; exact len_toInt M
  exact k.by fun t q => X.arraylength hx (by rw [eT]; exact A.1) (State.isArrayOf_alike hZ.alike A.2.1) (g := mkF m pc Ls (.ref a :: S)) rfl rfl hd t (by rw [e1]; exact q)
theorem stIA (X : Stand p l e R s m args below meth c T locs cells slots) (hx : p.tables.exec = Jvm.exec) (hZ : Z.Warmed39 s.vm) (eT : T.heap = h) (V : Ary Z h a .int n g) (hj : 0 ≤ j.toInt ∧ j.toInt < n) (hd : decode c.code pc = .ok (.iastore, 1)) :
    ∃ T' h', Stand p l e R s m args below meth c T' (locs ++ [⟨a, j.toNatClampNeg⟩]) cells slots ∧ T'.heap = h' ∧ Wr h h' a j.toNatClampNeg (.int x) ∧ Ary Z h' a .int n (upd g j.toNatClampNeg x) ∧
      ∀ t, Steps p.tables e below (T'.setTop (mkF m (pc + 1) Ls S)) t → Steps p.tables e below (T.setTop (mkF m pc Ls (.int x :: .int j :: .ref a :: S))) t := by
  have V' := V
  obtain ⟨cl, A, S1, M, H⟩ := V
  obtain ⟨T', h', X', e', W, st⟩ := stI X hx hZ eT A (j := j) (x := x) (Ary.inb S1 hj) (g := mkF m pc Ls (.int x :: .int j :: .ref a :: S)) rfl rfl hd
  exact ⟨T', h', X', e', W, V'.set W, st⟩
theorem stBA (X : Stand p l e R s m args below meth c T locs cells slots) (hx : p.tables.exec = Jvm.exec) (hZ : Z.Warmed39 s.vm) (eT : T.heap = h) (V : Ary Z h a .byte n g) (hj : 0 ≤ j.toInt ∧ j.toInt < n) (hd : decode c.code pc = .ok (.bastore, 1)) :
    ∃ T' h', Stand p l e R s m args below meth c T' (locs ++ [⟨a, j.toNatClampNeg⟩]) cells slots ∧ T'.heap = h' ∧ Wr h h' a j.toNatClampNeg (.int x.toInt8.toInt32) ∧ Ary Z h' a .byte n (upd g j.toNatClampNeg x.toInt8.toInt32) ∧
      ∀ t, Steps p.tables e below (T'.setTop (mkF m (pc + 1) Ls S)) t → Steps p.tables e below (T.setTop (mkF m pc Ls (.int x :: .int j :: .ref a :: S))) t := by
  have V' := V
  obtain ⟨cl, A, S1, M, H⟩ := V
  obtain ⟨T', h', X', e', W, st⟩ := stB X hx hZ eT A (j := j) (x := x) (Ary.inb S1 hj) (g := mkF m pc Ls (.int x :: .int j :: .ref a :: S)) rfl rfl hd
  exact ⟨T', h', X', e', W, V'.set W, st⟩
theorem newAr (X : Stand p l e R s m args below meth c T locs cells slots) (hx : p.tables.exec = Jvm.exec) (hZ : Z.Warmed39 s.vm) {aty : ArrayType} (w : (Cond.arrayClass (newarray.typeOf aty)).before a0 Z = true) (hty : defaultValue (newarray.typeOf aty) = .int 0) (eT : T.heap = h) {z : Int32} {cap : Nat} (hz : z.toInt = n) (hcap : n ≤ cap)
    (hb : cap * 8 ≤ 536870912) (hc : cells + 1 ≤ R.cells) (hl : slots + cap ≤ R.slots) (hd : decode c.code pc = .ok (.newarray aty, 2)) :
    ∃ T' h', Stand p l e R s m args below meth c T' locs (cells + 1) (slots + cap) ∧ T'.heap = h' ∧ Ext h h' ∧ Ary Z h' h.size (newarray.typeOf aty) n (fun _ => 0) ∧
      ∀ t, Steps p.tables e below (T'.setTop (mkF m (pc + 2) Ls (.ref h.size :: S))) t → Steps p.tables e below (T.setTop (mkF m pc Ls (.int z :: S))) t := by
  have e0 : (0 : Int32).toInt = 0 := rfl
  have hz2 : z.toNatClampNeg = n := by simp only [Int32.toNatClampNeg]; omega
  have rz := rng32 z
  obtain ⟨T', h', cA, X', e', E, A, st⟩ := newP X hx hZ w eT (g := mkF m pc Ls (.int z :: S)) rfl hd rfl (by rw [Int32.lt_iff_toInt_lt]; omega) (cap := cap) (by omega) hb hc hl
  refine ⟨T', h', X', e', E, ⟨_, A, by rw [sz_new]; exact hz2, by omega, fun j hj => ?_⟩, st⟩
  simp only [newA, hz2, hty]
  simp [hj]
theorem newArE (X : Stand p l e R s m args below meth c T locs cells slots) (hx : p.tables.exec = Jvm.exec) (hZ : Z.Warmed39 s.vm) {aty : ArrayType} {C : String} (hC : "[" ++ (newarray.typeOf aty).toString = C) (w : (Cond.arrayClass (newarray.typeOf aty)).before a0 Z = true) (hty : defaultValue (newarray.typeOf aty) = .int 0) (eT : T.heap = h) {z : Int32} {cap : Nat} (hz : z.toInt = n) (hcap : n ≤ cap)
    (hb : cap * 8 ≤ 536870912) (hc : cells + 1 ≤ R.cells) (hl : slots + cap ≤ R.slots) (hd : decode c.code pc = .ok (.newarray aty, 2)) :
    ∃ T' h', Stand p l e R s m args below meth c T' locs (cells + 1) (slots + cap) ∧ T'.heap = h' ∧ Ext h h' ∧ Ary Z h' h.size (newarray.typeOf aty) n (fun _ => 0) ∧ Exa Z h' h.size C ∧
      ∀ t, Steps p.tables e below (T'.setTop (mkF m (pc + 2) Ls (.ref h.size :: S))) t → Steps p.tables e below (T.setTop (mkF m pc Ls (.int z :: S))) t := by
  have e0 : (0 : Int32).toInt = 0 := rfl
  have hz2 : z.toNatClampNeg = n := by simp only [Int32.toNatClampNeg]; omega
  have rz := rng32 z
  have hcb : componentBytes (newarray.typeOf aty) ≤ 8 := by cases aty <;> decide
  have hby : z.toNatClampNeg * componentBytes (newarray.typeOf aty) ≤ 536870912 := by
    rw [hz2]; exact Nat.le_trans (Nat.mul_le_mul hcap hcb) hb
  obtain ⟨cA, kA, comp, q1, q2, q3, X', st⟩ := X.newarrayPrim hx (mvA hZ w) (g := mkF m pc Ls (.int z :: S)) rfl hd rfl (by rw [Int32.lt_iff_toInt_lt]; omega) hby hc (by omega)
  subst eT
  have q1' : Z.vm.findClass C = some cA := by rw [← hC, ← hZ.alike.findClass]; exact q1
  obtain ⟨kZ, r1, -⟩ := Vm.findClass_spec q1'
  obtain ⟨k2, r2, r3⟩ := hZ.alike.2.2 _ _ r1
  have r4 : kA = k2 := Option.some.inj (q2.symm.trans r2)
  have hkind : kZ.kind = .array comp (newarray.typeOf aty) := by rw [← q3, r4, r3]
  have hat : (T.heap.push { cls := cA, slots := Array.replicate z.toNatClampNeg (defaultValue (newarray.typeOf aty)), vm := .none })[T.heap.size]? = some { cls := cA, slots := Array.replicate z.toNatClampNeg (defaultValue (newarray.typeOf aty)), vm := .none } := by simp
  refine ⟨_, _, X'.more (Nat.le_refl _) (by omega), rfl, ⟨?_, fun x y q => ?_⟩, ⟨_, ⟨hat, ⟨by simp, kZ, r1, comp, hkind⟩, by simp⟩, by simp [hz2], by omega, fun j hj => ?_⟩, ⟨_, kZ, hat, q1', r1, rfl, fun q => by rw [hkind] at q; cases q⟩, st⟩
  · show T.heap.size ≤ (T.heap.push _).size
    simp
  · show (T.heap.push _)[x]? = some y
    have hx' := (Array.getElem?_eq_some_iff.mp q).1
    rw [Array.getElem?_push_lt hx', ← q, Array.getElem?_eq_getElem hx']
  · simp [hz2, hty, hj]
theorem Ary.fitC {cl : Cell} (A : Arr Z h a cl .int) (S1 : cl.slots.size = n) (H : ∀ j, j < n → cl.slots[j]? = some (.int (g j))) : FitC Z cl := fun i v hv => by
  obtain ⟨-, k, hk, comp, hkind⟩ := A.2.1
  have hi := (Array.getElem?_eq_some_iff.mp hv).1
  have q := (H i (by omega)).symm.trans hv
  cases q
  simp [State.fitsSlot, State.slotType?, hk, hkind, fits]
theorem cloneAr (X : Stand p l e R s m args below meth c T locs cells slots) (hx : p.tables.exec = Jvm.exec) (hZ : Z.Warmed39 s.vm) {own : String} {index : Nat} (hown : s.vm.findClass own = some m.cls) (hml : Ls.size = c.maxLocals)
    (w1 : (Cond.methodLink own index ⟨"[I", "clone", "()Ljava/lang/Object;"⟩).before a0 Z = true) (w2 : (Cond.sameMethod "[I" "java/lang/Object" "clone" "()Ljava/lang/Object;").before a0 Z = true) (w3 : (Cond.native ⟨"java/lang/Object", "clone", "()Ljava/lang/Object;"⟩).before a0 Z = true)
    (w4 : (Cond.instanceMethod ⟨"java/lang/Object", "clone", "()Ljava/lang/Object;"⟩).before a0 Z = true) (w5 : (Cond.selects "[I" ⟨"[I", "clone", "()Ljava/lang/Object;"⟩ ⟨"java/lang/Object", "clone", "()Ljava/lang/Object;"⟩).before a0 Z = true) (w6 : (Cond.castable "[I" "java/lang/Cloneable").before a0 Z = true)
    (eT : T.heap = h) (V : Ary Z h a .int n g) (E : Exa Z h a "[I") {W cap : Nat} (hW : 2 * 0 + (S.map fun v => v.category).sum ≤ W) (hcap : n ≤ cap) (hf : 1 ≤ R.frames) (hl : W + 14 ≤ R.locals) (hc : cells + 1 ≤ R.cells) (hsl : slots + cap ≤ R.slots) (hd : decode c.code pc = .ok (.invokevirtual index, 3)) :
    ∃ T' h', Stand p l e R s m args below meth c T' locs (cells + 1) (slots + cap) ∧ T'.heap = h' ∧ Ext h h' ∧ Ary Z h' h.size .int n g ∧ Exa Z h' h.size "[I" ∧
      ∀ t, Steps p.tables e below (T'.setTop (mkF m (pc + 3) Ls (.ref h.size :: S))) t → Steps p.tables e below (T.setTop (mkF m pc Ls (.ref a :: S))) t := by
  obtain ⟨cl, A, S1, M, H⟩ := V
  obtain ⟨T', h', X', e', E', A', Ex, st⟩ := cloneA X hx hZ hown w1 w2 w3 w4 w5 w6 eT A E (Ary.fitC A S1 H) (g := mkF m pc Ls (.ref a :: S)) rfl hml rfl hd hf (W := W) (cap := cap) hW hl (by omega) hc hsl
  exact ⟨T', h', X', e', E', ⟨_, A', S1, M, H⟩, Ex, st⟩
end OwnHeap
/-- a method that writes into ws alone: what it returns, the rest kept, what P says of the heap that it leaves -/
def QK (V : Option Value) (h0 : Heap) (ws : List Addr) (n0 : Nat) (P : Heap → Prop) (v : Option Value) (h : Heap) (L : List Loc) : Prop := v = V ∧ Fr n0 L ∧ Keep h0 h ws ∧ P h

theorem d4_0 : decode method_2_code 0 = .ok (.iload_n 0, 1) := by decide +kernel
theorem d4_1 : decode method_2_code 1 = .ok (.ifCond .ne 5, 3) := by decide +kernel
theorem d4_4 : decode method_2_code 4 = .ok (.iload_n 1, 1) := by decide +kernel
theorem d4_5 : decode method_2_code 5 = .ok (.ireturn, 1) := by decide +kernel
theorem d4_6 : decode method_2_code 6 = .ok (.iload_n 0, 1) := by decide +kernel
theorem d4_7 : decode method_2_code 7 = .ok (.bipush 16, 2) := by decide +kernel
theorem d4_9 : decode method_2_code 9 = .ok (.if_icmp .ne 5, 3) := by decide +kernel
theorem d4_12 : decode method_2_code 12 = .ok (.iload_n 3, 1) := by decide +kernel
theorem d4_13 : decode method_2_code 13 = .ok (.ireturn, 1) := by decide +kernel
theorem d4_14 : decode method_2_code 14 = .ok (.iload_n 2, 1) := by decide +kernel
theorem d4_15 : decode method_2_code 15 = .ok (.iload_n 0, 1) := by decide +kernel
theorem d4_16 : decode method_2_code 16 = .ok (.iadd, 1) := by decide +kernel
theorem d4_17 : decode method_2_code 17 = .ok (.ireturn, 1) := by decide +kernel
def f4 (x0 : Int32) (x1 : Int32) (x2 : Int32) (x3 : Int32) : Int32 := (if x0 = (0 : Int32) then x1 else (if x0 = (16 : Int32) then x3 else (x2 + x0)))
theorem ef_rm4 (m : MethodId) (x0 : Int32) (x1 : Int32) (x2 : Int32) (x3 : Int32) : entryFrame m #[(.int x0), (.int x1), (.int x2), (.int x3)] 4 = mkF m 0 #[.val (.int x0), .val (.int x1), .val (.int x2), .val (.int x3)] [] := by first | (simp [entryFrame, mkF, argsToLocals, Value.category]; done) | rfl
theorem pn_0 : plainName "com/example/tarsier/tarsier/index/IntListAddPinLaw" = true := by first | (simp [plainName, overriddenIn]; done) | decide +kernel
set_option maxRecDepth 65536 in
set_option maxHeartbeats 40000000 in
theorem rm4 (l : Launch) (Z : State) (a0 : Array Value) (hw : ∀ d ∈ tables_1, d.before a0 Z = true) (ws : List Jvm.Cond) (x0 : Int32) (x1 : Int32) (x2 : Int32) (x3 : Int32) (h0 : Heap) (n0 : Nat) (Z0 : n0 ≤ h0.size) :
    MetFree l (⟨"com/example/tarsier/tarsier/index/IntListAddPinLaw", "val", "(IIII)I"⟩ : MethodName) (head1 (Jvm.Cond.code (⟨"com/example/tarsier/tarsier/index/IntListAddPinLaw", "val", "(IIII)I"⟩ : MethodName) method_2_code 4 (some .int) :: ws) ({ frames := 0, cells := 0, slots := 0, locals := 0 } : Room)) (fun a U => a = #[(.int x0), (.int x1), (.int x2), (.int x3)] ∧ Z.Warmed39 U.vm ∧ U.heap = h0) (fun _ _ _ _ _ => True) (fun _ U o U' => ∃ v L, o = .returned v ∧ (QP (some (.int (f4 x0 x1 x2 x3))) h0 n0) v U'.heap L ∧ FrameEnd U o U' L ({ frames := 0, cells := 0, slots := 0, locals := 0 } : Room).cells ({ frames := 0, cells := 0, slots := 0, locals := 0 } : Room).slots) := by
  refine MetFree.of_bodySF (plainFor_of_name pn_0) hisR ?_
  intro p e s m args below meth c s₁ Bd hml0 hP hK
  obtain ⟨rfl, hZ, hh⟩ := hP
  have hx := Bd.exec
  have hby := Bd.bytes
  have hml : c.maxLocals = 4 := hml0
  have hown : s.vm.findClass "com/example/tarsier/tarsier/index/IntListAddPinLaw" = some m.cls := findClass_of_methodNamed Bd.named
  have hnm := (name_of_methodNamed Bd.named Bd.method).1
  have X0 : Stand p l e ({ frames := 0, cells := 0, slots := 0, locals := 0 } : Room) s m #[(.int x0), (.int x1), (.int x2), (.int x3)] below meth c s₁ [] 0 0 := Stand.of_body Bd
  have e0 : s₁.heap = h0 := by rw [← hh, Bd.state]; rfl
  have N0 := Fr.nil n0
  show Ends p e below s (QP (some (.int (f4 x0 x1 x2 x3))) h0 n0) ({ frames := 0, cells := 0, slots := 0, locals := 0 } : Room).cells ({ frames := 0, cells := 0, slots := 0, locals := 0 } : Room).slots (s₁.setTop (entryFrame m #[(.int x0), (.int x1), (.int x2), (.int x3)] 4))
  rw [ef_rm4 m x0 x1 x2 x3]
  have hv0 : f4 x0 x1 x2 x3 = f4 x0 x1 x2 x3 := rfl
  show Ends p e below s _ _ _ (s₁.setTop (mkF m 0 #[.val (.int x0), .val (.int x1), .val (.int x2), .val (.int x3)] []))
  refine Es.iloadN (q := 1) ?_ X0 hx (hb hby d4_0) rfl rfl
  by_cases hc1 : x0 = (0 : Int32)
  · have hv2 := hv0.trans (if_pos hc1)
    refine Es.ifNo (q := 4) ?_ X0 hx (hb hby d4_1) rfl (XT.i0_ne_f hc1)
    refine Es.iloadN (q := 5) ?_ X0 hx (hb hby d4_4) rfl rfl
    exact Ends.retI X0 hx Bd.notSynchronized Bd.returns (hb hby d4_5) ⟨by rw [hv2]; first | done | rfl, N0, e0⟩ (by decide) (by decide)
  · have hv3 := hv0.trans (if_neg hc1)
    refine Es.ifYes (q := 6) ?_ X0 hx (hb hby d4_1) (XT.i0_ne_t hc1) (by decide) (by decide)
    refine Es.iloadN (q := 7) ?_ X0 hx (hb hby d4_6) rfl rfl
    refine Es.bipush (q := 9) (z := (16 : Int32)) ?_ X0 hx (hb hby d4_7) rfl rfl
    by_cases hc4 : x0 = (16 : Int32)
    · have hv5 := hv3.trans (if_pos hc4)
      refine Es.icmpNo (q := 12) ?_ X0 hx (hb hby d4_9) rfl (XT.ii_ne_f hc4)
      refine Es.iloadN (q := 13) ?_ X0 hx (hb hby d4_12) rfl rfl
      exact Ends.retI X0 hx Bd.notSynchronized Bd.returns (hb hby d4_13) ⟨by rw [hv5]; first | done | rfl, N0, e0⟩ (by decide) (by decide)
    · have hv6 := hv3.trans (if_neg hc4)
      refine Es.icmpYes (q := 14) ?_ X0 hx (hb hby d4_9) (XT.ii_ne_t hc4) (by decide) (by decide)
      refine Es.iloadN (q := 15) ?_ X0 hx (hb hby d4_14) rfl rfl
      refine Es.iloadN (q := 16) ?_ X0 hx (hb hby d4_15) rfl rfl
      refine Es.iadd (q := 17) ?_ X0 hx (hb hby d4_16) rfl
      exact Ends.retI X0 hx Bd.notSynchronized Bd.returns (hb hby d4_17) ⟨by rw [hv6]; first | done | rfl, N0, e0⟩ (by decide) (by decide)

theorem d9_0 : decode jdk_29_method_69_code 0 = .ok (.iload_n 0, 1) := by decide +kernel
theorem d9_1 : decode jdk_29_method_69_code 1 = .ok (.iload_n 1, 1) := by decide +kernel
theorem d9_2 : decode jdk_29_method_69_code 2 = .ok (.if_icmp .gt 7, 3) := by decide +kernel
theorem d9_9 : decode jdk_29_method_69_code 9 = .ok (.iload_n 1, 1) := by decide +kernel
theorem d9_10 : decode jdk_29_method_69_code 10 = .ok (.ireturn, 1) := by decide +kernel
theorem d9_5 : decode jdk_29_method_69_code 5 = .ok (.iload_n 0, 1) := by decide +kernel
theorem d9_6 : decode jdk_29_method_69_code 6 = .ok (.goto 4, 3) := by decide +kernel
def f9 (x0 : Int32) (x1 : Int32) : Int32 := (if x1 < x0 then x1 else x0)
theorem ef_rm9 (m : MethodId) (x0 : Int32) (x1 : Int32) : entryFrame m #[(.int x0), (.int x1)] 2 = mkF m 0 #[.val (.int x0), .val (.int x1)] [] := by first | (simp [entryFrame, mkF, argsToLocals, Value.category]; done) | rfl
set_option maxRecDepth 65536 in
set_option maxHeartbeats 40000000 in
theorem rm9 (l : Launch) (Z : State) (a0 : Array Value) (hw : ∀ d ∈ tables_1, d.before a0 Z = true) (ws : List Jvm.Cond) (x0 : Int32) (x1 : Int32) (h0 : Heap) (n0 : Nat) (Z0 : n0 ≤ h0.size) :
    MetFree l (⟨"java/lang/Math", "min", "(II)I"⟩ : MethodName) (head1 (Jvm.Cond.code (⟨"java/lang/Math", "min", "(II)I"⟩ : MethodName) jdk_29_method_69_code 2 (some .int) :: ws) ({ frames := 0, cells := 0, slots := 0, locals := 0 } : Room)) (fun a U => a = #[(.int x0), (.int x1)] ∧ Z.Warmed39 U.vm ∧ U.heap = h0) (fun _ _ _ _ _ => True) (fun _ U o U' => ∃ v L, o = .returned v ∧ (QP (some (.int (f9 x0 x1))) h0 n0) v U'.heap L ∧ FrameEnd U o U' L ({ frames := 0, cells := 0, slots := 0, locals := 0 } : Room).cells ({ frames := 0, cells := 0, slots := 0, locals := 0 } : Room).slots) := by
  refine MetFree.of_bodySF (Jvm.Free.JP.mathPlain rfl (by decide +kernel)) hisR ?_
  intro p e s m args below meth c s₁ Bd hml0 hP hK
  obtain ⟨rfl, hZ, hh⟩ := hP
  have hx := Bd.exec
  have hby := Bd.bytes
  have hml : c.maxLocals = 2 := hml0
  have hown : s.vm.findClass "java/lang/Math" = some m.cls := findClass_of_methodNamed Bd.named
  have hnm := (name_of_methodNamed Bd.named Bd.method).1
  have X0 : Stand p l e ({ frames := 0, cells := 0, slots := 0, locals := 0 } : Room) s m #[(.int x0), (.int x1)] below meth c s₁ [] 0 0 := Stand.of_body Bd
  have e0 : s₁.heap = h0 := by rw [← hh, Bd.state]; rfl
  have N0 := Fr.nil n0
  show Ends p e below s (QP (some (.int (f9 x0 x1))) h0 n0) ({ frames := 0, cells := 0, slots := 0, locals := 0 } : Room).cells ({ frames := 0, cells := 0, slots := 0, locals := 0 } : Room).slots (s₁.setTop (entryFrame m #[(.int x0), (.int x1)] 2))
  rw [ef_rm9 m x0 x1]
  have hv0 : f9 x0 x1 = f9 x0 x1 := rfl
  show Ends p e below s _ _ _ (s₁.setTop (mkF m 0 #[.val (.int x0), .val (.int x1)] []))
  refine Es.iloadN (q := 1) ?_ X0 hx (hb hby d9_0) rfl rfl
  refine Es.iloadN (q := 2) ?_ X0 hx (hb hby d9_1) rfl rfl
  by_cases hc1 : x1 < x0
  · have hv2 := hv0.trans (if_pos hc1)
    refine Es.icmpYes (q := 9) ?_ X0 hx (hb hby d9_2) (XT.ii_gt_t hc1) (by decide) (by decide)
    refine Es.iloadN (q := 10) ?_ X0 hx (hb hby d9_9) rfl rfl
    exact Ends.retI X0 hx Bd.notSynchronized Bd.returns (hb hby d9_10) ⟨by rw [hv2]; first | done | rfl, N0, e0⟩ (by decide) (by decide)
  · have hv3 := hv0.trans (if_neg hc1)
    refine Es.icmpNo (q := 5) ?_ X0 hx (hb hby d9_2) rfl (XT.ii_gt_f hc1)
    refine Es.iloadN (q := 6) ?_ X0 hx (hb hby d9_5) rfl rfl
    refine Es.goto (q := 10) ?_ X0 hx (hb hby d9_6) (by decide) (by decide)
    exact Ends.retI X0 hx Bd.notSynchronized Bd.returns (hb hby d9_10) ⟨by rw [hv3]; first | done | rfl, N0, e0⟩ (by decide) (by decide)

/-- what place j must hold -/
def vv (a b d : Int32) (j : Nat) : Int32 := f4 (Int32.ofNat j) a b d
/-- the list at o holds k values, the first ones of v -/
def IL (Z : State) (h : Heap) (o : Addr) (k n0 : Nat) (v : Nat → Int32) : Prop := Exa Z h o "com/example/tarsier/tarsier/index/IntList" ∧ n0 ≤ o ∧ Fld Z h o "com/example/tarsier/tarsier/index/IntList" "size" "I" (.int (Int32.ofNat k)) ∧ ∃ (b : Addr) (g : Nat → Int32) (C : Nat), b ≠ o ∧ n0 ≤ b ∧ Fld Z h o "com/example/tarsier/tarsier/index/IntList" "values" "[I" (.ref b) ∧ Ary Z h b .int C g ∧ C = (if k ≤ 16 then 16 else 32) ∧ ∀ j, j < k → g j = v j
def QI (V : Option Value) (n0 : Nat) (P : Heap → Prop) (v : Option Value) (h : Heap) (L : List Loc) : Prop := v = V ∧ Fr n0 L ∧ n0 ≤ h.size ∧ P h
def QC (Z : State) (h0 : Heap) (n0 : Nat) (g : Nat → Int32) (v : Option Value) (h : Heap) (L : List Loc) : Prop := ∃ b, v = some (.ref b) ∧ Fr n0 L ∧ Keep h0 h [] ∧ h0.size ≤ b ∧ ∃ g', Ary Z h b .int 32 g' ∧ ∀ j, j < 16 → g' j = g j
theorem own_ofNat {i : Nat} (h : i < 1000) : (Int32.ofNat i).toInt = i := Int32.toInt_ofNat_small (by omega)
theorem own_clamp {i : Nat} (h : i < 1000) : (Int32.ofNat i).toNatClampNeg = i := by simp only [Int32.toNatClampNeg, own_ofNat h]; omega
theorem own_lt {i j : Nat} (h : i < 1000) (h' : j < 1000) : Int32.ofNat i < Int32.ofNat j ↔ i < j := by rw [Int32.lt_iff_toInt_lt, own_ofNat h, own_ofNat h']; omega
theorem own_eq {i j : Nat} (h : i < 1000) (h' : j < 1000) : Int32.ofNat i = Int32.ofNat j ↔ i = j := by rw [← Int32.toInt_inj, own_ofNat h, own_ofNat h']; omega
theorem own_succ (i : Nat) : Int32.ofNat i + (1 : Int32) = Int32.ofNat (i + 1) := by show Int32.ofNat i + Int32.ofNat 1 = _; rw [← Int32.ofNat_add]
theorem own_cap {k C : Nat} (h : C = (if k ≤ 16 then 16 else 32)) : C = 16 ∧ k ≤ 16 ∨ C = 32 ∧ 16 < k := by split at h <;> omega
theorem Ary.arv {Z : State} {h : Heap} {a : Addr} {n : Nat} {g : Nat → Int32} (V : Ary Z h a .int n g) (hn : n < 1000) : ∃ k, Arv Z h a k .int (Int32.ofNat n) ((List.range n).map fun j => Value.int (g j)) (.int 0) := by
  obtain ⟨cl, A, S, M, H⟩ := V
  refine ⟨cl.cls, cl, A, rfl, by rw [own_clamp hn]; exact S, by rw [Int32.lt_iff_toInt_lt, own_ofNat hn]; have e0 : (0 : Int32).toInt = 0 := rfl; omega, fun i hi => ?_, fun i hi => ?_⟩
  · rw [H i (by omega), List.getD_eq_getElem?_getD, List.getElem?_map, List.getElem?_range (by omega)]; rfl
  · rw [List.getD_eq_getElem?_getD, List.getElem?_map, List.getElem?_range (by omega)]; rfl
theorem Ary.of_arv {Z : State} {h : Heap} {a : Addr} {k : ClassId} {n : Nat} {vs : List Value} {dv : Value} {g : Nat → Int32} (V : Arv Z h a k .int (Int32.ofNat n) vs dv) (hn : n < 1000) (q : ∀ j, j < n → vs.getD j dv = .int (g j)) : Ary Z h a .int n g := by
  obtain ⟨cl, A, -, S, -, H, -⟩ := V
  rw [own_clamp hn] at S
  exact ⟨cl, A, S, by omega, fun j hj => by rw [H j (by omega), q j hj]⟩
theorem own_copy (g g2 : Nat → Int32) (j : Nat) (hj : j < 32) : ((((List.range 32).map fun j => Value.int (g2 j)).take 0 ++ ((List.range 16).map fun i => ((List.range 16).map fun j => Value.int (g j)).getD (0 + i) (.int 0)) ++ ((List.range 32).map fun j => Value.int (g2 j)).drop (0 + 16))).getD j (.int 0) = .int (if j < 16 then g j else g2 j) := by
  rw [List.getD_eq_getElem?_getD]
  simp only [List.take_zero, List.nil_append, Nat.zero_add]
  by_cases q : j < 16
  · rw [List.getElem?_append_left (by simpa using q), List.getElem?_map, List.getElem?_range q, if_pos q]
    simp only [Option.map_some, Option.getD_some]
    rw [List.getD_eq_getElem?_getD, List.getElem?_map, List.getElem?_range q]; rfl
  · rw [List.getElem?_append_right (by simpa using q), if_neg q]
    simp only [List.length_map, List.length_range]
    rw [List.getElem?_drop, List.getElem?_map, List.getElem?_range (by omega), show 16 + (j - 16) = j by omega]; rfl
theorem d1_0 : decode prog_13_method_1_code 0 = .ok (.aload_n 0, 1) := by decide +kernel
theorem d1_1 : decode prog_13_method_1_code 1 = .ok (.invokespecial 1, 3) := by decide +kernel
theorem d1_4 : decode prog_13_method_1_code 4 = .ok (.aload_n 0, 1) := by decide +kernel
theorem d1_5 : decode prog_13_method_1_code 5 = .ok (.bipush 16, 2) := by decide +kernel
theorem d1_7 : decode prog_13_method_1_code 7 = .ok (.newarray .int, 2) := by decide +kernel
theorem d1_9 : decode prog_13_method_1_code 9 = .ok (.putfield 7, 3) := by decide +kernel
theorem d1_12 : decode prog_13_method_1_code 12 = .ok (.return_, 1) := by decide +kernel
theorem ef_rm1 (m : MethodId) (x0 : Addr) : entryFrame m #[(.ref x0)] 1 = mkF m 0 #[.val (.ref x0)] [] := by first | (simp [entryFrame, mkF, argsToLocals, Value.category]; done) | rfl
theorem pn_1 : plainName "com/example/tarsier/tarsier/index/IntList" = true := by first | (simp [plainName, overriddenIn]; done) | decide +kernel
set_option maxRecDepth 65536 in
set_option maxHeartbeats 40000000 in
theorem rm1 (l : Launch) (Z : State) (a0 : Array Value) (hw : ∀ d ∈ tables_1, d.before a0 Z = true) (ws : List Jvm.Cond) (x0 : Addr) (vf : Nat → Int32) (h0 : Heap) (n0 : Nat) (Z0 : n0 ≤ h0.size) (E0 : Exa Z h0 x0 "com/example/tarsier/tarsier/index/IntList") (F1 : Fld Z h0 x0 "com/example/tarsier/tarsier/index/IntList" "values" "[I" .null) (F2 : Fld Z h0 x0 "com/example/tarsier/tarsier/index/IntList" "size" "I" (.int (0 : Int32))) (g0 : n0 ≤ x0) :
    MetFree l (⟨"com/example/tarsier/tarsier/index/IntList", "<init>", "()V"⟩ : MethodName) (head1 (Jvm.Cond.code (⟨"com/example/tarsier/tarsier/index/IntList", "<init>", "()V"⟩ : MethodName) prog_13_method_1_code 1 none :: ws) ({ frames := 1, cells := 1, slots := 16, locals := 12 } : Room)) (fun a U => a = #[(.ref x0)] ∧ Z.Warmed39 U.vm ∧ U.heap = h0) (fun _ _ _ _ _ => True) (fun _ U o U' => ∃ v L, o = .returned v ∧ (QI none n0 (fun h => IL Z h x0 0 n0 vf)) v U'.heap L ∧ FrameEnd U o U' L ({ frames := 1, cells := 1, slots := 16, locals := 12 } : Room).cells ({ frames := 1, cells := 1, slots := 16, locals := 12 } : Room).slots) := by
  refine MetFree.of_bodySF (plainFor_of_name pn_1) hisR ?_
  intro p e s m args below meth c s₁ Bd hml0 hP hK
  obtain ⟨rfl, hZ, hh⟩ := hP
  have hx := Bd.exec
  have hby := Bd.bytes
  have hml : c.maxLocals = 1 := hml0
  have hown : s.vm.findClass "com/example/tarsier/tarsier/index/IntList" = some m.cls := findClass_of_methodNamed Bd.named
  have hnm := (name_of_methodNamed Bd.named Bd.method).1
  have X0 : Stand p l e ({ frames := 1, cells := 1, slots := 16, locals := 12 } : Room) s m #[(.ref x0)] below meth c s₁ [] 0 0 := Stand.of_body Bd
  have e0 : s₁.heap = h0 := by rw [← hh, Bd.state]; rfl
  have N0 := Fr.nil n0
  show Ends p e below s (QI none n0 (fun h => IL Z h x0 0 n0 vf)) ({ frames := 1, cells := 1, slots := 16, locals := 12 } : Room).cells ({ frames := 1, cells := 1, slots := 16, locals := 12 } : Room).slots (s₁.setTop (entryFrame m #[(.ref x0)] 1))
  rw [ef_rm1 m x0]
  show Ends p e below s _ _ _ (s₁.setTop (mkF m 0 #[.val (.ref x0)] []))
  refine Es.aloadN (q := 1) ?_ X0 hx (hb hby d1_0) rfl rfl rfl
  obtain ⟨T1, X1, e1, st1⟩ := initO X0 hx hZ hown (hw _ (List.mem_of_getElem? (i := 7) rfl)) (hw _ (List.mem_of_getElem? (i := 8) rfl)) (hw _ (List.mem_of_getElem? (i := 9) rfl)) e0 (g := (mkF m 1 #[.val (.ref x0)] [(.ref x0)])) rfl (by rw [hml]; rfl) rfl (hb hby d1_1) (by decide) (W := 0) (by show 2 * 0 + _ ≤ _; exact Nat.le_of_eq rfl) (by decide)
  refine Ends.by ?_ st1
  show Ends p e below s _ _ _ (T1.setTop (mkF m 4 #[.val (.ref x0)] []))
  refine Es.aloadN (q := 5) ?_ X1 hx (hb hby d1_4) rfl rfl rfl
  refine Es.bipush (q := 7) (z := (16 : Int32)) ?_ X1 hx (hb hby d1_5) rfl rfl
  obtain ⟨T2, h2, X2, e2, E2, V2, st2⟩ := newAr X1 hx hZ (hw _ (List.mem_of_getElem? (i := 10) rfl)) rfl e1 (n := 16) (z := (16 : Int32)) (cap := 16) (by decide) (by decide) (by decide) (by decide) (by decide) (Ls := #[.val (.ref x0)]) (S := [(.ref x0)]) (hb hby d1_7)
  obtain ⟨b2, g2⟩ : ∃ z, z = h0.size := ⟨_, rfl⟩
  rw [← g2] at V2 st2
  have ne3 : x0 ≠ b2 := Nat.ne_of_lt (Nat.lt_of_lt_of_le E0.lt (Nat.le_of_eq g2.symm))
  have gn2 : n0 ≤ b2 := Nat.le_trans Z0 (Nat.le_of_eq g2.symm)
  have f4 := Exa.ext E2 E0
  have f5 := Fld.ext E2 F1
  have f6 := Fld.ext E2 F2
  have Zs7 : n0 ≤ h2.size := Nat.le_trans Z0 E2.1
  refine Ends.by ?_ st2
  show Ends p e below s _ _ _ (T2.setTop (mkF m 9 #[.val (.ref x0)] [(.ref b2), (.ref x0)]))
  obtain ⟨T8, h8, X8, e8, W8, st8⟩ := putF X2 hx hZ hown (host := "") (Or.inl (hw _ (List.mem_of_getElem? (i := 11) rfl))) Via.refl e2 f5 f4 (Or.inl (hw _ (List.mem_of_getElem? (i := 12) rfl))) (hw _ (List.mem_of_getElem? (i := 2) rfl)) (ty := (.array .int)) (by decide) rfl rfl (g := (mkF m 9 #[.val (.ref x0)] [(.ref b2), (.ref x0)])) rfl rfl (hb hby d1_9)
  have Fw8 := Fld.same W8 f5
  have f9 := Exa.wr W8 f4
  have f11 := Fld.other W8 f6 (Or.inr (slot_ne (Or.inl (hw _ (List.mem_of_getElem? (i := 26) rfl))) (Or.inl (hw _ (List.mem_of_getElem? (i := 12) rfl))) (by decide) (t := .int) (t' := (.array .int)) (by decide) (by decide)))
  have f12 := V2.other W8 (Ne.symm ne3)
  have N8 := Fr.snoc X8 N0 g0
  have Zs13 : n0 ≤ h8.size := Nat.le_trans Zs7 (Keep.of_wr W8).1
  refine Ends.by ?_ st8
  show Ends p e below s _ _ _ (T8.setTop (mkF m 12 #[.val (.ref x0)] []))
  exact Ends.retV X8 hx Bd.notSynchronized Bd.returns (hb hby d1_12) (by rw [e8]; exact ⟨rfl, N8, Zs13, f9, g0, f11, b2, _, 16, (Ne.symm ne3), gn2, Fw8, f12, rfl, fun j hj => absurd hj (Nat.not_lt_zero _)⟩) (by decide) (by decide)

theorem d6_0 : decode prog_13_method_4_code 0 = .ok (.aload_n 0, 1) := by decide +kernel
theorem d6_1 : decode prog_13_method_4_code 1 = .ok (.getfield 13, 3) := by decide +kernel
theorem d6_4 : decode prog_13_method_4_code 4 = .ok (.ireturn, 1) := by decide +kernel
theorem ef_rm6 (m : MethodId) (x0 : Addr) : entryFrame m #[(.ref x0)] 1 = mkF m 0 #[.val (.ref x0)] [] := by first | (simp [entryFrame, mkF, argsToLocals, Value.category]; done) | rfl
set_option maxRecDepth 65536 in
set_option maxHeartbeats 40000000 in
theorem rm6 (l : Launch) (Z : State) (a0 : Array Value) (hw : ∀ d ∈ tables_1, d.before a0 Z = true) (ws : List Jvm.Cond) (x0 : Addr) (k : Nat) (vf : Nat → Int32) (h0 : Heap) (n0 : Nat) (Z0 : n0 ≤ h0.size) (HI : IL Z h0 x0 k n0 vf) :
    MetFree l (⟨"com/example/tarsier/tarsier/index/IntList", "size", "()I"⟩ : MethodName) (head1 (Jvm.Cond.code (⟨"com/example/tarsier/tarsier/index/IntList", "size", "()I"⟩ : MethodName) prog_13_method_4_code 1 (some .int) :: ws) ({ frames := 0, cells := 0, slots := 0, locals := 0 } : Room)) (fun a U => a = #[(.ref x0)] ∧ Z.Warmed39 U.vm ∧ U.heap = h0) (fun _ _ _ _ _ => True) (fun _ U o U' => ∃ v L, o = .returned v ∧ (QP (some (.int (Int32.ofNat k))) h0 n0) v U'.heap L ∧ FrameEnd U o U' L ({ frames := 0, cells := 0, slots := 0, locals := 0 } : Room).cells ({ frames := 0, cells := 0, slots := 0, locals := 0 } : Room).slots) := by
  refine MetFree.of_bodySF (plainFor_of_name pn_1) hisR ?_
  intro p e s m args below meth c s₁ Bd hml0 hP hK
  obtain ⟨rfl, hZ, hh⟩ := hP
  have hx := Bd.exec
  have hby := Bd.bytes
  have hml : c.maxLocals = 1 := hml0
  have hown : s.vm.findClass "com/example/tarsier/tarsier/index/IntList" = some m.cls := findClass_of_methodNamed Bd.named
  have hnm := (name_of_methodNamed Bd.named Bd.method).1
  have X0 : Stand p l e ({ frames := 0, cells := 0, slots := 0, locals := 0 } : Room) s m #[(.ref x0)] below meth c s₁ [] 0 0 := Stand.of_body Bd
  have e0 : s₁.heap = h0 := by rw [← hh, Bd.state]; rfl
  have N0 := Fr.nil n0
  show Ends p e below s (QP (some (.int (Int32.ofNat k))) h0 n0) ({ frames := 0, cells := 0, slots := 0, locals := 0 } : Room).cells ({ frames := 0, cells := 0, slots := 0, locals := 0 } : Room).slots (s₁.setTop (entryFrame m #[(.ref x0)] 1))
  rw [ef_rm6 m x0]
  show Ends p e below s _ _ _ (s₁.setTop (mkF m 0 #[.val (.ref x0)] []))
  obtain ⟨E0, -, F1, b, g, C, -, -, F2, V0, -, hv⟩ := HI
  refine Es.aloadN (q := 1) ?_ X0 hx (hb hby d6_0) rfl rfl rfl
  obtain ⟨T1, X1, e1, st1⟩ := getF X0 hx hZ hown (host := "") (Or.inl (hw _ (List.mem_of_getElem? (i := 25) rfl))) Via.refl e0 F1 (g := (mkF m 1 #[.val (.ref x0)] [(.ref x0)])) rfl rfl (hb hby d6_1)
  refine Ends.by ?_ st1
  show Ends p e below s _ _ _ (T1.setTop (mkF m 4 #[.val (.ref x0)] [(.int (Int32.ofNat k))]))
  exact Ends.retI X1 hx Bd.notSynchronized Bd.returns (hb hby d6_4) (by rw [e1]; exact ⟨rfl, N0, rfl⟩) (by decide) (by decide)

theorem d7_0 : decode prog_13_method_3_code 0 = .ok (.aload_n 0, 1) := by decide +kernel
theorem d7_1 : decode prog_13_method_3_code 1 = .ok (.getfield 7, 3) := by decide +kernel
theorem d7_4 : decode prog_13_method_3_code 4 = .ok (.iload_n 1, 1) := by decide +kernel
theorem d7_5 : decode prog_13_method_3_code 5 = .ok (.iaload, 1) := by decide +kernel
theorem d7_6 : decode prog_13_method_3_code 6 = .ok (.ireturn, 1) := by decide +kernel
theorem ef_rm7 (m : MethodId) (x0 : Addr) (x1 : Int32) : entryFrame m #[(.ref x0), (.int x1)] 2 = mkF m 0 #[.val (.ref x0), .val (.int x1)] [] := by first | (simp [entryFrame, mkF, argsToLocals, Value.category]; done) | rfl
set_option maxRecDepth 65536 in
set_option maxHeartbeats 40000000 in
theorem rm7 (l : Launch) (Z : State) (a0 : Array Value) (hw : ∀ d ∈ tables_1, d.before a0 Z = true) (ws : List Jvm.Cond) (x0 : Addr) (x1 : Int32) (k J : Nat) (vf : Nat → Int32) (h0 : Heap) (n0 : Nat) (Z0 : n0 ≤ h0.size) (HI : IL Z h0 x0 k n0 vf) (hJ : J < k) (hk : k ≤ 18) (hj : x1 = Int32.ofNat J) :
    MetFree l (⟨"com/example/tarsier/tarsier/index/IntList", "get", "(I)I"⟩ : MethodName) (head1 (Jvm.Cond.code (⟨"com/example/tarsier/tarsier/index/IntList", "get", "(I)I"⟩ : MethodName) prog_13_method_3_code 2 (some .int) :: ws) ({ frames := 0, cells := 0, slots := 0, locals := 0 } : Room)) (fun a U => a = #[(.ref x0), (.int x1)] ∧ Z.Warmed39 U.vm ∧ U.heap = h0) (fun _ _ _ _ _ => True) (fun _ U o U' => ∃ v L, o = .returned v ∧ (QP (some (.int (vf J))) h0 n0) v U'.heap L ∧ FrameEnd U o U' L ({ frames := 0, cells := 0, slots := 0, locals := 0 } : Room).cells ({ frames := 0, cells := 0, slots := 0, locals := 0 } : Room).slots) := by
  refine MetFree.of_bodySF (plainFor_of_name pn_1) hisR ?_
  intro p e s m args below meth c s₁ Bd hml0 hP hK
  obtain ⟨rfl, hZ, hh⟩ := hP
  have hx := Bd.exec
  have hby := Bd.bytes
  have hml : c.maxLocals = 2 := hml0
  have hown : s.vm.findClass "com/example/tarsier/tarsier/index/IntList" = some m.cls := findClass_of_methodNamed Bd.named
  have hnm := (name_of_methodNamed Bd.named Bd.method).1
  have X0 : Stand p l e ({ frames := 0, cells := 0, slots := 0, locals := 0 } : Room) s m #[(.ref x0), (.int x1)] below meth c s₁ [] 0 0 := Stand.of_body Bd
  have e0 : s₁.heap = h0 := by rw [← hh, Bd.state]; rfl
  have N0 := Fr.nil n0
  show Ends p e below s (QP (some (.int (vf J))) h0 n0) ({ frames := 0, cells := 0, slots := 0, locals := 0 } : Room).cells ({ frames := 0, cells := 0, slots := 0, locals := 0 } : Room).slots (s₁.setTop (entryFrame m #[(.ref x0), (.int x1)] 2))
  rw [ef_rm7 m x0 x1]
  show Ends p e below s _ _ _ (s₁.setTop (mkF m 0 #[.val (.ref x0), .val (.int x1)] []))
  subst hj
  obtain ⟨E0, -, F1, b, g, C, -, -, F2, V0, hC, hv⟩ := HI
  have hc := own_cap hC
  have hin : 0 ≤ (Int32.ofNat J).toInt ∧ (Int32.ofNat J).toInt < (C : Nat) := by rw [own_ofNat (by omega)]; omega
  refine Es.aloadN (q := 1) ?_ X0 hx (hb hby d7_0) rfl rfl rfl
  obtain ⟨T1, X1, e1, st1⟩ := getF X0 hx hZ hown (host := "") (Or.inl (hw _ (List.mem_of_getElem? (i := 11) rfl))) Via.refl e0 F2 (g := (mkF m 1 #[.val (.ref x0), .val (.int (Int32.ofNat J))] [(.ref x0)])) rfl rfl (hb hby d7_1)
  refine Ends.by ?_ st1
  show Ends p e below s _ _ _ (T1.setTop (mkF m 4 #[.val (.ref x0), .val (.int (Int32.ofNat J))] [(.ref b)]))
  refine Es.iloadN (q := 5) ?_ X1 hx (hb hby d7_4) rfl rfl
  refine Ends.iald ?_ X1 hx hZ e1 V0 hin (hb hby d7_5)
  show Ends p e below s _ _ _ (T1.setTop (mkF m 6 #[.val (.ref x0), .val (.int (Int32.ofNat J))] [(.int (g ((Int32.ofNat J)).toNatClampNeg))]))
  exact Ends.retI X1 hx Bd.notSynchronized Bd.returns (hb hby d7_6) (by rw [e1, own_clamp (by omega), hv J hJ]; exact ⟨rfl, N0, rfl⟩) (by decide) (by decide)

theorem d8_0 : decode jdk_65_method_123_code 0 = .ok (.iload_n 1, 1) := by decide +kernel
theorem d8_1 : decode jdk_65_method_123_code 1 = .ok (.aload_n 0, 1) := by decide +kernel
theorem d8_2 : decode jdk_65_method_123_code 2 = .ok (.arraylength, 1) := by decide +kernel
theorem d8_3 : decode jdk_65_method_123_code 3 = .ok (.if_icmp .ne 11, 3) := by decide +kernel
theorem d8_14 : decode jdk_65_method_123_code 14 = .ok (.iload_n 1, 1) := by decide +kernel
theorem d8_15 : decode jdk_65_method_123_code 15 = .ok (.newarray .int, 2) := by decide +kernel
theorem d8_17 : decode jdk_65_method_123_code 17 = .ok (.astore_n 2, 1) := by decide +kernel
theorem d8_18 : decode jdk_65_method_123_code 18 = .ok (.aload_n 0, 1) := by decide +kernel
theorem d8_19 : decode jdk_65_method_123_code 19 = .ok (.iconst 0, 1) := by decide +kernel
theorem d8_20 : decode jdk_65_method_123_code 20 = .ok (.aload_n 2, 1) := by decide +kernel
theorem d8_21 : decode jdk_65_method_123_code 21 = .ok (.iconst 0, 1) := by decide +kernel
theorem d8_22 : decode jdk_65_method_123_code 22 = .ok (.aload_n 0, 1) := by decide +kernel
theorem d8_23 : decode jdk_65_method_123_code 23 = .ok (.arraylength, 1) := by decide +kernel
theorem d8_24 : decode jdk_65_method_123_code 24 = .ok (.iload_n 1, 1) := by decide +kernel
theorem d8_25 : decode jdk_65_method_123_code 25 = .ok (.invokestatic 304, 3) := by decide +kernel
theorem pd_0 : parseMethodDescriptor "(II)I" = some ⟨[.int, .int], some .int⟩ := by decide +kernel
theorem d8_28 : decode jdk_65_method_123_code 28 = .ok (.invokestatic 150, 3) := by decide +kernel
theorem d8_31 : decode jdk_65_method_123_code 31 = .ok (.aload_n 2, 1) := by decide +kernel
theorem d8_32 : decode jdk_65_method_123_code 32 = .ok (.areturn, 1) := by decide +kernel
theorem ef_rm8 (m : MethodId) (x0 : Addr) : entryFrame m #[(.ref x0), (.int (32 : Int32))] 3 = mkF m 0 #[.val (.ref x0), .val (.int (32 : Int32)), .unset] [] := by first | (simp [entryFrame, mkF, argsToLocals, Value.category]; done) | rfl
theorem pn_2 : plainName "java/util/Arrays" = true := by first | (simp [plainName, overriddenIn]; done) | decide +kernel
set_option maxRecDepth 65536 in
set_option maxHeartbeats 40000000 in
theorem rm8 (l : Launch) (Z : State) (a0 : Array Value) (hw : ∀ d ∈ tables_1, d.before a0 Z = true) (ws : List Jvm.Cond) (x0 : Addr) (g : Nat → Int32) (h0 : Heap) (n0 : Nat) (Z0 : n0 ≤ h0.size) (V0 : Ary Z h0 x0 .int 16 g) :
    MetFree l (⟨"java/util/Arrays", "copyOf", "([II)[I"⟩ : MethodName) (head1 (Jvm.Cond.code (⟨"java/util/Arrays", "copyOf", "([II)[I"⟩ : MethodName) jdk_65_method_123_code 3 (some (.array .int)) :: ws) ({ frames := 1, cells := 1, slots := 32, locals := 40 } : Room)) (fun a U => a = #[(.ref x0), (.int (32 : Int32))] ∧ Z.Warmed39 U.vm ∧ U.heap = h0) (fun _ _ _ _ _ => True) (fun _ U o U' => ∃ v L, o = .returned v ∧ (QC Z h0 n0 g) v U'.heap L ∧ FrameEnd U o U' L ({ frames := 1, cells := 1, slots := 32, locals := 40 } : Room).cells ({ frames := 1, cells := 1, slots := 32, locals := 40 } : Room).slots) := by
  refine MetFree.of_bodySF (plainFor_of_name pn_2) hisR ?_
  intro p e s m args below meth c s₁ Bd hml0 hP hK
  obtain ⟨rfl, hZ, hh⟩ := hP
  have hx := Bd.exec
  have hby := Bd.bytes
  have hml : c.maxLocals = 3 := hml0
  have hown : s.vm.findClass "java/util/Arrays" = some m.cls := findClass_of_methodNamed Bd.named
  have hnm := (name_of_methodNamed Bd.named Bd.method).1
  have X0 : Stand p l e ({ frames := 1, cells := 1, slots := 32, locals := 40 } : Room) s m #[(.ref x0), (.int (32 : Int32))] below meth c s₁ [] 0 0 := Stand.of_body Bd
  have e0 : s₁.heap = h0 := by rw [← hh, Bd.state]; rfl
  have N0 := Fr.nil n0
  show Ends p e below s (QC Z h0 n0 g) ({ frames := 1, cells := 1, slots := 32, locals := 40 } : Room).cells ({ frames := 1, cells := 1, slots := 32, locals := 40 } : Room).slots (s₁.setTop (entryFrame m #[(.ref x0), (.int (32 : Int32))] 3))
  rw [ef_rm8 m x0]
  show Ends p e below s _ _ _ (s₁.setTop (mkF m 0 #[.val (.ref x0), .val (.int (32 : Int32)), .unset] []))
  refine Es.iloadN (q := 1) ?_ X0 hx (hb hby d8_0) rfl rfl
  refine Es.aloadN (q := 2) ?_ X0 hx (hb hby d8_1) rfl rfl rfl
  refine Ends.alen (z := (16 : Int32)) ?_ X0 hx hZ e0 V0 (by decide) (hb hby d8_2)
  show Ends p e below s _ _ _ (s₁.setTop (mkF m 3 #[.val (.ref x0), .val (.int (32 : Int32)), .unset] [(.int (16 : Int32)), (.int (32 : Int32))]))
  refine Es.icmpYes (q := 14) ?_ X0 hx (hb hby d8_3) (XT.ii_ne_t (by decide)) (by decide) (by decide)
  refine Es.iloadN (q := 15) ?_ X0 hx (hb hby d8_14) rfl rfl
  obtain ⟨T1, h1, X1, e1, E1, V1, st1⟩ := newAr X0 hx hZ (hw _ (List.mem_of_getElem? (i := 10) rfl)) rfl e0 (n := 32) (z := (32 : Int32)) (cap := 32) (by decide) (by decide) (by decide) (by decide) (by decide) (Ls := #[.val (.ref x0), .val (.int (32 : Int32)), .unset]) (S := []) (hb hby d8_15)
  obtain ⟨b1, g1⟩ : ∃ z, z = h0.size := ⟨_, rfl⟩
  rw [← g1] at V1 st1
  have ne2 : x0 ≠ b1 := Nat.ne_of_lt (Nat.lt_of_lt_of_le V0.lt (Nat.le_of_eq g1.symm))
  have gn1 : n0 ≤ b1 := Nat.le_trans Z0 (Nat.le_of_eq g1.symm)
  have sz1 : h0.size ≤ b1 := Nat.le_trans (Keep.refl h0 []).1 (Nat.le_of_eq g1.symm)
  have f3 := V0.ext E1
  have K4 := (Keep.refl h0 []).ext E1
  have Zs5 : n0 ≤ h1.size := Nat.le_trans Z0 E1.1
  refine Ends.by ?_ st1
  show Ends p e below s _ _ _ (T1.setTop (mkF m 17 #[.val (.ref x0), .val (.int (32 : Int32)), .unset] [(.ref b1)]))
  refine Es.astoreN (q := 18) (l' := #[.val (.ref x0), .val (.int (32 : Int32)), .val (.ref b1)]) ?_ X1 hx (hb hby d8_17) rfl rfl rfl
  refine Es.aloadN (q := 19) ?_ X1 hx (hb hby d8_18) rfl rfl rfl
  refine Es.iconst (q := 20) (z := (0 : Int32)) ?_ X1 hx (hb hby d8_19) rfl rfl
  refine Es.aloadN (q := 21) ?_ X1 hx (hb hby d8_20) rfl rfl rfl
  refine Es.iconst (q := 22) (z := (0 : Int32)) ?_ X1 hx (hb hby d8_21) rfl rfl
  refine Es.aloadN (q := 23) ?_ X1 hx (hb hby d8_22) rfl rfl rfl
  refine Ends.alen (z := (16 : Int32)) ?_ X1 hx hZ e1 f3 (by decide) (hb hby d8_23)
  show Ends p e below s _ _ _ (T1.setTop (mkF m 24 #[.val (.ref x0), .val (.int (32 : Int32)), .val (.ref b1)] [(.int (16 : Int32)), (.int (0 : Int32)), (.ref b1), (.int (0 : Int32)), (.ref x0)]))
  refine Es.iloadN (q := 25) ?_ X1 hx (hb hby d8_24) rfl rfl
  obtain ⟨v6, _, ⟨T6, L6, k6, n6⟩, -, X6, ⟨Lc6, hQ6, l6, y6, z6⟩, st6⟩ := Jvm.LawKit.callS X1 hx (y := (⟨"java/lang/Math", "min", "(II)I"⟩ : MethodName)) hown (mvT hZ (hw _ (List.mem_of_getElem? (i := 41) rfl))) (mvT hZ (hw _ (List.mem_of_getElem? (i := 42) rfl))) (mvT hZ (hw _ (List.mem_of_getElem? (i := 43) rfl))) (mvT hZ (hw _ (List.mem_of_getElem? (i := 44) rfl))) (by decide) (backOf (W := 4) (rm9 l Z a0 hw [] (16 : Int32) (32 : Int32) h1 n0 Zs5) hZ (hw _ (List.mem_of_getElem? (i := 44) rfl)) (hw _ (List.mem_of_getElem? (i := 43) rfl)) (by decide) (by decide)) (g := (mkF m 25 #[.val (.ref x0), .val (.int (32 : Int32)), .val (.ref b1)] [(.int (32 : Int32)), (.int (16 : Int32)), (.int (0 : Int32)), (.ref b1), (.int (0 : Int32)), (.ref x0)])) rfl (by rw [hml]; rfl) (argsL := [(.int (16 : Int32)), (.int (32 : Int32))]) (rest := [(.int (0 : Int32)), (.ref b1), (.int (0 : Int32)), (.ref x0)]) (lenOf pd_0 rfl) rfl (by show 2 * 0 + _ ≤ _; exact Nat.le_of_eq rfl) (hb hby d8_25) (fun _ _ => ⟨rfl, e1, (by decide : 1 + 0 ≤ _), (by decide : 32 + 0 ≤ _)⟩)
  dsimp only [Pt.U, Pt.locs, Pt.cells, Pt.slots] at X6 l6 y6 z6 st6 hQ6
  subst l6 y6 z6
  obtain ⟨rfl, N6q, e6⟩ := hQ6
  have N6 := Fr.app N0 N6q
  refine Ends.by ?_ st6
  show Ends p e below s _ _ _ (T6.setTop (mkF m 28 #[.val (.ref x0), .val (.int (32 : Int32)), .val (.ref b1)] [(.int (f9 (16 : Int32) (32 : Int32))), (.int (0 : Int32)), (.ref b1), (.int (0 : Int32)), (.ref x0)]))
  have hmin : f9 (16 : Int32) (32 : Int32) = (16 : Int32) := by decide
  rw [hmin]
  show Ends p e below s _ _ _ (T6.setTop (mkF m 28 #[.val (.ref x0), .val (.int (32 : Int32)), .val (.ref b1)] [(.int (16 : Int32)), (.int (0 : Int32)), (.ref b1), (.int (0 : Int32)), (.ref x0)]))
  obtain ⟨ka, Aa⟩ := f3.arv (by omega)
  obtain ⟨kb, Ab⟩ := V1.arv (by omega)
  obtain ⟨T7, h7, L7, X7, e7, N7, K7, Av7, st7⟩ := cpA X6 hx hZ hown (hw _ (List.mem_of_getElem? (i := 45) rfl)) (hw _ (List.mem_of_getElem? (i := 48) rfl)) (hw _ (List.mem_of_getElem? (i := 46) rfl)) (hw _ (List.mem_of_getElem? (i := 47) rfl)) e6 (sp := (0 : Int32)) (dp := (0 : Int32)) (nn := (16 : Int32)) Aa Ab (Or.inl ⟨rfl, rfl⟩) (by decide) (by decide) (by decide) (by decide) (by decide) rfl (by simp) N6 gn1 (g := (mkF m 28 #[.val (.ref x0), .val (.int (32 : Int32)), .val (.ref b1)] [(.int (16 : Int32)), (.int (0 : Int32)), (.ref b1), (.int (0 : Int32)), (.ref x0)])) rfl (by rw [hml]; rfl) rfl (hb hby d8_28) (by decide) (W := 0) (by show 2 * 0 + _ ≤ _; exact Nat.le_of_eq rfl) (by decide)
  have Vn : Ary Z h7 b1 .int 32 (fun j => if j < 16 then g j else (0 : Int32)) := Ary.of_arv Av7 (by omega) (own_copy g (fun _ => 0))
  have K8 := K4.trans K7 (by intro x hx; cases List.mem_singleton.mp hx; exact Or.inr sz1)
  refine Ends.by ?_ st7
  show Ends p e below s _ _ _ (T7.setTop (mkF m 31 #[.val (.ref x0), .val (.int (32 : Int32)), .val (.ref b1)] []))
  refine Es.aloadN (q := 32) ?_ X7 hx (hb hby d8_31) rfl rfl rfl
  exact Ends.retA X7 hx Bd.notSynchronized Bd.returns rfl (fun _ => rfl) (hb hby d8_32) (by rw [e7]; exact ⟨_, rfl, N7, K8, sz1, _, Vn, fun j hj => if_pos hj⟩) (by decide) (by decide)

theorem d5_0 : decode prog_13_method_2_code 0 = .ok (.aload_n 0, 1) := by decide +kernel
theorem d5_1 : decode prog_13_method_2_code 1 = .ok (.getfield 13, 3) := by decide +kernel
theorem d5_4 : decode prog_13_method_2_code 4 = .ok (.aload_n 0, 1) := by decide +kernel
theorem d5_5 : decode prog_13_method_2_code 5 = .ok (.getfield 7, 3) := by decide +kernel
theorem d5_8 : decode prog_13_method_2_code 8 = .ok (.arraylength, 1) := by decide +kernel
theorem d5_9 : decode prog_13_method_2_code 9 = .ok (.if_icmp .ne 20, 3) := by decide +kernel
theorem d5_29 : decode prog_13_method_2_code 29 = .ok (.aload_n 0, 1) := by decide +kernel
theorem d5_30 : decode prog_13_method_2_code 30 = .ok (.getfield 7, 3) := by decide +kernel
theorem d5_33 : decode prog_13_method_2_code 33 = .ok (.aload_n 0, 1) := by decide +kernel
theorem d5_34 : decode prog_13_method_2_code 34 = .ok (.dup, 1) := by decide +kernel
theorem d5_35 : decode prog_13_method_2_code 35 = .ok (.getfield 13, 3) := by decide +kernel
theorem d5_38 : decode prog_13_method_2_code 38 = .ok (.dup_x1, 1) := by decide +kernel
theorem d5_39 : decode prog_13_method_2_code 39 = .ok (.iconst 1, 1) := by decide +kernel
theorem d5_40 : decode prog_13_method_2_code 40 = .ok (.iadd, 1) := by decide +kernel
theorem d5_41 : decode prog_13_method_2_code 41 = .ok (.putfield 13, 3) := by decide +kernel
theorem d5_44 : decode prog_13_method_2_code 44 = .ok (.iload_n 1, 1) := by decide +kernel
theorem d5_45 : decode prog_13_method_2_code 45 = .ok (.iastore, 1) := by decide +kernel
theorem d5_46 : decode prog_13_method_2_code 46 = .ok (.return_, 1) := by decide +kernel
theorem ef_rmAd (m : MethodId) (x0 : Addr) (x1 : Int32) : entryFrame m #[(.ref x0), (.int x1)] 2 = mkF m 0 #[.val (.ref x0), .val (.int x1)] [] := by first | (simp [entryFrame, mkF, argsToLocals, Value.category]; done) | rfl
set_option maxRecDepth 65536 in
set_option maxHeartbeats 40000000 in
theorem rmAd (l : Launch) (Z : State) (a0 : Array Value) (hw : ∀ d ∈ tables_1, d.before a0 Z = true) (ws : List Jvm.Cond) (x0 : Addr) (x1 : Int32) (k : Nat) (vf : Nat → Int32) (h0 : Heap) (n0 : Nat) (Z0 : n0 ≤ h0.size) (HI : IL Z h0 x0 k n0 vf) (hk : k ≤ 17) (hk2 : k ≠ 16) (hv1 : x1 = vf k) :
    MetFree l (⟨"com/example/tarsier/tarsier/index/IntList", "add", "(I)V"⟩ : MethodName) (head1 (Jvm.Cond.code (⟨"com/example/tarsier/tarsier/index/IntList", "add", "(I)V"⟩ : MethodName) prog_13_method_2_code 2 none :: ws) ({ frames := 0, cells := 0, slots := 0, locals := 0 } : Room)) (fun a U => a = #[(.ref x0), (.int x1)] ∧ Z.Warmed39 U.vm ∧ U.heap = h0) (fun _ _ _ _ _ => True) (fun _ U o U' => ∃ v L, o = .returned v ∧ (QI none n0 (fun h => IL Z h x0 (k + 1) n0 vf)) v U'.heap L ∧ FrameEnd U o U' L ({ frames := 0, cells := 0, slots := 0, locals := 0 } : Room).cells ({ frames := 0, cells := 0, slots := 0, locals := 0 } : Room).slots) := by
  refine MetFree.of_bodySF (plainFor_of_name pn_1) hisR ?_
  intro p e s m args below meth c s₁ Bd hml0 hP hK
  obtain ⟨rfl, hZ, hh⟩ := hP
  have hx := Bd.exec
  have hby := Bd.bytes
  have hml : c.maxLocals = 2 := hml0
  have hown : s.vm.findClass "com/example/tarsier/tarsier/index/IntList" = some m.cls := findClass_of_methodNamed Bd.named
  have hnm := (name_of_methodNamed Bd.named Bd.method).1
  have X0 : Stand p l e ({ frames := 0, cells := 0, slots := 0, locals := 0 } : Room) s m #[(.ref x0), (.int x1)] below meth c s₁ [] 0 0 := Stand.of_body Bd
  have e0 : s₁.heap = h0 := by rw [← hh, Bd.state]; rfl
  have N0 := Fr.nil n0
  show Ends p e below s (QI none n0 (fun h => IL Z h x0 (k + 1) n0 vf)) ({ frames := 0, cells := 0, slots := 0, locals := 0 } : Room).cells ({ frames := 0, cells := 0, slots := 0, locals := 0 } : Room).slots (s₁.setTop (entryFrame m #[(.ref x0), (.int x1)] 2))
  rw [ef_rmAd m x0 x1]
  show Ends p e below s _ _ _ (s₁.setTop (mkF m 0 #[.val (.ref x0), .val (.int x1)] []))
  obtain ⟨E0, g0, F1, b, g, C, hne, gb, F2, V0, hC, hv⟩ := HI
  have hc := own_cap hC
  have hin : 0 ≤ (Int32.ofNat k).toInt ∧ (Int32.ofNat k).toInt < (C : Nat) := by rw [own_ofNat (by omega)]; omega
  refine Es.aloadN (q := 1) ?_ X0 hx (hb hby d5_0) rfl rfl rfl
  obtain ⟨T1, X1, e1, st1⟩ := getF X0 hx hZ hown (host := "") (Or.inl (hw _ (List.mem_of_getElem? (i := 25) rfl))) Via.refl e0 F1 (g := (mkF m 1 #[.val (.ref x0), .val (.int x1)] [(.ref x0)])) rfl rfl (hb hby d5_1)
  refine Ends.by ?_ st1
  show Ends p e below s _ _ _ (T1.setTop (mkF m 4 #[.val (.ref x0), .val (.int x1)] [(.int (Int32.ofNat k))]))
  refine Es.aloadN (q := 5) ?_ X1 hx (hb hby d5_4) rfl rfl rfl
  obtain ⟨T2, X2, e2, st2⟩ := getF X1 hx hZ hown (host := "") (Or.inl (hw _ (List.mem_of_getElem? (i := 11) rfl))) Via.refl e1 F2 (g := (mkF m 5 #[.val (.ref x0), .val (.int x1)] [(.ref x0), (.int (Int32.ofNat k))])) rfl rfl (hb hby d5_5)
  refine Ends.by ?_ st2
  show Ends p e below s _ _ _ (T2.setTop (mkF m 8 #[.val (.ref x0), .val (.int x1)] [(.ref b), (.int (Int32.ofNat k))]))
  refine Ends.alen (z := (Int32.ofNat C)) ?_ X2 hx hZ e2 V0 (own_ofNat (by omega)) (hb hby d5_8)
  show Ends p e below s _ _ _ (T2.setTop (mkF m 9 #[.val (.ref x0), .val (.int x1)] [(.int (Int32.ofNat C)), (.int (Int32.ofNat k))]))
  refine Es.icmpYes (q := 29) ?_ X2 hx (hb hby d5_9) (XT.ii_ne_t (fun q => absurd ((own_eq (by omega) (by omega)).mp q) (by omega) : ¬ ((Int32.ofNat k) = (Int32.ofNat C)))) (by decide) (by decide)
  refine Es.aloadN (q := 30) ?_ X2 hx (hb hby d5_29) rfl rfl rfl
  obtain ⟨T3, X3, e3, st3⟩ := getF X2 hx hZ hown (host := "") (Or.inl (hw _ (List.mem_of_getElem? (i := 11) rfl))) Via.refl e2 F2 (g := (mkF m 30 #[.val (.ref x0), .val (.int x1)] [(.ref x0)])) rfl rfl (hb hby d5_30)
  refine Ends.by ?_ st3
  show Ends p e below s _ _ _ (T3.setTop (mkF m 33 #[.val (.ref x0), .val (.int x1)] [(.ref b)]))
  refine Es.aloadN (q := 34) ?_ X3 hx (hb hby d5_33) rfl rfl rfl
  refine Es.dup (q := 35) ?_ X3 hx (hb hby d5_34) rfl rfl
  obtain ⟨T4, X4, e4, st4⟩ := getF X3 hx hZ hown (host := "") (Or.inl (hw _ (List.mem_of_getElem? (i := 25) rfl))) Via.refl e3 F1 (g := (mkF m 35 #[.val (.ref x0), .val (.int x1)] [(.ref x0), (.ref x0), (.ref b)])) rfl rfl (hb hby d5_35)
  refine Ends.by ?_ st4
  show Ends p e below s _ _ _ (T4.setTop (mkF m 38 #[.val (.ref x0), .val (.int x1)] [(.int (Int32.ofNat k)), (.ref x0), (.ref b)]))
  refine Es.dup_x1 (q := 39) ?_ X4 hx (hb hby d5_38) rfl rfl rfl
  refine Es.iconst (q := 40) (z := (1 : Int32)) ?_ X4 hx (hb hby d5_39) rfl rfl
  refine Es.iadd (q := 41) ?_ X4 hx (hb hby d5_40) rfl
  obtain ⟨T5, h5, X5, e5, W5, st5⟩ := putF X4 hx hZ hown (host := "") (Or.inl (hw _ (List.mem_of_getElem? (i := 25) rfl))) Via.refl e4 F1 E0 (Or.inl (hw _ (List.mem_of_getElem? (i := 26) rfl))) (hw _ (List.mem_of_getElem? (i := 2) rfl)) (ty := .int) (by decide) rfl rfl (g := (mkF m 41 #[.val (.ref x0), .val (.int x1)] [(.int ((Int32.ofNat k) + (1 : Int32))), (.ref x0), (.int (Int32.ofNat k)), (.ref b)])) rfl rfl (hb hby d5_41)
  have Fw5 := Fld.same W5 F1
  have f6 := Exa.wr W5 E0
  have f8 := Fld.other W5 F2 (Or.inr (slot_ne (Or.inl (hw _ (List.mem_of_getElem? (i := 12) rfl))) (Or.inl (hw _ (List.mem_of_getElem? (i := 26) rfl))) (by decide) (t := (.array .int)) (t' := .int) (by decide) (by decide)))
  have f9 := V0.other W5 hne
  have N5 := Fr.snoc X5 N0 g0
  have Zs10 : n0 ≤ h5.size := Nat.le_trans Z0 (Keep.of_wr W5).1
  refine Ends.by ?_ st5
  show Ends p e below s _ _ _ (T5.setTop (mkF m 44 #[.val (.ref x0), .val (.int x1)] [(.int (Int32.ofNat k)), (.ref b)]))
  refine Es.iloadN (q := 45) ?_ X5 hx (hb hby d5_44) rfl rfl
  obtain ⟨T11, h11, X11, e11, W11, V11, st11⟩ := stIA X5 hx hZ e5 f9 (j := (Int32.ofNat k)) (x := x1) hin (Ls := #[.val (.ref x0), .val (.int x1)]) (S := []) (hb hby d5_45)
  have f12 := Exa.wr W11 f6
  have f13 := Fld.other W11 Fw5 (Or.inl (Ne.symm hne))
  have f14 := Fld.other W11 f8 (Or.inl (Ne.symm hne))
  have N11 := Fr.snoc X11 N5 gb
  have Zs16 : n0 ≤ h11.size := Nat.le_trans Zs10 (Keep.of_wr W11).1
  refine Ends.by ?_ st11
  show Ends p e below s _ _ _ (T11.setTop (mkF m 46 #[.val (.ref x0), .val (.int x1)] []))
  exact Ends.retV X11 hx Bd.notSynchronized Bd.returns (hb hby d5_46) (by rw [e11]; exact ⟨rfl, N11, Zs16, f12, g0, own_succ k ▸ f13, b, _, C, hne, gb, f14, V11, by split <;> omega, fun j hj => by rw [own_clamp (by omega)]; unfold upd; by_cases q : j = k; rw [if_pos q, q, hv1]; rw [if_neg q]; exact hv j (by omega)⟩) (by decide) (by decide)

theorem d5_12 : decode prog_13_method_2_code 12 = .ok (.aload_n 0, 1) := by decide +kernel
theorem d5_13 : decode prog_13_method_2_code 13 = .ok (.aload_n 0, 1) := by decide +kernel
theorem d5_14 : decode prog_13_method_2_code 14 = .ok (.getfield 7, 3) := by decide +kernel
theorem d5_17 : decode prog_13_method_2_code 17 = .ok (.iconst 2, 1) := by decide +kernel
theorem d5_18 : decode prog_13_method_2_code 18 = .ok (.aload_n 0, 1) := by decide +kernel
theorem d5_19 : decode prog_13_method_2_code 19 = .ok (.getfield 13, 3) := by decide +kernel
theorem d5_22 : decode prog_13_method_2_code 22 = .ok (.imul, 1) := by decide +kernel
theorem d5_23 : decode prog_13_method_2_code 23 = .ok (.invokestatic 17, 3) := by decide +kernel
theorem pd_1 : parseMethodDescriptor "([II)[I" = some ⟨[(.array .int), .int], some (.array .int)⟩ := by decide +kernel
theorem d5_26 : decode prog_13_method_2_code 26 = .ok (.putfield 7, 3) := by decide +kernel
theorem ef_rmAg (m : MethodId) (x0 : Addr) (x1 : Int32) : entryFrame m #[(.ref x0), (.int x1)] 2 = mkF m 0 #[.val (.ref x0), .val (.int x1)] [] := by first | (simp [entryFrame, mkF, argsToLocals, Value.category]; done) | rfl
set_option maxRecDepth 65536 in
set_option maxHeartbeats 40000000 in
theorem rmAg (l : Launch) (Z : State) (a0 : Array Value) (hw : ∀ d ∈ tables_1, d.before a0 Z = true) (ws : List Jvm.Cond) (x0 : Addr) (x1 : Int32) (vf : Nat → Int32) (h0 : Heap) (n0 : Nat) (Z0 : n0 ≤ h0.size) (HI : IL Z h0 x0 16 n0 vf) (hv1 : x1 = vf 16) :
    MetFree l (⟨"com/example/tarsier/tarsier/index/IntList", "add", "(I)V"⟩ : MethodName) (head1 (Jvm.Cond.code (⟨"com/example/tarsier/tarsier/index/IntList", "add", "(I)V"⟩ : MethodName) prog_13_method_2_code 2 none :: ws) ({ frames := 2, cells := 1, slots := 32, locals := 55 } : Room)) (fun a U => a = #[(.ref x0), (.int x1)] ∧ Z.Warmed39 U.vm ∧ U.heap = h0) (fun _ _ _ _ _ => True) (fun _ U o U' => ∃ v L, o = .returned v ∧ (QI none n0 (fun h => IL Z h x0 17 n0 vf)) v U'.heap L ∧ FrameEnd U o U' L ({ frames := 2, cells := 1, slots := 32, locals := 55 } : Room).cells ({ frames := 2, cells := 1, slots := 32, locals := 55 } : Room).slots) := by
  refine MetFree.of_bodySF (plainFor_of_name pn_1) hisR ?_
  intro p e s m args below meth c s₁ Bd hml0 hP hK
  obtain ⟨rfl, hZ, hh⟩ := hP
  have hx := Bd.exec
  have hby := Bd.bytes
  have hml : c.maxLocals = 2 := hml0
  have hown : s.vm.findClass "com/example/tarsier/tarsier/index/IntList" = some m.cls := findClass_of_methodNamed Bd.named
  have hnm := (name_of_methodNamed Bd.named Bd.method).1
  have X0 : Stand p l e ({ frames := 2, cells := 1, slots := 32, locals := 55 } : Room) s m #[(.ref x0), (.int x1)] below meth c s₁ [] 0 0 := Stand.of_body Bd
  have e0 : s₁.heap = h0 := by rw [← hh, Bd.state]; rfl
  have N0 := Fr.nil n0
  show Ends p e below s (QI none n0 (fun h => IL Z h x0 17 n0 vf)) ({ frames := 2, cells := 1, slots := 32, locals := 55 } : Room).cells ({ frames := 2, cells := 1, slots := 32, locals := 55 } : Room).slots (s₁.setTop (entryFrame m #[(.ref x0), (.int x1)] 2))
  rw [ef_rmAg m x0 x1]
  show Ends p e below s _ _ _ (s₁.setTop (mkF m 0 #[.val (.ref x0), .val (.int x1)] []))
  obtain ⟨E0, g0, F1, b, g, C, hne, gb, F2, V0, hC, hv⟩ := HI
  obtain rfl : C = 16 := hC
  have F1 : Fld Z h0 x0 "com/example/tarsier/tarsier/index/IntList" "size" "I" (.int (16 : Int32)) := F1
  refine Es.aloadN (q := 1) ?_ X0 hx (hb hby d5_0) rfl rfl rfl
  obtain ⟨T1, X1, e1, st1⟩ := getF X0 hx hZ hown (host := "") (Or.inl (hw _ (List.mem_of_getElem? (i := 25) rfl))) Via.refl e0 F1 (g := (mkF m 1 #[.val (.ref x0), .val (.int x1)] [(.ref x0)])) rfl rfl (hb hby d5_1)
  refine Ends.by ?_ st1
  show Ends p e below s _ _ _ (T1.setTop (mkF m 4 #[.val (.ref x0), .val (.int x1)] [(.int (16 : Int32))]))
  refine Es.aloadN (q := 5) ?_ X1 hx (hb hby d5_4) rfl rfl rfl
  obtain ⟨T2, X2, e2, st2⟩ := getF X1 hx hZ hown (host := "") (Or.inl (hw _ (List.mem_of_getElem? (i := 11) rfl))) Via.refl e1 F2 (g := (mkF m 5 #[.val (.ref x0), .val (.int x1)] [(.ref x0), (.int (16 : Int32))])) rfl rfl (hb hby d5_5)
  refine Ends.by ?_ st2
  show Ends p e below s _ _ _ (T2.setTop (mkF m 8 #[.val (.ref x0), .val (.int x1)] [(.ref b), (.int (16 : Int32))]))
  refine Ends.alen (z := (16 : Int32)) ?_ X2 hx hZ e2 V0 (by decide) (hb hby d5_8)
  show Ends p e below s _ _ _ (T2.setTop (mkF m 9 #[.val (.ref x0), .val (.int x1)] [(.int (16 : Int32)), (.int (16 : Int32))]))
  refine Es.icmpNo (q := 12) ?_ X2 hx (hb hby d5_9) rfl (XT.ii_ne_f (by decide))
  refine Es.aloadN (q := 13) ?_ X2 hx (hb hby d5_12) rfl rfl rfl
  refine Es.aloadN (q := 14) ?_ X2 hx (hb hby d5_13) rfl rfl rfl
  obtain ⟨T3, X3, e3, st3⟩ := getF X2 hx hZ hown (host := "") (Or.inl (hw _ (List.mem_of_getElem? (i := 11) rfl))) Via.refl e2 F2 (g := (mkF m 14 #[.val (.ref x0), .val (.int x1)] [(.ref x0), (.ref x0)])) rfl rfl (hb hby d5_14)
  refine Ends.by ?_ st3
  show Ends p e below s _ _ _ (T3.setTop (mkF m 17 #[.val (.ref x0), .val (.int x1)] [(.ref b), (.ref x0)]))
  refine Es.iconst (q := 18) (z := (2 : Int32)) ?_ X3 hx (hb hby d5_17) rfl rfl
  refine Es.aloadN (q := 19) ?_ X3 hx (hb hby d5_18) rfl rfl rfl
  obtain ⟨T4, X4, e4, st4⟩ := getF X3 hx hZ hown (host := "") (Or.inl (hw _ (List.mem_of_getElem? (i := 25) rfl))) Via.refl e3 F1 (g := (mkF m 19 #[.val (.ref x0), .val (.int x1)] [(.ref x0), (.int (2 : Int32)), (.ref b), (.ref x0)])) rfl rfl (hb hby d5_19)
  refine Ends.by ?_ st4
  show Ends p e below s _ _ _ (T4.setTop (mkF m 22 #[.val (.ref x0), .val (.int x1)] [(.int (16 : Int32)), (.int (2 : Int32)), (.ref b), (.ref x0)]))
  refine Es.imul (q := 23) ?_ X4 hx (hb hby d5_22) rfl
  show Ends p e below s _ _ _ (T4.setTop (mkF m 23 _ [(.int (32 : Int32)), (.ref b), (.ref x0)]))
  obtain ⟨v5, _, ⟨T5, L5, k5, n5⟩, -, X5, ⟨Lc5, hQ5, l5, y5, z5⟩, st5⟩ := Jvm.LawKit.callS X4 hx (y := (⟨"java/util/Arrays", "copyOf", "([II)[I"⟩ : MethodName)) hown (mvT hZ (hw _ (List.mem_of_getElem? (i := 37) rfl))) (mvT hZ (hw _ (List.mem_of_getElem? (i := 38) rfl))) (mvT hZ (hw _ (List.mem_of_getElem? (i := 39) rfl))) (mvT hZ (hw _ (List.mem_of_getElem? (i := 40) rfl))) (by decide) (backOf (W := 1) (rm8 l Z a0 hw [] b g h0 n0 Z0 V0) hZ (hw _ (List.mem_of_getElem? (i := 40) rfl)) (hw _ (List.mem_of_getElem? (i := 39) rfl)) (by decide) (by decide)) (g := (mkF m 23 #[.val (.ref x0), .val (.int x1)] [(.int (32 : Int32)), (.ref b), (.ref x0)])) rfl (by rw [hml]; rfl) (argsL := [(.ref b), (.int (32 : Int32))]) (rest := [(.ref x0)]) (lenOf pd_1 rfl) rfl (by show 2 * 0 + _ ≤ _; exact Nat.le_of_eq rfl) (hb hby d5_23) (fun _ _ => ⟨rfl, e4, (by decide : 0 + 1 ≤ _), (by decide : 0 + 32 ≤ _)⟩)
  dsimp only [Pt.U, Pt.locs, Pt.cells, Pt.slots] at X5 l5 y5 z5 st5 hQ5
  subst l5 y5 z5
  obtain ⟨bb, rfl, N5q, K5, sb, g', Vb, hg'⟩ := hQ5
  have N5 := Fr.app N0 N5q
  have hne2 : bb ≠ x0 := Ne.symm (Nat.ne_of_lt (Nat.lt_of_lt_of_le E0.lt sb))
  have gbb : n0 ≤ bb := Nat.le_trans Z0 sb
  have f6 := E0.keep K5
  have f7 := F1.keep K5 (by simp [List.not_mem_nil])
  have f8 := F2.keep K5 (by simp [List.not_mem_nil])
  have Zs9 : n0 ≤ T5.heap.size := Nat.le_trans Z0 K5.1
  refine Ends.by ?_ st5
  show Ends p e below s _ _ _ (T5.setTop (mkF m 26 #[.val (.ref x0), .val (.int x1)] [(.ref bb), (.ref x0)]))
  obtain ⟨T10, h10, X10, e10, W10, st10⟩ := putF X5 hx hZ hown (host := "") (Or.inl (hw _ (List.mem_of_getElem? (i := 11) rfl))) Via.refl rfl f8 f6 (Or.inl (hw _ (List.mem_of_getElem? (i := 12) rfl))) (hw _ (List.mem_of_getElem? (i := 2) rfl)) (ty := (.array .int)) (by decide) rfl rfl (g := (mkF m 26 #[.val (.ref x0), .val (.int x1)] [(.ref bb), (.ref x0)])) rfl rfl (hb hby d5_26)
  have Fw10 := Fld.same W10 f8
  have f11 := Exa.wr W10 f6
  have f12 := Fld.other W10 f7 (Or.inr (slot_ne (Or.inl (hw _ (List.mem_of_getElem? (i := 26) rfl))) (Or.inl (hw _ (List.mem_of_getElem? (i := 12) rfl))) (by decide) (t := .int) (t' := (.array .int)) (by decide) (by decide)))
  have f14 := Vb.other W10 hne2
  have N10 := Fr.snoc X10 N5 g0
  have Zs15 : n0 ≤ h10.size := Nat.le_trans Zs9 (Keep.of_wr W10).1
  refine Ends.by ?_ st10
  show Ends p e below s _ _ _ (T10.setTop (mkF m 29 #[.val (.ref x0), .val (.int x1)] []))
  refine Es.aloadN (q := 30) ?_ X10 hx (hb hby d5_29) rfl rfl rfl
  obtain ⟨T16, X16, e16, st16⟩ := getF X10 hx hZ hown (host := "") (Or.inl (hw _ (List.mem_of_getElem? (i := 11) rfl))) Via.refl e10 Fw10 (g := (mkF m 30 #[.val (.ref x0), .val (.int x1)] [(.ref x0)])) rfl rfl (hb hby d5_30)
  refine Ends.by ?_ st16
  show Ends p e below s _ _ _ (T16.setTop (mkF m 33 #[.val (.ref x0), .val (.int x1)] [(.ref bb)]))
  refine Es.aloadN (q := 34) ?_ X16 hx (hb hby d5_33) rfl rfl rfl
  refine Es.dup (q := 35) ?_ X16 hx (hb hby d5_34) rfl rfl
  obtain ⟨T17, X17, e17, st17⟩ := getF X16 hx hZ hown (host := "") (Or.inl (hw _ (List.mem_of_getElem? (i := 25) rfl))) Via.refl e16 f12 (g := (mkF m 35 #[.val (.ref x0), .val (.int x1)] [(.ref x0), (.ref x0), (.ref bb)])) rfl rfl (hb hby d5_35)
  refine Ends.by ?_ st17
  show Ends p e below s _ _ _ (T17.setTop (mkF m 38 #[.val (.ref x0), .val (.int x1)] [(.int (16 : Int32)), (.ref x0), (.ref bb)]))
  refine Es.dup_x1 (q := 39) ?_ X17 hx (hb hby d5_38) rfl rfl rfl
  refine Es.iconst (q := 40) (z := (1 : Int32)) ?_ X17 hx (hb hby d5_39) rfl rfl
  refine Es.iadd (q := 41) ?_ X17 hx (hb hby d5_40) rfl
  show Ends p e below s _ _ _ (T17.setTop (mkF m 41 _ [(.int (17 : Int32)), (.ref x0), (.int (16 : Int32)), (.ref bb)]))
  obtain ⟨T18, h18, X18, e18, W18, st18⟩ := putF X17 hx hZ hown (host := "") (Or.inl (hw _ (List.mem_of_getElem? (i := 25) rfl))) Via.refl e17 f12 f11 (Or.inl (hw _ (List.mem_of_getElem? (i := 26) rfl))) (hw _ (List.mem_of_getElem? (i := 2) rfl)) (ty := .int) (by decide) rfl rfl (g := (mkF m 41 #[.val (.ref x0), .val (.int x1)] [(.int (17 : Int32)), (.ref x0), (.int (16 : Int32)), (.ref bb)])) rfl rfl (hb hby d5_41)
  have Fw18 := Fld.same W18 f12
  have f19 := Exa.wr W18 f11
  have f21 := Fld.other W18 Fw10 (Or.inr (slot_ne (Or.inl (hw _ (List.mem_of_getElem? (i := 12) rfl))) (Or.inl (hw _ (List.mem_of_getElem? (i := 26) rfl))) (by decide) (t := (.array .int)) (t' := .int) (by decide) (by decide)))
  have f22 := f14.other W18 hne2
  have N18 := Fr.snoc X18 N10 g0
  have Zs23 : n0 ≤ h18.size := Nat.le_trans Zs15 (Keep.of_wr W18).1
  refine Ends.by ?_ st18
  show Ends p e below s _ _ _ (T18.setTop (mkF m 44 #[.val (.ref x0), .val (.int x1)] [(.int (16 : Int32)), (.ref bb)]))
  refine Es.iloadN (q := 45) ?_ X18 hx (hb hby d5_44) rfl rfl
  obtain ⟨T24, h24, X24, e24, W24, V24, st24⟩ := stIA X18 hx hZ e18 f22 (j := (16 : Int32)) (x := x1) (by decide) (Ls := #[.val (.ref x0), .val (.int x1)]) (S := []) (hb hby d5_45)
  have f25 := Exa.wr W24 f19
  have f26 := Fld.other W24 Fw18 (Or.inl (Ne.symm hne2))
  have f27 := Fld.other W24 f21 (Or.inl (Ne.symm hne2))
  have N24 := Fr.snoc X24 N18 gbb
  have Zs29 : n0 ≤ h24.size := Nat.le_trans Zs23 (Keep.of_wr W24).1
  refine Ends.by ?_ st24
  show Ends p e below s _ _ _ (T24.setTop (mkF m 46 #[.val (.ref x0), .val (.int x1)] []))
  exact Ends.retV X24 hx Bd.notSynchronized Bd.returns (hb hby d5_46) (by rw [e24]; exact ⟨rfl, N24, Zs29, f25, g0, f26, bb, _, 32, hne2, gbb, f27, V24, rfl, fun j hj => by rw [show ((16 : Int32).toNatClampNeg) = 16 from rfl]; unfold upd; by_cases q : j = 16; rw [if_pos q, q, hv1]; rw [if_neg q, hg' j (by omega)]; exact hv j (by omega)⟩) (by decide) (by decide)

theorem d3_0 : decode method_3_code 0 = .ok (.iload_n 1, 1) := by decide +kernel
theorem d3_1 : decode method_3_code 1 = .ok (.iload_n 2, 1) := by decide +kernel
theorem d3_2 : decode method_3_code 2 = .ok (.if_icmp .ge 16, 3) := by decide +kernel
theorem d3_5 : decode method_3_code 5 = .ok (.aload_n 0, 1) := by decide +kernel
theorem d3_6 : decode method_3_code 6 = .ok (.iload_n 1, 1) := by decide +kernel
theorem d3_7 : decode method_3_code 7 = .ok (.iload_n 3, 1) := by decide +kernel
theorem d3_8 : decode method_3_code 8 = .ok (.iload 4, 2) := by decide +kernel
theorem d3_10 : decode method_3_code 10 = .ok (.iload 5, 2) := by decide +kernel
theorem d3_12 : decode method_3_code 12 = .ok (.invokestatic 7, 3) := by decide +kernel
theorem pd_2 : parseMethodDescriptor "(IIII)I" = some ⟨[.int, .int, .int, .int], some .int⟩ := by decide +kernel
theorem d3_15 : decode method_3_code 15 = .ok (.invokevirtual 13, 3) := by decide +kernel
theorem pd_3 : parseMethodDescriptor "(I)V" = some ⟨[.int], none⟩ := by decide +kernel
theorem d3_18 : decode method_3_code 18 = .ok (.return_, 1) := by decide +kernel
theorem ef_rmIa (m : MethodId) (x0 : Addr) (x1 : Int32) (x2 : Int32) (x3 : Int32) (x4 : Int32) (x5 : Int32) : entryFrame m #[(.ref x0), (.int x1), (.int x2), (.int x3), (.int x4), (.int x5)] 6 = mkF m 0 #[.val (.ref x0), .val (.int x1), .val (.int x2), .val (.int x3), .val (.int x4), .val (.int x5)] [] := by first | (simp [entryFrame, mkF, argsToLocals, Value.category]; done) | rfl
set_option maxRecDepth 65536 in
set_option maxHeartbeats 40000000 in
theorem rmIa (l : Launch) (Z : State) (a0 : Array Value) (hw : ∀ d ∈ tables_1, d.before a0 Z = true) (ws : List Jvm.Cond) (x0 : Addr) (x1 : Int32) (x2 : Int32) (x3 : Int32) (x4 : Int32) (x5 : Int32) (J N : Nat) (h0 : Heap) (n0 : Nat) (Z0 : n0 ≤ h0.size) (HI : IL Z h0 x0 (min J N) n0 (vv x3 x4 x5)) (hN : N ≤ 18) (hJ : J ≤ 17) (h1 : x1 = Int32.ofNat J) (h2 : x2 = Int32.ofNat N) (hJ2 : J ≠ 16) :
    MetFree l (⟨"com/example/tarsier/tarsier/index/IntListAddPinLaw", "addIf", "(Lcom/example/tarsier/tarsier/index/IntList;IIIII)V"⟩ : MethodName) (head1 (Jvm.Cond.code (⟨"com/example/tarsier/tarsier/index/IntListAddPinLaw", "addIf", "(Lcom/example/tarsier/tarsier/index/IntList;IIIII)V"⟩ : MethodName) method_3_code 6 none :: ws) ({ frames := 1, cells := 0, slots := 0, locals := 30 } : Room)) (fun a U => a = #[(.ref x0), (.int x1), (.int x2), (.int x3), (.int x4), (.int x5)] ∧ Z.Warmed39 U.vm ∧ U.heap = h0) (fun _ _ _ _ _ => True) (fun _ U o U' => ∃ v L, o = .returned v ∧ (QI none n0 (fun h => IL Z h x0 (min (J + 1) N) n0 (vv x3 x4 x5))) v U'.heap L ∧ FrameEnd U o U' L ({ frames := 1, cells := 0, slots := 0, locals := 30 } : Room).cells ({ frames := 1, cells := 0, slots := 0, locals := 30 } : Room).slots) := by
  refine MetFree.of_bodySF (plainFor_of_name pn_0) hisR ?_
  intro p e s m args below meth c s₁ Bd hml0 hP hK
  obtain ⟨rfl, hZ, hh⟩ := hP
  have hx := Bd.exec
  have hby := Bd.bytes
  have hml : c.maxLocals = 6 := hml0
  have hown : s.vm.findClass "com/example/tarsier/tarsier/index/IntListAddPinLaw" = some m.cls := findClass_of_methodNamed Bd.named
  have hnm := (name_of_methodNamed Bd.named Bd.method).1
  have X0 : Stand p l e ({ frames := 1, cells := 0, slots := 0, locals := 30 } : Room) s m #[(.ref x0), (.int x1), (.int x2), (.int x3), (.int x4), (.int x5)] below meth c s₁ [] 0 0 := Stand.of_body Bd
  have e0 : s₁.heap = h0 := by rw [← hh, Bd.state]; rfl
  have N0 := Fr.nil n0
  show Ends p e below s (QI none n0 (fun h => IL Z h x0 (min (J + 1) N) n0 (vv x3 x4 x5))) ({ frames := 1, cells := 0, slots := 0, locals := 30 } : Room).cells ({ frames := 1, cells := 0, slots := 0, locals := 30 } : Room).slots (s₁.setTop (entryFrame m #[(.ref x0), (.int x1), (.int x2), (.int x3), (.int x4), (.int x5)] 6))
  rw [ef_rmIa m x0 x1 x2 x3 x4 x5]
  show Ends p e below s _ _ _ (s₁.setTop (mkF m 0 #[.val (.ref x0), .val (.int x1), .val (.int x2), .val (.int x3), .val (.int x4), .val (.int x5)] []))
  have hex : Exa Z h0 x0 "com/example/tarsier/tarsier/index/IntList" := HI.1
  subst h1 h2
  show Ends p e below s _ _ _ (s₁.setTop (mkF m 0 #[.val (.ref x0), .val (.int (Int32.ofNat J)), .val (.int (Int32.ofNat N)), .val (.int x3), .val (.int x4), .val (.int x5)] []))
  refine Es.iloadN (q := 1) ?_ X0 hx (hb hby d3_0) rfl rfl
  refine Es.iloadN (q := 2) ?_ X0 hx (hb hby d3_1) rfl rfl
  by_cases hc1 : (Int32.ofNat J) < (Int32.ofNat N)
  · refine Es.icmpNo (q := 5) ?_ X0 hx (hb hby d3_2) rfl (XT.ii_ge_f hc1)
    refine Es.aloadN (q := 6) ?_ X0 hx (hb hby d3_5) rfl rfl rfl
    refine Es.iloadN (q := 7) ?_ X0 hx (hb hby d3_6) rfl rfl
    refine Es.iloadN (q := 8) ?_ X0 hx (hb hby d3_7) rfl rfl
    refine Es.iload (q := 10) ?_ X0 hx (hb hby d3_8) rfl rfl
    refine Es.iload (q := 12) ?_ X0 hx (hb hby d3_10) rfl rfl
    obtain ⟨v2, _, ⟨T2, L2, k2, n2⟩, -, X2, ⟨Lc2, hQ2, l2, y2, z2⟩, st2⟩ := Jvm.LawKit.callS X0 hx (y := (⟨"com/example/tarsier/tarsier/index/IntListAddPinLaw", "val", "(IIII)I"⟩ : MethodName)) hown (mvT hZ (hw _ (List.mem_of_getElem? (i := 17) rfl))) (mvT hZ (hw _ (List.mem_of_getElem? (i := 18) rfl))) (mvT hZ (hw _ (List.mem_of_getElem? (i := 15) rfl))) (mvT hZ (hw _ (List.mem_of_getElem? (i := 19) rfl))) (by decide) (backOf (W := 1) (rm4 l Z a0 hw [] (Int32.ofNat J) x3 x4 x5 h0 n0 Z0) hZ (hw _ (List.mem_of_getElem? (i := 19) rfl)) (hw _ (List.mem_of_getElem? (i := 15) rfl)) (by decide) (by decide)) (g := (mkF m 12 #[.val (.ref x0), .val (.int (Int32.ofNat J)), .val (.int (Int32.ofNat N)), .val (.int x3), .val (.int x4), .val (.int x5)] [(.int x5), (.int x4), (.int x3), (.int (Int32.ofNat J)), (.ref x0)])) rfl (by rw [hml]; rfl) (argsL := [(.int (Int32.ofNat J)), (.int x3), (.int x4), (.int x5)]) (rest := [(.ref x0)]) (lenOf pd_2 rfl) rfl (by show 2 * 0 + _ ≤ _; exact Nat.le_of_eq rfl) (hb hby d3_12) (fun _ _ => ⟨rfl, e0, (by decide : 0 + 0 ≤ _), (by decide : 0 + 0 ≤ _)⟩)
    dsimp only [Pt.U, Pt.locs, Pt.cells, Pt.slots] at X2 l2 y2 z2 st2 hQ2
    subst l2 y2 z2
    obtain ⟨rfl, N2q, e2⟩ := hQ2
    have N2 := Fr.app N0 N2q
    refine Ends.by ?_ st2
    show Ends p e below s _ _ _ (T2.setTop (mkF m 15 #[.val (.ref x0), .val (.int (Int32.ofNat J)), .val (.int (Int32.ofNat N)), .val (.int x3), .val (.int x4), .val (.int x5)] [(.int (f4 (Int32.ofNat J) x3 x4 x5)), (.ref x0)]))
    have hjn : J < N := (own_lt (by omega) (by omega)).mp hc1
    rw [show min J N = J by omega] at HI
    obtain ⟨cq3, kq3, q3a, q3b, q3c⟩ := isOf hZ e2 hex
    obtain ⟨v3, _, ⟨T3, L3, k3, n3⟩, -, X3, ⟨Lc3, hQ3, l3, y3, z3⟩, st3⟩ := X2.virtualBack hx (y := (⟨"com/example/tarsier/tarsier/index/IntList", "add", "(I)V"⟩ : MethodName)) (z := (⟨"com/example/tarsier/tarsier/index/IntList", "add", "(I)V"⟩ : MethodName)) hown (mvT hZ (hw _ (List.mem_of_getElem? (i := 20) rfl))) (mvT hZ (hw _ (List.mem_of_getElem? (i := 21) rfl))) (notFace_of_selects (args := #[]) (mvT hZ (hw _ (List.mem_of_getElem? (i := 23) rfl)))) (mvT hZ (hw _ (List.mem_of_getElem? (i := 23) rfl))) (mvT hZ (hw _ (List.mem_of_getElem? (i := 22) rfl))) (by decide) (backOf (W := 0) (rmAd l Z a0 hw [] x0 (f4 (Int32.ofNat J) x3 x4 x5) J (vv x3 x4 x5) h0 n0 Z0 HI (by omega) hJ2 rfl) hZ (hw _ (List.mem_of_getElem? (i := 24) rfl)) (hw _ (List.mem_of_getElem? (i := 3) rfl)) (by decide) (by decide)) q3a q3c (g := (mkF m 15 #[.val (.ref x0), .val (.int (Int32.ofNat J)), .val (.int (Int32.ofNat N)), .val (.int x3), .val (.int x4), .val (.int x5)] [(.int (f4 (Int32.ofNat J) x3 x4 x5)), (.ref x0)])) rfl (by rw [hml]; rfl) (Steps.refl _) (argsL := [(.int (f4 (Int32.ofNat J) x3 x4 x5))]) (rest := []) (lenOf pd_3 rfl) rfl (by show 2 * 0 + _ ≤ _; exact Nat.le_of_eq rfl) (hb hby d3_15) (fun _ _ => ⟨rfl, e2, (by decide : 0 + 0 ≤ _), (by decide : 0 + 0 ≤ _)⟩)
    dsimp only [Pt.U, Pt.locs, Pt.cells, Pt.slots] at X3 l3 y3 z3 st3 hQ3
    subst l3 y3 z3
    obtain ⟨rfl, N3q, Zq3, HI3⟩ := hQ3
    have N3 := Fr.app N2 N3q
    refine Ends.go st3 ?_
    show Ends p e below s _ _ _ (T3.setTop (mkF m 18 #[.val (.ref x0), .val (.int (Int32.ofNat J)), .val (.int (Int32.ofNat N)), .val (.int x3), .val (.int x4), .val (.int x5)] []))
    exact Ends.retV X3 hx Bd.notSynchronized Bd.returns (hb hby d3_18) (by exact ⟨rfl, N3, Zq3, by show IL Z _ x0 (min (J + 1) N) n0 _; rw [show min (J + 1) N = J + 1 by omega]; exact HI3⟩) (by decide) (by decide)
  · refine Es.icmpYes (q := 18) ?_ X0 hx (hb hby d3_2) (XT.ii_ge_t hc1) (by decide) (by decide)
    exact Ends.retV X0 hx Bd.notSynchronized Bd.returns (hb hby d3_18) (by rw [e0]; exact ⟨rfl, N0, Z0, by show IL Z _ x0 (min (J + 1) N) n0 _; rw [show min (J + 1) N = min J N by have := mt (own_lt (by omega) (by omega)).mpr hc1; omega]; exact HI⟩) (by decide) (by decide)

theorem ef_rmIg (m : MethodId) (x0 : Addr) (x1 : Int32) (x2 : Int32) (x3 : Int32) (x4 : Int32) (x5 : Int32) : entryFrame m #[(.ref x0), (.int x1), (.int x2), (.int x3), (.int x4), (.int x5)] 6 = mkF m 0 #[.val (.ref x0), .val (.int x1), .val (.int x2), .val (.int x3), .val (.int x4), .val (.int x5)] [] := by first | (simp [entryFrame, mkF, argsToLocals, Value.category]; done) | rfl
set_option maxRecDepth 65536 in
set_option maxHeartbeats 40000000 in
theorem rmIg (l : Launch) (Z : State) (a0 : Array Value) (hw : ∀ d ∈ tables_1, d.before a0 Z = true) (ws : List Jvm.Cond) (x0 : Addr) (x1 : Int32) (x2 : Int32) (x3 : Int32) (x4 : Int32) (x5 : Int32) (J N : Nat) (h0 : Heap) (n0 : Nat) (Z0 : n0 ≤ h0.size) (HI : IL Z h0 x0 (min J N) n0 (vv x3 x4 x5)) (hN : N ≤ 18) (hJ : J ≤ 17) (h1 : x1 = Int32.ofNat J) (h2 : x2 = Int32.ofNat N) (hJ2 : J = 16) :
    MetFree l (⟨"com/example/tarsier/tarsier/index/IntListAddPinLaw", "addIf", "(Lcom/example/tarsier/tarsier/index/IntList;IIIII)V"⟩ : MethodName) (head1 (Jvm.Cond.code (⟨"com/example/tarsier/tarsier/index/IntListAddPinLaw", "addIf", "(Lcom/example/tarsier/tarsier/index/IntList;IIIII)V"⟩ : MethodName) method_3_code 6 none :: ws) ({ frames := 3, cells := 1, slots := 32, locals := 70 } : Room)) (fun a U => a = #[(.ref x0), (.int x1), (.int x2), (.int x3), (.int x4), (.int x5)] ∧ Z.Warmed39 U.vm ∧ U.heap = h0) (fun _ _ _ _ _ => True) (fun _ U o U' => ∃ v L, o = .returned v ∧ (QI none n0 (fun h => IL Z h x0 (min (J + 1) N) n0 (vv x3 x4 x5))) v U'.heap L ∧ FrameEnd U o U' L ({ frames := 3, cells := 1, slots := 32, locals := 70 } : Room).cells ({ frames := 3, cells := 1, slots := 32, locals := 70 } : Room).slots) := by
  refine MetFree.of_bodySF (plainFor_of_name pn_0) hisR ?_
  intro p e s m args below meth c s₁ Bd hml0 hP hK
  obtain ⟨rfl, hZ, hh⟩ := hP
  have hx := Bd.exec
  have hby := Bd.bytes
  have hml : c.maxLocals = 6 := hml0
  have hown : s.vm.findClass "com/example/tarsier/tarsier/index/IntListAddPinLaw" = some m.cls := findClass_of_methodNamed Bd.named
  have hnm := (name_of_methodNamed Bd.named Bd.method).1
  have X0 : Stand p l e ({ frames := 3, cells := 1, slots := 32, locals := 70 } : Room) s m #[(.ref x0), (.int x1), (.int x2), (.int x3), (.int x4), (.int x5)] below meth c s₁ [] 0 0 := Stand.of_body Bd
  have e0 : s₁.heap = h0 := by rw [← hh, Bd.state]; rfl
  have N0 := Fr.nil n0
  show Ends p e below s (QI none n0 (fun h => IL Z h x0 (min (J + 1) N) n0 (vv x3 x4 x5))) ({ frames := 3, cells := 1, slots := 32, locals := 70 } : Room).cells ({ frames := 3, cells := 1, slots := 32, locals := 70 } : Room).slots (s₁.setTop (entryFrame m #[(.ref x0), (.int x1), (.int x2), (.int x3), (.int x4), (.int x5)] 6))
  rw [ef_rmIg m x0 x1 x2 x3 x4 x5]
  show Ends p e below s _ _ _ (s₁.setTop (mkF m 0 #[.val (.ref x0), .val (.int x1), .val (.int x2), .val (.int x3), .val (.int x4), .val (.int x5)] []))
  have hex : Exa Z h0 x0 "com/example/tarsier/tarsier/index/IntList" := HI.1
  subst h1 h2
  show Ends p e below s _ _ _ (s₁.setTop (mkF m 0 #[.val (.ref x0), .val (.int (Int32.ofNat J)), .val (.int (Int32.ofNat N)), .val (.int x3), .val (.int x4), .val (.int x5)] []))
  refine Es.iloadN (q := 1) ?_ X0 hx (hb hby d3_0) rfl rfl
  refine Es.iloadN (q := 2) ?_ X0 hx (hb hby d3_1) rfl rfl
  by_cases hc1 : (Int32.ofNat J) < (Int32.ofNat N)
  · refine Es.icmpNo (q := 5) ?_ X0 hx (hb hby d3_2) rfl (XT.ii_ge_f hc1)
    refine Es.aloadN (q := 6) ?_ X0 hx (hb hby d3_5) rfl rfl rfl
    refine Es.iloadN (q := 7) ?_ X0 hx (hb hby d3_6) rfl rfl
    refine Es.iloadN (q := 8) ?_ X0 hx (hb hby d3_7) rfl rfl
    refine Es.iload (q := 10) ?_ X0 hx (hb hby d3_8) rfl rfl
    refine Es.iload (q := 12) ?_ X0 hx (hb hby d3_10) rfl rfl
    obtain ⟨v2, _, ⟨T2, L2, k2, n2⟩, -, X2, ⟨Lc2, hQ2, l2, y2, z2⟩, st2⟩ := Jvm.LawKit.callS X0 hx (y := (⟨"com/example/tarsier/tarsier/index/IntListAddPinLaw", "val", "(IIII)I"⟩ : MethodName)) hown (mvT hZ (hw _ (List.mem_of_getElem? (i := 17) rfl))) (mvT hZ (hw _ (List.mem_of_getElem? (i := 18) rfl))) (mvT hZ (hw _ (List.mem_of_getElem? (i := 15) rfl))) (mvT hZ (hw _ (List.mem_of_getElem? (i := 19) rfl))) (by decide) (backOf (W := 1) (rm4 l Z a0 hw [] (Int32.ofNat J) x3 x4 x5 h0 n0 Z0) hZ (hw _ (List.mem_of_getElem? (i := 19) rfl)) (hw _ (List.mem_of_getElem? (i := 15) rfl)) (by decide) (by decide)) (g := (mkF m 12 #[.val (.ref x0), .val (.int (Int32.ofNat J)), .val (.int (Int32.ofNat N)), .val (.int x3), .val (.int x4), .val (.int x5)] [(.int x5), (.int x4), (.int x3), (.int (Int32.ofNat J)), (.ref x0)])) rfl (by rw [hml]; rfl) (argsL := [(.int (Int32.ofNat J)), (.int x3), (.int x4), (.int x5)]) (rest := [(.ref x0)]) (lenOf pd_2 rfl) rfl (by show 2 * 0 + _ ≤ _; exact Nat.le_of_eq rfl) (hb hby d3_12) (fun _ _ => ⟨rfl, e0, (by decide : 0 + 0 ≤ _), (by decide : 0 + 0 ≤ _)⟩)
    dsimp only [Pt.U, Pt.locs, Pt.cells, Pt.slots] at X2 l2 y2 z2 st2 hQ2
    subst l2 y2 z2
    obtain ⟨rfl, N2q, e2⟩ := hQ2
    have N2 := Fr.app N0 N2q
    refine Ends.by ?_ st2
    show Ends p e below s _ _ _ (T2.setTop (mkF m 15 #[.val (.ref x0), .val (.int (Int32.ofNat J)), .val (.int (Int32.ofNat N)), .val (.int x3), .val (.int x4), .val (.int x5)] [(.int (f4 (Int32.ofNat J) x3 x4 x5)), (.ref x0)]))
    have hjn : J < N := (own_lt (by omega) (by omega)).mp hc1
    rw [show min J N = J by omega] at HI
    obtain ⟨cq3, kq3, q3a, q3b, q3c⟩ := isOf hZ e2 hex
    obtain ⟨v3, _, ⟨T3, L3, k3, n3⟩, -, X3, ⟨Lc3, hQ3, l3, y3, z3⟩, st3⟩ := X2.virtualBack hx (y := (⟨"com/example/tarsier/tarsier/index/IntList", "add", "(I)V"⟩ : MethodName)) (z := (⟨"com/example/tarsier/tarsier/index/IntList", "add", "(I)V"⟩ : MethodName)) hown (mvT hZ (hw _ (List.mem_of_getElem? (i := 20) rfl))) (mvT hZ (hw _ (List.mem_of_getElem? (i := 21) rfl))) (notFace_of_selects (args := #[]) (mvT hZ (hw _ (List.mem_of_getElem? (i := 23) rfl)))) (mvT hZ (hw _ (List.mem_of_getElem? (i := 23) rfl))) (mvT hZ (hw _ (List.mem_of_getElem? (i := 22) rfl))) (by decide) (backOf (W := 0) (rmAg l Z a0 hw [] x0 (f4 (Int32.ofNat J) x3 x4 x5) (vv x3 x4 x5) h0 n0 Z0 (hJ2 ▸ HI) (by rw [hJ2]; rfl)) hZ (hw _ (List.mem_of_getElem? (i := 24) rfl)) (hw _ (List.mem_of_getElem? (i := 3) rfl)) (by decide) (by decide)) q3a q3c (g := (mkF m 15 #[.val (.ref x0), .val (.int (Int32.ofNat J)), .val (.int (Int32.ofNat N)), .val (.int x3), .val (.int x4), .val (.int x5)] [(.int (f4 (Int32.ofNat J) x3 x4 x5)), (.ref x0)])) rfl (by rw [hml]; rfl) (Steps.refl _) (argsL := [(.int (f4 (Int32.ofNat J) x3 x4 x5))]) (rest := []) (lenOf pd_3 rfl) rfl (by show 2 * 0 + _ ≤ _; exact Nat.le_of_eq rfl) (hb hby d3_15) (fun _ _ => ⟨rfl, e2, (by decide : 0 + 1 ≤ _), (by decide : 0 + 32 ≤ _)⟩)
    dsimp only [Pt.U, Pt.locs, Pt.cells, Pt.slots] at X3 l3 y3 z3 st3 hQ3
    subst l3 y3 z3
    obtain ⟨rfl, N3q, Zq3, HI3⟩ := hQ3
    have N3 := Fr.app N2 N3q
    refine Ends.go st3 ?_
    show Ends p e below s _ _ _ (T3.setTop (mkF m 18 #[.val (.ref x0), .val (.int (Int32.ofNat J)), .val (.int (Int32.ofNat N)), .val (.int x3), .val (.int x4), .val (.int x5)] []))
    exact Ends.retV X3 hx Bd.notSynchronized Bd.returns (hb hby d3_18) (by exact ⟨rfl, N3, Zq3, by show IL Z _ x0 (min (J + 1) N) n0 _; rw [show min (J + 1) N = 17 by omega]; exact HI3⟩) (by decide) (by decide)
  · refine Es.icmpYes (q := 18) ?_ X0 hx (hb hby d3_2) (XT.ii_ge_t hc1) (by decide) (by decide)
    exact Ends.retV X0 hx Bd.notSynchronized Bd.returns (hb hby d3_18) (by rw [e0]; exact ⟨rfl, N0, Z0, by show IL Z _ x0 (min (J + 1) N) n0 _; rw [show min (J + 1) N = min J N by have := mt (own_lt (by omega) (by omega)).mpr hc1; omega]; exact HI⟩) (by decide) (by decide)

theorem own_n (x : Int32) : ∃ (N : Nat) (a : Int32), a = (x &&& (2147483647 : Int32)) % (19 : Int32) ∧ N ≤ 18 ∧ a = Int32.ofNat N := by
  have h := c_mask x 2147483647 31 (by decide) (by decide)
  have h2 := (c_irem (x &&& (2147483647 : Int32)) 19 19 (by decide)).1 (by omega)
  refine ⟨(((x &&& (2147483647 : Int32)) % (19 : Int32)).toInt).toNat, _, rfl, by omega, ?_⟩
  apply Int32.toInt_inj.mp
  rw [own_ofNat (by omega)]; omega
theorem pd_4 : parseMethodDescriptor "()V" = some ⟨[], none⟩ := by decide +kernel
theorem pd_5 : parseMethodDescriptor "(Lcom/example/tarsier/tarsier/index/IntList;IIIII)V" = some ⟨[(.object "com/example/tarsier/tarsier/index/IntList"), .int, .int, .int, .int, .int], none⟩ := by decide +kernel
theorem pd_6 : parseMethodDescriptor "()I" = some ⟨[], some .int⟩ := by decide +kernel
theorem pd_7 : parseMethodDescriptor "(I)I" = some ⟨[.int], some .int⟩ := by decide +kernel
set_option maxRecDepth 65536 in
set_option maxHeartbeats 40000000 in
theorem sg0_372 {p : Program} {l : Launch} {e : Env} {s : State} {m : MethodId} {args : Array Value} {below : List Frame} {meth : Method} {c : Code} {Z : State} {a0 : Array Value} (hx : p.tables.exec = Jvm.exec) (hZ : Z.Warmed39 s.vm) (hw : ∀ d ∈ tables_1, d.before a0 Z = true) (hby : c.code = code) (hml : c.maxLocals = 6) (hown : s.vm.findClass "com/example/tarsier/tarsier/index/IntListAddPinLaw" = some m.cls) (hlk : meth.locks = false) (hret : meth.sig.returnType = some .boolean) {T : State} {locs : List Loc} {h : Heap} {n0 : Nat} (x0 : Int32) (x1 : Int32) (x2 : Int32) (x3 : Int32) (NN : Nat) (nn : Int32) (b1 : Addr) (X : Stand p l e room_1 s m args below meth c T locs 3 50) (eT : T.heap = h) (N : Fr n0 locs) (Zs : n0 ≤ h.size) (q0 : IL Z h b1 (min 18 NN) n0 (vv x0 x1 x2)) (old0_ : n0 ≤ b1) (hNN : NN ≤ 18) (hnn : nn = Int32.ofNat NN) :
    Ends p e below s (QL n0) room_1.cells room_1.slots (T.setTop (mkF m 372 #[.val (.int x0), .val (.int x1), .val (.int x2), .val (.int x3), .val (.int nn), .val (.ref b1)] [])) := by
  show Ends p e below s _ _ _ (T.setTop (mkF m 372 #[.val (.int x0), .val (.int x1), .val (.int x2), .val (.int x3), .val (.int nn), .val (.ref b1)] []))
  refine Es.iconst (q := 373) (z := (1 : Int32)) ?_ X hx (hb hby at_372) rfl rfl
  exact Ends.retN X hx hlk hret (t := .boolean) (by simp) (hb hby at_373) (w := 1) rfl ⟨rfl, N⟩ (by decide) (by decide)

set_option maxRecDepth 65536 in
set_option maxHeartbeats 40000000 in
theorem sg0_349 {p : Program} {l : Launch} {e : Env} {s : State} {m : MethodId} {args : Array Value} {below : List Frame} {meth : Method} {c : Code} {Z : State} {a0 : Array Value} (hx : p.tables.exec = Jvm.exec) (hZ : Z.Warmed39 s.vm) (hw : ∀ d ∈ tables_1, d.before a0 Z = true) (hby : c.code = code) (hml : c.maxLocals = 6) (hown : s.vm.findClass "com/example/tarsier/tarsier/index/IntListAddPinLaw" = some m.cls) (hlk : meth.locks = false) (hret : meth.sig.returnType = some .boolean) {T : State} {locs : List Loc} {h : Heap} {n0 : Nat} (x0 : Int32) (x1 : Int32) (x2 : Int32) (x3 : Int32) (NN : Nat) (nn : Int32) (b1 : Addr) (X : Stand p l e room_1 s m args below meth c T locs 3 50) (eT : T.heap = h) (N : Fr n0 locs) (Zs : n0 ≤ h.size) (q0 : IL Z h b1 (min 18 NN) n0 (vv x0 x1 x2)) (old0_ : n0 ≤ b1) (hNN : NN ≤ 18) (hnn : nn = Int32.ofNat NN) :
    Ends p e below s (QL n0) room_1.cells room_1.slots (T.setTop (mkF m 349 #[.val (.int x0), .val (.int x1), .val (.int x2), .val (.int x3), .val (.int nn), .val (.ref b1)] [])) := by
  show Ends p e below s _ _ _ (T.setTop (mkF m 349 #[.val (.int x0), .val (.int x1), .val (.int x2), .val (.int x3), .val (.int nn), .val (.ref b1)] []))
  refine Es.iload (q := 351) ?_ X hx (hb hby at_349) rfl rfl
  refine Es.bipush (q := 353) (z := (17 : Int32)) ?_ X hx (hb hby at_351) rfl rfl
  by_cases hc34 : (17 : Int32) < nn
  · refine Es.icmpNo (q := 356) ?_ X hx (hb hby at_353) rfl (XT.ii_le_f hc34)
    refine Es.aload (q := 358) ?_ X hx (hb hby at_356) rfl rfl rfl
    refine Es.bipush (q := 360) (z := (17 : Int32)) ?_ X hx (hb hby at_358) rfl rfl
    obtain ⟨cq35, kq35, q35a, q35b, q35c⟩ := isOf hZ eT q0.1
    obtain ⟨v35, _, ⟨T35, L35, k35, n35⟩, -, X35, ⟨Lc35, hQ35, l35, y35, z35⟩, st35⟩ := X.virtualBack hx (y := (⟨"com/example/tarsier/tarsier/index/IntList", "get", "(I)I"⟩ : MethodName)) (z := (⟨"com/example/tarsier/tarsier/index/IntList", "get", "(I)I"⟩ : MethodName)) hown (mvT hZ (hw _ (List.mem_of_getElem? (i := 32) rfl))) (mvT hZ (hw _ (List.mem_of_getElem? (i := 33) rfl))) (notFace_of_selects (args := #[]) (mvT hZ (hw _ (List.mem_of_getElem? (i := 35) rfl)))) (mvT hZ (hw _ (List.mem_of_getElem? (i := 35) rfl))) (mvT hZ (hw _ (List.mem_of_getElem? (i := 34) rfl))) (by decide) (backOf (W := 0) (rm7 l Z a0 hw [] b1 (17 : Int32) (min 18 NN) 17 (vv x0 x1 x2) h n0 Zs q0 (by have q := hc34; rw [hnn, show (17 : Int32) = Int32.ofNat 17 from rfl, own_lt (by omega) (by omega)] at q; omega) (by omega) rfl) hZ (hw _ (List.mem_of_getElem? (i := 36) rfl)) (hw _ (List.mem_of_getElem? (i := 3) rfl)) (by decide) (by decide)) q35a q35c (g := (mkF m 360 #[.val (.int x0), .val (.int x1), .val (.int x2), .val (.int x3), .val (.int nn), .val (.ref b1)] [(.int (17 : Int32)), (.ref b1)])) rfl (by rw [hml]; rfl) (Steps.refl _) (argsL := [(.int (17 : Int32))]) (rest := []) (lenOf pd_7 rfl) rfl (by show 2 * 0 + _ ≤ _; exact Nat.le_of_eq rfl) (hb hby at_360) (fun _ _ => ⟨rfl, eT, (by decide : 3 + 0 ≤ _), (by decide : 50 + 0 ≤ _)⟩)
    dsimp only [Pt.U, Pt.locs, Pt.cells, Pt.slots] at X35 l35 y35 z35 st35 hQ35
    subst l35 y35 z35
    obtain ⟨rfl, N35q, e35⟩ := hQ35
    have N35 := Fr.app N N35q
    refine Ends.go st35 ?_
    show Ends p e below s _ _ _ (T35.setTop (mkF m 363 #[.val (.int x0), .val (.int x1), .val (.int x2), .val (.int x3), .val (.int nn), .val (.ref b1)] [(.int (vv x0 x1 x2 17))]))
    refine Es.iloadN (q := 364) ?_ X35 hx (hb hby at_363) rfl rfl
    refine Es.bipush (q := 366) (z := (17 : Int32)) ?_ X35 hx (hb hby at_364) rfl rfl
    refine Es.iadd (q := 367) ?_ X35 hx (hb hby at_366) rfl
    refine Es.icmpYes (q := 372) ?_ X35 hx (hb hby at_367) (XT.ii_eq_t (rfl : (vv x0 x1 x2 17) = (x1 + (17 : Int32)))) (by decide) (by decide)
    exact sg0_372 hx hZ hw hby hml hown hlk hret (x0) (x1) (x2) (x3) (NN) (nn) b1 X35 e35 N35 Zs q0 old0_ hNN hnn
  · refine Es.icmpYes (q := 372) ?_ X hx (hb hby at_353) (XT.ii_le_t hc34) (by decide) (by decide)
    exact sg0_372 hx hZ hw hby hml hown hlk hret (x0) (x1) (x2) (x3) (NN) (nn) b1 X eT N Zs q0 old0_ hNN hnn

set_option maxRecDepth 65536 in
set_option maxHeartbeats 40000000 in
theorem sg0_329 {p : Program} {l : Launch} {e : Env} {s : State} {m : MethodId} {args : Array Value} {below : List Frame} {meth : Method} {c : Code} {Z : State} {a0 : Array Value} (hx : p.tables.exec = Jvm.exec) (hZ : Z.Warmed39 s.vm) (hw : ∀ d ∈ tables_1, d.before a0 Z = true) (hby : c.code = code) (hml : c.maxLocals = 6) (hown : s.vm.findClass "com/example/tarsier/tarsier/index/IntListAddPinLaw" = some m.cls) (hlk : meth.locks = false) (hret : meth.sig.returnType = some .boolean) {T : State} {locs : List Loc} {h : Heap} {n0 : Nat} (x0 : Int32) (x1 : Int32) (x2 : Int32) (x3 : Int32) (NN : Nat) (nn : Int32) (b1 : Addr) (X : Stand p l e room_1 s m args below meth c T locs 3 50) (eT : T.heap = h) (N : Fr n0 locs) (Zs : n0 ≤ h.size) (q0 : IL Z h b1 (min 18 NN) n0 (vv x0 x1 x2)) (old0_ : n0 ≤ b1) (hNN : NN ≤ 18) (hnn : nn = Int32.ofNat NN) :
    Ends p e below s (QL n0) room_1.cells room_1.slots (T.setTop (mkF m 329 #[.val (.int x0), .val (.int x1), .val (.int x2), .val (.int x3), .val (.int nn), .val (.ref b1)] [])) := by
  show Ends p e below s _ _ _ (T.setTop (mkF m 329 #[.val (.int x0), .val (.int x1), .val (.int x2), .val (.int x3), .val (.int nn), .val (.ref b1)] []))
  refine Es.iload (q := 331) ?_ X hx (hb hby at_329) rfl rfl
  refine Es.bipush (q := 333) (z := (16 : Int32)) ?_ X hx (hb hby at_331) rfl rfl
  by_cases hc32 : (16 : Int32) < nn
  · refine Es.icmpNo (q := 336) ?_ X hx (hb hby at_333) rfl (XT.ii_le_f hc32)
    refine Es.aload (q := 338) ?_ X hx (hb hby at_336) rfl rfl rfl
    refine Es.bipush (q := 340) (z := (16 : Int32)) ?_ X hx (hb hby at_338) rfl rfl
    obtain ⟨cq33, kq33, q33a, q33b, q33c⟩ := isOf hZ eT q0.1
    obtain ⟨v33, _, ⟨T33, L33, k33, n33⟩, -, X33, ⟨Lc33, hQ33, l33, y33, z33⟩, st33⟩ := X.virtualBack hx (y := (⟨"com/example/tarsier/tarsier/index/IntList", "get", "(I)I"⟩ : MethodName)) (z := (⟨"com/example/tarsier/tarsier/index/IntList", "get", "(I)I"⟩ : MethodName)) hown (mvT hZ (hw _ (List.mem_of_getElem? (i := 32) rfl))) (mvT hZ (hw _ (List.mem_of_getElem? (i := 33) rfl))) (notFace_of_selects (args := #[]) (mvT hZ (hw _ (List.mem_of_getElem? (i := 35) rfl)))) (mvT hZ (hw _ (List.mem_of_getElem? (i := 35) rfl))) (mvT hZ (hw _ (List.mem_of_getElem? (i := 34) rfl))) (by decide) (backOf (W := 0) (rm7 l Z a0 hw [] b1 (16 : Int32) (min 18 NN) 16 (vv x0 x1 x2) h n0 Zs q0 (by have q := hc32; rw [hnn, show (16 : Int32) = Int32.ofNat 16 from rfl, own_lt (by omega) (by omega)] at q; omega) (by omega) rfl) hZ (hw _ (List.mem_of_getElem? (i := 36) rfl)) (hw _ (List.mem_of_getElem? (i := 3) rfl)) (by decide) (by decide)) q33a q33c (g := (mkF m 340 #[.val (.int x0), .val (.int x1), .val (.int x2), .val (.int x3), .val (.int nn), .val (.ref b1)] [(.int (16 : Int32)), (.ref b1)])) rfl (by rw [hml]; rfl) (Steps.refl _) (argsL := [(.int (16 : Int32))]) (rest := []) (lenOf pd_7 rfl) rfl (by show 2 * 0 + _ ≤ _; exact Nat.le_of_eq rfl) (hb hby at_340) (fun _ _ => ⟨rfl, eT, (by decide : 3 + 0 ≤ _), (by decide : 50 + 0 ≤ _)⟩)
    dsimp only [Pt.U, Pt.locs, Pt.cells, Pt.slots] at X33 l33 y33 z33 st33 hQ33
    subst l33 y33 z33
    obtain ⟨rfl, N33q, e33⟩ := hQ33
    have N33 := Fr.app N N33q
    refine Ends.go st33 ?_
    show Ends p e below s _ _ _ (T33.setTop (mkF m 343 #[.val (.int x0), .val (.int x1), .val (.int x2), .val (.int x3), .val (.int nn), .val (.ref b1)] [(.int (vv x0 x1 x2 16))]))
    refine Es.iloadN (q := 344) ?_ X33 hx (hb hby at_343) rfl rfl
    refine Es.icmpYes (q := 349) ?_ X33 hx (hb hby at_344) (XT.ii_eq_t (rfl : (vv x0 x1 x2 16) = x2)) (by decide) (by decide)
    exact sg0_349 hx hZ hw hby hml hown hlk hret (x0) (x1) (x2) (x3) (NN) (nn) b1 X33 e33 N33 Zs q0 old0_ hNN hnn
  · refine Es.icmpYes (q := 349) ?_ X hx (hb hby at_333) (XT.ii_le_t hc32) (by decide) (by decide)
    exact sg0_349 hx hZ hw hby hml hown hlk hret (x0) (x1) (x2) (x3) (NN) (nn) b1 X eT N Zs q0 old0_ hNN hnn

set_option maxRecDepth 65536 in
set_option maxHeartbeats 40000000 in
theorem sg0_306 {p : Program} {l : Launch} {e : Env} {s : State} {m : MethodId} {args : Array Value} {below : List Frame} {meth : Method} {c : Code} {Z : State} {a0 : Array Value} (hx : p.tables.exec = Jvm.exec) (hZ : Z.Warmed39 s.vm) (hw : ∀ d ∈ tables_1, d.before a0 Z = true) (hby : c.code = code) (hml : c.maxLocals = 6) (hown : s.vm.findClass "com/example/tarsier/tarsier/index/IntListAddPinLaw" = some m.cls) (hlk : meth.locks = false) (hret : meth.sig.returnType = some .boolean) {T : State} {locs : List Loc} {h : Heap} {n0 : Nat} (x0 : Int32) (x1 : Int32) (x2 : Int32) (x3 : Int32) (NN : Nat) (nn : Int32) (b1 : Addr) (X : Stand p l e room_1 s m args below meth c T locs 3 50) (eT : T.heap = h) (N : Fr n0 locs) (Zs : n0 ≤ h.size) (q0 : IL Z h b1 (min 18 NN) n0 (vv x0 x1 x2)) (old0_ : n0 ≤ b1) (hNN : NN ≤ 18) (hnn : nn = Int32.ofNat NN) :
    Ends p e below s (QL n0) room_1.cells room_1.slots (T.setTop (mkF m 306 #[.val (.int x0), .val (.int x1), .val (.int x2), .val (.int x3), .val (.int nn), .val (.ref b1)] [])) := by
  show Ends p e below s _ _ _ (T.setTop (mkF m 306 #[.val (.int x0), .val (.int x1), .val (.int x2), .val (.int x3), .val (.int nn), .val (.ref b1)] []))
  refine Es.iload (q := 308) ?_ X hx (hb hby at_306) rfl rfl
  refine Es.bipush (q := 310) (z := (15 : Int32)) ?_ X hx (hb hby at_308) rfl rfl
  by_cases hc30 : (15 : Int32) < nn
  · refine Es.icmpNo (q := 313) ?_ X hx (hb hby at_310) rfl (XT.ii_le_f hc30)
    refine Es.aload (q := 315) ?_ X hx (hb hby at_313) rfl rfl rfl
    refine Es.bipush (q := 317) (z := (15 : Int32)) ?_ X hx (hb hby at_315) rfl rfl
    obtain ⟨cq31, kq31, q31a, q31b, q31c⟩ := isOf hZ eT q0.1
    obtain ⟨v31, _, ⟨T31, L31, k31, n31⟩, -, X31, ⟨Lc31, hQ31, l31, y31, z31⟩, st31⟩ := X.virtualBack hx (y := (⟨"com/example/tarsier/tarsier/index/IntList", "get", "(I)I"⟩ : MethodName)) (z := (⟨"com/example/tarsier/tarsier/index/IntList", "get", "(I)I"⟩ : MethodName)) hown (mvT hZ (hw _ (List.mem_of_getElem? (i := 32) rfl))) (mvT hZ (hw _ (List.mem_of_getElem? (i := 33) rfl))) (notFace_of_selects (args := #[]) (mvT hZ (hw _ (List.mem_of_getElem? (i := 35) rfl)))) (mvT hZ (hw _ (List.mem_of_getElem? (i := 35) rfl))) (mvT hZ (hw _ (List.mem_of_getElem? (i := 34) rfl))) (by decide) (backOf (W := 0) (rm7 l Z a0 hw [] b1 (15 : Int32) (min 18 NN) 15 (vv x0 x1 x2) h n0 Zs q0 (by have q := hc30; rw [hnn, show (15 : Int32) = Int32.ofNat 15 from rfl, own_lt (by omega) (by omega)] at q; omega) (by omega) rfl) hZ (hw _ (List.mem_of_getElem? (i := 36) rfl)) (hw _ (List.mem_of_getElem? (i := 3) rfl)) (by decide) (by decide)) q31a q31c (g := (mkF m 317 #[.val (.int x0), .val (.int x1), .val (.int x2), .val (.int x3), .val (.int nn), .val (.ref b1)] [(.int (15 : Int32)), (.ref b1)])) rfl (by rw [hml]; rfl) (Steps.refl _) (argsL := [(.int (15 : Int32))]) (rest := []) (lenOf pd_7 rfl) rfl (by show 2 * 0 + _ ≤ _; exact Nat.le_of_eq rfl) (hb hby at_317) (fun _ _ => ⟨rfl, eT, (by decide : 3 + 0 ≤ _), (by decide : 50 + 0 ≤ _)⟩)
    dsimp only [Pt.U, Pt.locs, Pt.cells, Pt.slots] at X31 l31 y31 z31 st31 hQ31
    subst l31 y31 z31
    obtain ⟨rfl, N31q, e31⟩ := hQ31
    have N31 := Fr.app N N31q
    refine Ends.go st31 ?_
    show Ends p e below s _ _ _ (T31.setTop (mkF m 320 #[.val (.int x0), .val (.int x1), .val (.int x2), .val (.int x3), .val (.int nn), .val (.ref b1)] [(.int (vv x0 x1 x2 15))]))
    refine Es.iloadN (q := 321) ?_ X31 hx (hb hby at_320) rfl rfl
    refine Es.bipush (q := 323) (z := (15 : Int32)) ?_ X31 hx (hb hby at_321) rfl rfl
    refine Es.iadd (q := 324) ?_ X31 hx (hb hby at_323) rfl
    refine Es.icmpYes (q := 329) ?_ X31 hx (hb hby at_324) (XT.ii_eq_t (rfl : (vv x0 x1 x2 15) = (x1 + (15 : Int32)))) (by decide) (by decide)
    exact sg0_329 hx hZ hw hby hml hown hlk hret (x0) (x1) (x2) (x3) (NN) (nn) b1 X31 e31 N31 Zs q0 old0_ hNN hnn
  · refine Es.icmpYes (q := 329) ?_ X hx (hb hby at_310) (XT.ii_le_t hc30) (by decide) (by decide)
    exact sg0_329 hx hZ hw hby hml hown hlk hret (x0) (x1) (x2) (x3) (NN) (nn) b1 X eT N Zs q0 old0_ hNN hnn

set_option maxRecDepth 65536 in
set_option maxHeartbeats 40000000 in
theorem sg0_286 {p : Program} {l : Launch} {e : Env} {s : State} {m : MethodId} {args : Array Value} {below : List Frame} {meth : Method} {c : Code} {Z : State} {a0 : Array Value} (hx : p.tables.exec = Jvm.exec) (hZ : Z.Warmed39 s.vm) (hw : ∀ d ∈ tables_1, d.before a0 Z = true) (hby : c.code = code) (hml : c.maxLocals = 6) (hown : s.vm.findClass "com/example/tarsier/tarsier/index/IntListAddPinLaw" = some m.cls) (hlk : meth.locks = false) (hret : meth.sig.returnType = some .boolean) {T : State} {locs : List Loc} {h : Heap} {n0 : Nat} (x0 : Int32) (x1 : Int32) (x2 : Int32) (x3 : Int32) (NN : Nat) (nn : Int32) (b1 : Addr) (X : Stand p l e room_1 s m args below meth c T locs 3 50) (eT : T.heap = h) (N : Fr n0 locs) (Zs : n0 ≤ h.size) (q0 : IL Z h b1 (min 18 NN) n0 (vv x0 x1 x2)) (old0_ : n0 ≤ b1) (hNN : NN ≤ 18) (hnn : nn = Int32.ofNat NN) :
    Ends p e below s (QL n0) room_1.cells room_1.slots (T.setTop (mkF m 286 #[.val (.int x0), .val (.int x1), .val (.int x2), .val (.int x3), .val (.int nn), .val (.ref b1)] [])) := by
  show Ends p e below s _ _ _ (T.setTop (mkF m 286 #[.val (.int x0), .val (.int x1), .val (.int x2), .val (.int x3), .val (.int nn), .val (.ref b1)] []))
  refine Es.iload (q := 288) ?_ X hx (hb hby at_286) rfl rfl
  refine Es.iconst (q := 289) (z := (1 : Int32)) ?_ X hx (hb hby at_288) rfl rfl
  by_cases hc28 : (1 : Int32) < nn
  · refine Es.icmpNo (q := 292) ?_ X hx (hb hby at_289) rfl (XT.ii_le_f hc28)
    refine Es.aload (q := 294) ?_ X hx (hb hby at_292) rfl rfl rfl
    refine Es.iconst (q := 295) (z := (1 : Int32)) ?_ X hx (hb hby at_294) rfl rfl
    obtain ⟨cq29, kq29, q29a, q29b, q29c⟩ := isOf hZ eT q0.1
    obtain ⟨v29, _, ⟨T29, L29, k29, n29⟩, -, X29, ⟨Lc29, hQ29, l29, y29, z29⟩, st29⟩ := X.virtualBack hx (y := (⟨"com/example/tarsier/tarsier/index/IntList", "get", "(I)I"⟩ : MethodName)) (z := (⟨"com/example/tarsier/tarsier/index/IntList", "get", "(I)I"⟩ : MethodName)) hown (mvT hZ (hw _ (List.mem_of_getElem? (i := 32) rfl))) (mvT hZ (hw _ (List.mem_of_getElem? (i := 33) rfl))) (notFace_of_selects (args := #[]) (mvT hZ (hw _ (List.mem_of_getElem? (i := 35) rfl)))) (mvT hZ (hw _ (List.mem_of_getElem? (i := 35) rfl))) (mvT hZ (hw _ (List.mem_of_getElem? (i := 34) rfl))) (by decide) (backOf (W := 0) (rm7 l Z a0 hw [] b1 (1 : Int32) (min 18 NN) 1 (vv x0 x1 x2) h n0 Zs q0 (by have q := hc28; rw [hnn, show (1 : Int32) = Int32.ofNat 1 from rfl, own_lt (by omega) (by omega)] at q; omega) (by omega) rfl) hZ (hw _ (List.mem_of_getElem? (i := 36) rfl)) (hw _ (List.mem_of_getElem? (i := 3) rfl)) (by decide) (by decide)) q29a q29c (g := (mkF m 295 #[.val (.int x0), .val (.int x1), .val (.int x2), .val (.int x3), .val (.int nn), .val (.ref b1)] [(.int (1 : Int32)), (.ref b1)])) rfl (by rw [hml]; rfl) (Steps.refl _) (argsL := [(.int (1 : Int32))]) (rest := []) (lenOf pd_7 rfl) rfl (by show 2 * 0 + _ ≤ _; exact Nat.le_of_eq rfl) (hb hby at_295) (fun _ _ => ⟨rfl, eT, (by decide : 3 + 0 ≤ _), (by decide : 50 + 0 ≤ _)⟩)
    dsimp only [Pt.U, Pt.locs, Pt.cells, Pt.slots] at X29 l29 y29 z29 st29 hQ29
    subst l29 y29 z29
    obtain ⟨rfl, N29q, e29⟩ := hQ29
    have N29 := Fr.app N N29q
    refine Ends.go st29 ?_
    show Ends p e below s _ _ _ (T29.setTop (mkF m 298 #[.val (.int x0), .val (.int x1), .val (.int x2), .val (.int x3), .val (.int nn), .val (.ref b1)] [(.int (vv x0 x1 x2 1))]))
    refine Es.iloadN (q := 299) ?_ X29 hx (hb hby at_298) rfl rfl
    refine Es.iconst (q := 300) (z := (1 : Int32)) ?_ X29 hx (hb hby at_299) rfl rfl
    refine Es.iadd (q := 301) ?_ X29 hx (hb hby at_300) rfl
    refine Es.icmpYes (q := 306) ?_ X29 hx (hb hby at_301) (XT.ii_eq_t (rfl : (vv x0 x1 x2 1) = (x1 + (1 : Int32)))) (by decide) (by decide)
    exact sg0_306 hx hZ hw hby hml hown hlk hret (x0) (x1) (x2) (x3) (NN) (nn) b1 X29 e29 N29 Zs q0 old0_ hNN hnn
  · refine Es.icmpYes (q := 306) ?_ X hx (hb hby at_289) (XT.ii_le_t hc28) (by decide) (by decide)
    exact sg0_306 hx hZ hw hby hml hown hlk hret (x0) (x1) (x2) (x3) (NN) (nn) b1 X eT N Zs q0 old0_ hNN hnn

set_option maxRecDepth 65536 in
set_option maxHeartbeats 40000000 in
theorem sg0_257 {p : Program} {l : Launch} {e : Env} {s : State} {m : MethodId} {args : Array Value} {below : List Frame} {meth : Method} {c : Code} {Z : State} {a0 : Array Value} (hx : p.tables.exec = Jvm.exec) (hZ : Z.Warmed39 s.vm) (hw : ∀ d ∈ tables_1, d.before a0 Z = true) (hby : c.code = code) (hml : c.maxLocals = 6) (hown : s.vm.findClass "com/example/tarsier/tarsier/index/IntListAddPinLaw" = some m.cls) (hlk : meth.locks = false) (hret : meth.sig.returnType = some .boolean) {T : State} {locs : List Loc} {h : Heap} {n0 : Nat} (x0 : Int32) (x1 : Int32) (x2 : Int32) (x3 : Int32) (NN : Nat) (nn : Int32) (b1 : Addr) (X : Stand p l e room_1 s m args below meth c T locs 3 50) (eT : T.heap = h) (N : Fr n0 locs) (Zs : n0 ≤ h.size) (q0 : IL Z h b1 (min 18 NN) n0 (vv x0 x1 x2)) (old0_ : n0 ≤ b1) (hNN : NN ≤ 18) (hnn : nn = Int32.ofNat NN) :
    Ends p e below s (QL n0) room_1.cells room_1.slots (T.setTop (mkF m 257 #[.val (.int x0), .val (.int x1), .val (.int x2), .val (.int x3), .val (.int nn), .val (.ref b1)] [])) := by
  show Ends p e below s _ _ _ (T.setTop (mkF m 257 #[.val (.int x0), .val (.int x1), .val (.int x2), .val (.int x3), .val (.int nn), .val (.ref b1)] []))
  refine Es.iload (q := 259) ?_ X hx (hb hby at_257) rfl rfl
  by_cases hc25 : (0 : Int32) < nn
  · refine Es.ifNo (q := 262) ?_ X hx (hb hby at_259) rfl (XT.i0_le_f hc25)
    refine Es.aload (q := 264) ?_ X hx (hb hby at_262) rfl rfl rfl
    refine Es.iload (q := 266) ?_ X hx (hb hby at_264) rfl rfl
    refine Es.iconst (q := 267) (z := (1 : Int32)) ?_ X hx (hb hby at_266) rfl rfl
    refine Es.isub (q := 268) ?_ X hx (hb hby at_267) rfl
    have hlast : nn - (1 : Int32) = Int32.ofNat (NN - 1) := by
      have q := hc25
      rw [hnn, show (0 : Int32) = Int32.ofNat 0 from rfl, own_lt (by omega) (by omega)] at q
      rw [hnn]; apply Int32.toInt_inj.mp
      have q1 := c_isub (Int32.ofNat NN) 1
      have q2 := rng32 (Int32.ofNat NN - 1)
      have e1 : (1 : Int32).toInt = 1 := rfl
      rw [own_ofNat (by omega)] at q1 ⊢
      omega
    obtain ⟨cq26, kq26, q26a, q26b, q26c⟩ := isOf hZ eT q0.1
    obtain ⟨v26, _, ⟨T26, L26, k26, n26⟩, -, X26, ⟨Lc26, hQ26, l26, y26, z26⟩, st26⟩ := X.virtualBack hx (y := (⟨"com/example/tarsier/tarsier/index/IntList", "get", "(I)I"⟩ : MethodName)) (z := (⟨"com/example/tarsier/tarsier/index/IntList", "get", "(I)I"⟩ : MethodName)) hown (mvT hZ (hw _ (List.mem_of_getElem? (i := 32) rfl))) (mvT hZ (hw _ (List.mem_of_getElem? (i := 33) rfl))) (notFace_of_selects (args := #[]) (mvT hZ (hw _ (List.mem_of_getElem? (i := 35) rfl)))) (mvT hZ (hw _ (List.mem_of_getElem? (i := 35) rfl))) (mvT hZ (hw _ (List.mem_of_getElem? (i := 34) rfl))) (by decide) (backOf (W := 0) (rm7 l Z a0 hw [] b1 (nn - (1 : Int32)) (min 18 NN) (NN - 1) (vv x0 x1 x2) h n0 Zs q0 (by have q := hc25; rw [hnn, show (0 : Int32) = Int32.ofNat 0 from rfl, own_lt (by omega) (by omega)] at q; omega) (by omega) hlast) hZ (hw _ (List.mem_of_getElem? (i := 36) rfl)) (hw _ (List.mem_of_getElem? (i := 3) rfl)) (by decide) (by decide)) q26a q26c (g := (mkF m 268 #[.val (.int x0), .val (.int x1), .val (.int x2), .val (.int x3), .val (.int nn), .val (.ref b1)] [(.int (nn - (1 : Int32))), (.ref b1)])) rfl (by rw [hml]; rfl) (Steps.refl _) (argsL := [(.int (nn - (1 : Int32)))]) (rest := []) (lenOf pd_7 rfl) rfl (by show 2 * 0 + _ ≤ _; exact Nat.le_of_eq rfl) (hb hby at_268) (fun _ _ => ⟨rfl, eT, (by decide : 3 + 0 ≤ _), (by decide : 50 + 0 ≤ _)⟩)
    dsimp only [Pt.U, Pt.locs, Pt.cells, Pt.slots] at X26 l26 y26 z26 st26 hQ26
    subst l26 y26 z26
    obtain ⟨rfl, N26q, e26⟩ := hQ26
    have N26 := Fr.app N N26q
    refine Ends.go st26 ?_
    show Ends p e below s _ _ _ (T26.setTop (mkF m 271 #[.val (.int x0), .val (.int x1), .val (.int x2), .val (.int x3), .val (.int nn), .val (.ref b1)] [(.int (vv x0 x1 x2 (NN - 1)))]))
    refine Es.iload (q := 273) ?_ X26 hx (hb hby at_271) rfl rfl
    refine Es.iconst (q := 274) (z := (1 : Int32)) ?_ X26 hx (hb hby at_273) rfl rfl
    refine Es.isub (q := 275) ?_ X26 hx (hb hby at_274) rfl
    refine Es.iloadN (q := 276) ?_ X26 hx (hb hby at_275) rfl rfl
    refine Es.iloadN (q := 277) ?_ X26 hx (hb hby at_276) rfl rfl
    refine Es.iloadN (q := 278) ?_ X26 hx (hb hby at_277) rfl rfl
    obtain ⟨v27, _, ⟨T27, L27, k27, n27⟩, -, X27, ⟨Lc27, hQ27, l27, y27, z27⟩, st27⟩ := Jvm.LawKit.callS X26 hx (y := (⟨"com/example/tarsier/tarsier/index/IntListAddPinLaw", "val", "(IIII)I"⟩ : MethodName)) hown (mvT hZ (hw _ (List.mem_of_getElem? (i := 17) rfl))) (mvT hZ (hw _ (List.mem_of_getElem? (i := 18) rfl))) (mvT hZ (hw _ (List.mem_of_getElem? (i := 15) rfl))) (mvT hZ (hw _ (List.mem_of_getElem? (i := 19) rfl))) (by decide) (backOf (W := 1) (rm4 l Z a0 hw [] (nn - (1 : Int32)) x0 x1 x2 h n0 Zs) hZ (hw _ (List.mem_of_getElem? (i := 19) rfl)) (hw _ (List.mem_of_getElem? (i := 15) rfl)) (by decide) (by decide)) (g := (mkF m 278 #[.val (.int x0), .val (.int x1), .val (.int x2), .val (.int x3), .val (.int nn), .val (.ref b1)] [(.int x2), (.int x1), (.int x0), (.int (nn - (1 : Int32))), (.int (vv x0 x1 x2 (NN - 1)))])) rfl (by rw [hml]; rfl) (argsL := [(.int (nn - (1 : Int32))), (.int x0), (.int x1), (.int x2)]) (rest := [(.int (vv x0 x1 x2 (NN - 1)))]) (lenOf pd_2 rfl) rfl (by show 2 * 0 + _ ≤ _; exact Nat.le_of_eq rfl) (hb hby at_278) (fun _ _ => ⟨rfl, e26, (by decide : 3 + 0 ≤ _), (by decide : 50 + 0 ≤ _)⟩)
    dsimp only [Pt.U, Pt.locs, Pt.cells, Pt.slots] at X27 l27 y27 z27 st27 hQ27
    subst l27 y27 z27
    obtain ⟨rfl, N27q, e27⟩ := hQ27
    have N27 := Fr.app N26 N27q
    refine Ends.by ?_ st27
    show Ends p e below s _ _ _ (T27.setTop (mkF m 281 #[.val (.int x0), .val (.int x1), .val (.int x2), .val (.int x3), .val (.int nn), .val (.ref b1)] [(.int (f4 (nn - (1 : Int32)) x0 x1 x2)), (.int (vv x0 x1 x2 (NN - 1)))]))
    refine Es.icmpYes (q := 286) ?_ X27 hx (hb hby at_281) (XT.ii_eq_t (by rw [hlast]; rfl : (vv x0 x1 x2 (NN - 1)) = (f4 (nn - (1 : Int32)) x0 x1 x2))) (by decide) (by decide)
    exact sg0_286 hx hZ hw hby hml hown hlk hret (x0) (x1) (x2) (x3) (NN) (nn) b1 X27 e27 N27 Zs q0 old0_ hNN hnn
  · refine Es.ifYes (q := 286) ?_ X hx (hb hby at_259) (XT.i0_le_t hc25) (by decide) (by decide)
    exact sg0_286 hx hZ hw hby hml hown hlk hret (x0) (x1) (x2) (x3) (NN) (nn) b1 X eT N Zs q0 old0_ hNN hnn

set_option maxRecDepth 65536 in
set_option maxHeartbeats 40000000 in
theorem sg0_228 {p : Program} {l : Launch} {e : Env} {s : State} {m : MethodId} {args : Array Value} {below : List Frame} {meth : Method} {c : Code} {Z : State} {a0 : Array Value} (hx : p.tables.exec = Jvm.exec) (hZ : Z.Warmed39 s.vm) (hw : ∀ d ∈ tables_1, d.before a0 Z = true) (hby : c.code = code) (hml : c.maxLocals = 6) (hown : s.vm.findClass "com/example/tarsier/tarsier/index/IntListAddPinLaw" = some m.cls) (hlk : meth.locks = false) (hret : meth.sig.returnType = some .boolean) {T : State} {locs : List Loc} {h : Heap} {n0 : Nat} (x0 : Int32) (x1 : Int32) (x2 : Int32) (x3 : Int32) (NN : Nat) (nn : Int32) (b1 : Addr) (X : Stand p l e room_1 s m args below meth c T locs 3 50) (eT : T.heap = h) (N : Fr n0 locs) (Zs : n0 ≤ h.size) (q0 : IL Z h b1 (min 18 NN) n0 (vv x0 x1 x2)) (old0_ : n0 ≤ b1) (hNN : NN ≤ 18) (hnn : nn = Int32.ofNat NN) :
    Ends p e below s (QL n0) room_1.cells room_1.slots (T.setTop (mkF m 228 #[.val (.int x0), .val (.int x1), .val (.int x2), .val (.int x3), .val (.int nn), .val (.ref b1)] [])) := by
  show Ends p e below s _ _ _ (T.setTop (mkF m 228 #[.val (.int x0), .val (.int x1), .val (.int x2), .val (.int x3), .val (.int nn), .val (.ref b1)] []))
  refine Es.aload (q := 230) ?_ X hx (hb hby at_228) rfl rfl rfl
  obtain ⟨cq22, kq22, q22a, q22b, q22c⟩ := isOf hZ eT q0.1
  obtain ⟨v22, _, ⟨T22, L22, k22, n22⟩, -, X22, ⟨Lc22, hQ22, l22, y22, z22⟩, st22⟩ := X.virtualBack hx (y := (⟨"com/example/tarsier/tarsier/index/IntList", "size", "()I"⟩ : MethodName)) (z := (⟨"com/example/tarsier/tarsier/index/IntList", "size", "()I"⟩ : MethodName)) hown (mvT hZ (hw _ (List.mem_of_getElem? (i := 27) rfl))) (mvT hZ (hw _ (List.mem_of_getElem? (i := 28) rfl))) (notFace_of_selects (args := #[]) (mvT hZ (hw _ (List.mem_of_getElem? (i := 30) rfl)))) (mvT hZ (hw _ (List.mem_of_getElem? (i := 30) rfl))) (mvT hZ (hw _ (List.mem_of_getElem? (i := 29) rfl))) (by decide) (backOf (W := 0) (rm6 l Z a0 hw [] b1 (min 18 NN) (vv x0 x1 x2) h n0 Zs q0) hZ (hw _ (List.mem_of_getElem? (i := 31) rfl)) (hw _ (List.mem_of_getElem? (i := 3) rfl)) (by decide) (by decide)) q22a q22c (g := (mkF m 230 #[.val (.int x0), .val (.int x1), .val (.int x2), .val (.int x3), .val (.int nn), .val (.ref b1)] [(.ref b1)])) rfl (by rw [hml]; rfl) (Steps.refl _) (argsL := []) (rest := []) (lenOf pd_6 rfl) rfl (by show 2 * 0 + _ ≤ _; exact Nat.le_of_eq rfl) (hb hby at_230) (fun _ _ => ⟨rfl, eT, (by decide : 3 + 0 ≤ _), (by decide : 50 + 0 ≤ _)⟩)
  dsimp only [Pt.U, Pt.locs, Pt.cells, Pt.slots] at X22 l22 y22 z22 st22 hQ22
  subst l22 y22 z22
  obtain ⟨rfl, N22q, e22⟩ := hQ22
  have N22 := Fr.app N N22q
  refine Ends.go st22 ?_
  show Ends p e below s _ _ _ (T22.setTop (mkF m 233 #[.val (.int x0), .val (.int x1), .val (.int x2), .val (.int x3), .val (.int nn), .val (.ref b1)] [(.int (Int32.ofNat (min 18 NN)))]))
  refine Es.iload (q := 235) ?_ X22 hx (hb hby at_233) rfl rfl
  refine Es.icmpYes (q := 240) ?_ X22 hx (hb hby at_235) (XT.ii_eq_t (by rw [hnn, show min 18 NN = NN by omega] : (Int32.ofNat (min 18 NN)) = nn)) (by decide) (by decide)
  refine Es.iload (q := 242) ?_ X22 hx (hb hby at_240) rfl rfl
  by_cases hc23 : (0 : Int32) < nn
  · refine Es.ifNo (q := 245) ?_ X22 hx (hb hby at_242) rfl (XT.i0_le_f hc23)
    refine Es.aload (q := 247) ?_ X22 hx (hb hby at_245) rfl rfl rfl
    refine Es.iconst (q := 248) (z := (0 : Int32)) ?_ X22 hx (hb hby at_247) rfl rfl
    obtain ⟨cq24, kq24, q24a, q24b, q24c⟩ := isOf hZ e22 q0.1
    obtain ⟨v24, _, ⟨T24, L24, k24, n24⟩, -, X24, ⟨Lc24, hQ24, l24, y24, z24⟩, st24⟩ := X22.virtualBack hx (y := (⟨"com/example/tarsier/tarsier/index/IntList", "get", "(I)I"⟩ : MethodName)) (z := (⟨"com/example/tarsier/tarsier/index/IntList", "get", "(I)I"⟩ : MethodName)) hown (mvT hZ (hw _ (List.mem_of_getElem? (i := 32) rfl))) (mvT hZ (hw _ (List.mem_of_getElem? (i := 33) rfl))) (notFace_of_selects (args := #[]) (mvT hZ (hw _ (List.mem_of_getElem? (i := 35) rfl)))) (mvT hZ (hw _ (List.mem_of_getElem? (i := 35) rfl))) (mvT hZ (hw _ (List.mem_of_getElem? (i := 34) rfl))) (by decide) (backOf (W := 0) (rm7 l Z a0 hw [] b1 (0 : Int32) (min 18 NN) 0 (vv x0 x1 x2) h n0 Zs q0 (by have q := hc23; rw [hnn, show (0 : Int32) = Int32.ofNat 0 from rfl, own_lt (by omega) (by omega)] at q; omega) (by omega) rfl) hZ (hw _ (List.mem_of_getElem? (i := 36) rfl)) (hw _ (List.mem_of_getElem? (i := 3) rfl)) (by decide) (by decide)) q24a q24c (g := (mkF m 248 #[.val (.int x0), .val (.int x1), .val (.int x2), .val (.int x3), .val (.int nn), .val (.ref b1)] [(.int (0 : Int32)), (.ref b1)])) rfl (by rw [hml]; rfl) (Steps.refl _) (argsL := [(.int (0 : Int32))]) (rest := []) (lenOf pd_7 rfl) rfl (by show 2 * 0 + _ ≤ _; exact Nat.le_of_eq rfl) (hb hby at_248) (fun _ _ => ⟨rfl, e22, (by decide : 3 + 0 ≤ _), (by decide : 50 + 0 ≤ _)⟩)
    dsimp only [Pt.U, Pt.locs, Pt.cells, Pt.slots] at X24 l24 y24 z24 st24 hQ24
    subst l24 y24 z24
    obtain ⟨rfl, N24q, e24⟩ := hQ24
    have N24 := Fr.app N22 N24q
    refine Ends.go st24 ?_
    show Ends p e below s _ _ _ (T24.setTop (mkF m 251 #[.val (.int x0), .val (.int x1), .val (.int x2), .val (.int x3), .val (.int nn), .val (.ref b1)] [(.int (vv x0 x1 x2 0))]))
    refine Es.iloadN (q := 252) ?_ X24 hx (hb hby at_251) rfl rfl
    refine Es.icmpYes (q := 257) ?_ X24 hx (hb hby at_252) (XT.ii_eq_t (rfl : (vv x0 x1 x2 0) = x0)) (by decide) (by decide)
    exact sg0_257 hx hZ hw hby hml hown hlk hret (x0) (x1) (x2) (x3) (NN) (nn) b1 X24 e24 N24 Zs q0 old0_ hNN hnn
  · refine Es.ifYes (q := 257) ?_ X22 hx (hb hby at_242) (XT.i0_le_t hc23) (by decide) (by decide)
    exact sg0_257 hx hZ hw hby hml hown hlk hret (x0) (x1) (x2) (x3) (NN) (nn) b1 X22 e22 N22 Zs q0 old0_ hNN hnn

set_option maxRecDepth 65536 in
set_option maxHeartbeats 40000000 in
theorem sg0_216 {p : Program} {l : Launch} {e : Env} {s : State} {m : MethodId} {args : Array Value} {below : List Frame} {meth : Method} {c : Code} {Z : State} {a0 : Array Value} (hx : p.tables.exec = Jvm.exec) (hZ : Z.Warmed39 s.vm) (hw : ∀ d ∈ tables_1, d.before a0 Z = true) (hby : c.code = code) (hml : c.maxLocals = 6) (hown : s.vm.findClass "com/example/tarsier/tarsier/index/IntListAddPinLaw" = some m.cls) (hlk : meth.locks = false) (hret : meth.sig.returnType = some .boolean) {T : State} {locs : List Loc} {h : Heap} {n0 : Nat} (x0 : Int32) (x1 : Int32) (x2 : Int32) (x3 : Int32) (NN : Nat) (nn : Int32) (b1 : Addr) (X : Stand p l e room_1 s m args below meth c T locs 3 50) (eT : T.heap = h) (N : Fr n0 locs) (Zs : n0 ≤ h.size) (q0 : IL Z h b1 (min 17 NN) n0 (vv x0 x1 x2)) (old0_ : n0 ≤ b1) (hNN : NN ≤ 18) (hnn : nn = Int32.ofNat NN) :
    Ends p e below s (QL n0) room_1.cells room_1.slots (T.setTop (mkF m 216 #[.val (.int x0), .val (.int x1), .val (.int x2), .val (.int x3), .val (.int nn), .val (.ref b1)] [])) := by
  show Ends p e below s _ _ _ (T.setTop (mkF m 216 #[.val (.int x0), .val (.int x1), .val (.int x2), .val (.int x3), .val (.int nn), .val (.ref b1)] []))
  refine Es.aload (q := 218) ?_ X hx (hb hby at_216) rfl rfl rfl
  refine Es.bipush (q := 220) (z := (17 : Int32)) ?_ X hx (hb hby at_218) rfl rfl
  refine Es.iload (q := 222) ?_ X hx (hb hby at_220) rfl rfl
  refine Es.iloadN (q := 223) ?_ X hx (hb hby at_222) rfl rfl
  refine Es.iloadN (q := 224) ?_ X hx (hb hby at_223) rfl rfl
  refine Es.iloadN (q := 225) ?_ X hx (hb hby at_224) rfl rfl
  obtain ⟨v21, _, ⟨T21, L21, k21, n21⟩, -, X21, ⟨Lc21, hQ21, l21, y21, z21⟩, st21⟩ := Jvm.LawKit.callS X hx (y := (⟨"com/example/tarsier/tarsier/index/IntListAddPinLaw", "addIf", "(Lcom/example/tarsier/tarsier/index/IntList;IIIII)V"⟩ : MethodName)) hown (mvT hZ (hw _ (List.mem_of_getElem? (i := 13) rfl))) (mvT hZ (hw _ (List.mem_of_getElem? (i := 14) rfl))) (mvT hZ (hw _ (List.mem_of_getElem? (i := 15) rfl))) (mvT hZ (hw _ (List.mem_of_getElem? (i := 16) rfl))) (by decide) (backOf (W := 0) (rmIa l Z a0 hw [] b1 (17 : Int32) nn x0 x1 x2 17 NN h n0 Zs q0 hNN (by omega) rfl hnn (by omega)) hZ (hw _ (List.mem_of_getElem? (i := 16) rfl)) (hw _ (List.mem_of_getElem? (i := 15) rfl)) (by decide) (by decide)) (g := (mkF m 225 #[.val (.int x0), .val (.int x1), .val (.int x2), .val (.int x3), .val (.int nn), .val (.ref b1)] [(.int x2), (.int x1), (.int x0), (.int nn), (.int (17 : Int32)), (.ref b1)])) rfl (by rw [hml]; rfl) (argsL := [(.ref b1), (.int (17 : Int32)), (.int nn), (.int x0), (.int x1), (.int x2)]) (rest := []) (lenOf pd_5 rfl) rfl (by show 2 * 0 + _ ≤ _; exact Nat.le_of_eq rfl) (hb hby at_225) (fun _ _ => ⟨rfl, eT, (by decide : 3 + 0 ≤ _), (by decide : 50 + 0 ≤ _)⟩)
  dsimp only [Pt.U, Pt.locs, Pt.cells, Pt.slots] at X21 l21 y21 z21 st21 hQ21
  subst l21 y21 z21
  obtain ⟨rfl, N21q, Zq21, HI21⟩ := hQ21
  have N21 := Fr.app N N21q
  refine Ends.by ?_ st21
  show Ends p e below s _ _ _ (T21.setTop (mkF m 228 #[.val (.int x0), .val (.int x1), .val (.int x2), .val (.int x3), .val (.int nn), .val (.ref b1)] []))
  exact sg0_228 hx hZ hw hby hml hown hlk hret (x0) (x1) (x2) (x3) (NN) (nn) b1 X21 rfl N21 Zq21 HI21 old0_ hNN hnn

set_option maxRecDepth 65536 in
set_option maxHeartbeats 40000000 in
theorem sg0_204 {p : Program} {l : Launch} {e : Env} {s : State} {m : MethodId} {args : Array Value} {below : List Frame} {meth : Method} {c : Code} {Z : State} {a0 : Array Value} (hx : p.tables.exec = Jvm.exec) (hZ : Z.Warmed39 s.vm) (hw : ∀ d ∈ tables_1, d.before a0 Z = true) (hby : c.code = code) (hml : c.maxLocals = 6) (hown : s.vm.findClass "com/example/tarsier/tarsier/index/IntListAddPinLaw" = some m.cls) (hlk : meth.locks = false) (hret : meth.sig.returnType = some .boolean) {T : State} {locs : List Loc} {h : Heap} {n0 : Nat} (x0 : Int32) (x1 : Int32) (x2 : Int32) (x3 : Int32) (NN : Nat) (nn : Int32) (b1 : Addr) (X : Stand p l e room_1 s m args below meth c T locs 2 18) (eT : T.heap = h) (N : Fr n0 locs) (Zs : n0 ≤ h.size) (q0 : IL Z h b1 (min 16 NN) n0 (vv x0 x1 x2)) (old0_ : n0 ≤ b1) (hNN : NN ≤ 18) (hnn : nn = Int32.ofNat NN) :
    Ends p e below s (QL n0) room_1.cells room_1.slots (T.setTop (mkF m 204 #[.val (.int x0), .val (.int x1), .val (.int x2), .val (.int x3), .val (.int nn), .val (.ref b1)] [])) := by
  show Ends p e below s _ _ _ (T.setTop (mkF m 204 #[.val (.int x0), .val (.int x1), .val (.int x2), .val (.int x3), .val (.int nn), .val (.ref b1)] []))
  refine Es.aload (q := 206) ?_ X hx (hb hby at_204) rfl rfl rfl
  refine Es.bipush (q := 208) (z := (16 : Int32)) ?_ X hx (hb hby at_206) rfl rfl
  refine Es.iload (q := 210) ?_ X hx (hb hby at_208) rfl rfl
  refine Es.iloadN (q := 211) ?_ X hx (hb hby at_210) rfl rfl
  refine Es.iloadN (q := 212) ?_ X hx (hb hby at_211) rfl rfl
  refine Es.iloadN (q := 213) ?_ X hx (hb hby at_212) rfl rfl
  obtain ⟨v20, _, ⟨T20, L20, k20, n20⟩, -, X20, ⟨Lc20, hQ20, l20, y20, z20⟩, st20⟩ := Jvm.LawKit.callS X hx (y := (⟨"com/example/tarsier/tarsier/index/IntListAddPinLaw", "addIf", "(Lcom/example/tarsier/tarsier/index/IntList;IIIII)V"⟩ : MethodName)) hown (mvT hZ (hw _ (List.mem_of_getElem? (i := 13) rfl))) (mvT hZ (hw _ (List.mem_of_getElem? (i := 14) rfl))) (mvT hZ (hw _ (List.mem_of_getElem? (i := 15) rfl))) (mvT hZ (hw _ (List.mem_of_getElem? (i := 16) rfl))) (by decide) (backOf (W := 0) (rmIg l Z a0 hw [] b1 (16 : Int32) nn x0 x1 x2 16 NN h n0 Zs q0 hNN (by omega) rfl hnn (by omega)) hZ (hw _ (List.mem_of_getElem? (i := 16) rfl)) (hw _ (List.mem_of_getElem? (i := 15) rfl)) (by decide) (by decide)) (g := (mkF m 213 #[.val (.int x0), .val (.int x1), .val (.int x2), .val (.int x3), .val (.int nn), .val (.ref b1)] [(.int x2), (.int x1), (.int x0), (.int nn), (.int (16 : Int32)), (.ref b1)])) rfl (by rw [hml]; rfl) (argsL := [(.ref b1), (.int (16 : Int32)), (.int nn), (.int x0), (.int x1), (.int x2)]) (rest := []) (lenOf pd_5 rfl) rfl (by show 2 * 0 + _ ≤ _; exact Nat.le_of_eq rfl) (hb hby at_213) (fun _ _ => ⟨rfl, eT, (by decide : 2 + 1 ≤ _), (by decide : 18 + 32 ≤ _)⟩)
  dsimp only [Pt.U, Pt.locs, Pt.cells, Pt.slots] at X20 l20 y20 z20 st20 hQ20
  subst l20 y20 z20
  obtain ⟨rfl, N20q, Zq20, HI20⟩ := hQ20
  have N20 := Fr.app N N20q
  refine Ends.by ?_ st20
  show Ends p e below s _ _ _ (T20.setTop (mkF m 216 #[.val (.int x0), .val (.int x1), .val (.int x2), .val (.int x3), .val (.int nn), .val (.ref b1)] []))
  exact sg0_216 hx hZ hw hby hml hown hlk hret (x0) (x1) (x2) (x3) (NN) (nn) b1 X20 rfl N20 Zq20 HI20 old0_ hNN hnn

set_option maxRecDepth 65536 in
set_option maxHeartbeats 40000000 in
theorem sg0_180 {p : Program} {l : Launch} {e : Env} {s : State} {m : MethodId} {args : Array Value} {below : List Frame} {meth : Method} {c : Code} {Z : State} {a0 : Array Value} (hx : p.tables.exec = Jvm.exec) (hZ : Z.Warmed39 s.vm) (hw : ∀ d ∈ tables_1, d.before a0 Z = true) (hby : c.code = code) (hml : c.maxLocals = 6) (hown : s.vm.findClass "com/example/tarsier/tarsier/index/IntListAddPinLaw" = some m.cls) (hlk : meth.locks = false) (hret : meth.sig.returnType = some .boolean) {T : State} {locs : List Loc} {h : Heap} {n0 : Nat} (x0 : Int32) (x1 : Int32) (x2 : Int32) (x3 : Int32) (NN : Nat) (nn : Int32) (b1 : Addr) (X : Stand p l e room_1 s m args below meth c T locs 2 18) (eT : T.heap = h) (N : Fr n0 locs) (Zs : n0 ≤ h.size) (q0 : IL Z h b1 (min 14 NN) n0 (vv x0 x1 x2)) (old0_ : n0 ≤ b1) (hNN : NN ≤ 18) (hnn : nn = Int32.ofNat NN) :
    Ends p e below s (QL n0) room_1.cells room_1.slots (T.setTop (mkF m 180 #[.val (.int x0), .val (.int x1), .val (.int x2), .val (.int x3), .val (.int nn), .val (.ref b1)] [])) := by
  show Ends p e below s _ _ _ (T.setTop (mkF m 180 #[.val (.int x0), .val (.int x1), .val (.int x2), .val (.int x3), .val (.int nn), .val (.ref b1)] []))
  refine Es.aload (q := 182) ?_ X hx (hb hby at_180) rfl rfl rfl
  refine Es.bipush (q := 184) (z := (14 : Int32)) ?_ X hx (hb hby at_182) rfl rfl
  refine Es.iload (q := 186) ?_ X hx (hb hby at_184) rfl rfl
  refine Es.iloadN (q := 187) ?_ X hx (hb hby at_186) rfl rfl
  refine Es.iloadN (q := 188) ?_ X hx (hb hby at_187) rfl rfl
  refine Es.iloadN (q := 189) ?_ X hx (hb hby at_188) rfl rfl
  obtain ⟨v18, _, ⟨T18, L18, k18, n18⟩, -, X18, ⟨Lc18, hQ18, l18, y18, z18⟩, st18⟩ := Jvm.LawKit.callS X hx (y := (⟨"com/example/tarsier/tarsier/index/IntListAddPinLaw", "addIf", "(Lcom/example/tarsier/tarsier/index/IntList;IIIII)V"⟩ : MethodName)) hown (mvT hZ (hw _ (List.mem_of_getElem? (i := 13) rfl))) (mvT hZ (hw _ (List.mem_of_getElem? (i := 14) rfl))) (mvT hZ (hw _ (List.mem_of_getElem? (i := 15) rfl))) (mvT hZ (hw _ (List.mem_of_getElem? (i := 16) rfl))) (by decide) (backOf (W := 0) (rmIa l Z a0 hw [] b1 (14 : Int32) nn x0 x1 x2 14 NN h n0 Zs q0 hNN (by omega) rfl hnn (by omega)) hZ (hw _ (List.mem_of_getElem? (i := 16) rfl)) (hw _ (List.mem_of_getElem? (i := 15) rfl)) (by decide) (by decide)) (g := (mkF m 189 #[.val (.int x0), .val (.int x1), .val (.int x2), .val (.int x3), .val (.int nn), .val (.ref b1)] [(.int x2), (.int x1), (.int x0), (.int nn), (.int (14 : Int32)), (.ref b1)])) rfl (by rw [hml]; rfl) (argsL := [(.ref b1), (.int (14 : Int32)), (.int nn), (.int x0), (.int x1), (.int x2)]) (rest := []) (lenOf pd_5 rfl) rfl (by show 2 * 0 + _ ≤ _; exact Nat.le_of_eq rfl) (hb hby at_189) (fun _ _ => ⟨rfl, eT, (by decide : 2 + 0 ≤ _), (by decide : 18 + 0 ≤ _)⟩)
  dsimp only [Pt.U, Pt.locs, Pt.cells, Pt.slots] at X18 l18 y18 z18 st18 hQ18
  subst l18 y18 z18
  obtain ⟨rfl, N18q, Zq18, HI18⟩ := hQ18
  have N18 := Fr.app N N18q
  refine Ends.by ?_ st18
  show Ends p e below s _ _ _ (T18.setTop (mkF m 192 #[.val (.int x0), .val (.int x1), .val (.int x2), .val (.int x3), .val (.int nn), .val (.ref b1)] []))
  refine Es.aload (q := 194) ?_ X18 hx (hb hby at_192) rfl rfl rfl
  refine Es.bipush (q := 196) (z := (15 : Int32)) ?_ X18 hx (hb hby at_194) rfl rfl
  refine Es.iload (q := 198) ?_ X18 hx (hb hby at_196) rfl rfl
  refine Es.iloadN (q := 199) ?_ X18 hx (hb hby at_198) rfl rfl
  refine Es.iloadN (q := 200) ?_ X18 hx (hb hby at_199) rfl rfl
  refine Es.iloadN (q := 201) ?_ X18 hx (hb hby at_200) rfl rfl
  obtain ⟨v19, _, ⟨T19, L19, k19, n19⟩, -, X19, ⟨Lc19, hQ19, l19, y19, z19⟩, st19⟩ := Jvm.LawKit.callS X18 hx (y := (⟨"com/example/tarsier/tarsier/index/IntListAddPinLaw", "addIf", "(Lcom/example/tarsier/tarsier/index/IntList;IIIII)V"⟩ : MethodName)) hown (mvT hZ (hw _ (List.mem_of_getElem? (i := 13) rfl))) (mvT hZ (hw _ (List.mem_of_getElem? (i := 14) rfl))) (mvT hZ (hw _ (List.mem_of_getElem? (i := 15) rfl))) (mvT hZ (hw _ (List.mem_of_getElem? (i := 16) rfl))) (by decide) (backOf (W := 0) (rmIa l Z a0 hw [] b1 (15 : Int32) nn x0 x1 x2 15 NN T18.heap n0 Zq18 HI18 hNN (by omega) rfl hnn (by omega)) hZ (hw _ (List.mem_of_getElem? (i := 16) rfl)) (hw _ (List.mem_of_getElem? (i := 15) rfl)) (by decide) (by decide)) (g := (mkF m 201 #[.val (.int x0), .val (.int x1), .val (.int x2), .val (.int x3), .val (.int nn), .val (.ref b1)] [(.int x2), (.int x1), (.int x0), (.int nn), (.int (15 : Int32)), (.ref b1)])) rfl (by rw [hml]; rfl) (argsL := [(.ref b1), (.int (15 : Int32)), (.int nn), (.int x0), (.int x1), (.int x2)]) (rest := []) (lenOf pd_5 rfl) rfl (by show 2 * 0 + _ ≤ _; exact Nat.le_of_eq rfl) (hb hby at_201) (fun _ _ => ⟨rfl, rfl, (by decide : 2 + 0 ≤ _), (by decide : 18 + 0 ≤ _)⟩)
  dsimp only [Pt.U, Pt.locs, Pt.cells, Pt.slots] at X19 l19 y19 z19 st19 hQ19
  subst l19 y19 z19
  obtain ⟨rfl, N19q, Zq19, HI19⟩ := hQ19
  have N19 := Fr.app N18 N19q
  refine Ends.by ?_ st19
  show Ends p e below s _ _ _ (T19.setTop (mkF m 204 #[.val (.int x0), .val (.int x1), .val (.int x2), .val (.int x3), .val (.int nn), .val (.ref b1)] []))
  exact sg0_204 hx hZ hw hby hml hown hlk hret (x0) (x1) (x2) (x3) (NN) (nn) b1 X19 rfl N19 Zq19 HI19 old0_ hNN hnn

set_option maxRecDepth 65536 in
set_option maxHeartbeats 40000000 in
theorem sg0_156 {p : Program} {l : Launch} {e : Env} {s : State} {m : MethodId} {args : Array Value} {below : List Frame} {meth : Method} {c : Code} {Z : State} {a0 : Array Value} (hx : p.tables.exec = Jvm.exec) (hZ : Z.Warmed39 s.vm) (hw : ∀ d ∈ tables_1, d.before a0 Z = true) (hby : c.code = code) (hml : c.maxLocals = 6) (hown : s.vm.findClass "com/example/tarsier/tarsier/index/IntListAddPinLaw" = some m.cls) (hlk : meth.locks = false) (hret : meth.sig.returnType = some .boolean) {T : State} {locs : List Loc} {h : Heap} {n0 : Nat} (x0 : Int32) (x1 : Int32) (x2 : Int32) (x3 : Int32) (NN : Nat) (nn : Int32) (b1 : Addr) (X : Stand p l e room_1 s m args below meth c T locs 2 18) (eT : T.heap = h) (N : Fr n0 locs) (Zs : n0 ≤ h.size) (q0 : IL Z h b1 (min 12 NN) n0 (vv x0 x1 x2)) (old0_ : n0 ≤ b1) (hNN : NN ≤ 18) (hnn : nn = Int32.ofNat NN) :
    Ends p e below s (QL n0) room_1.cells room_1.slots (T.setTop (mkF m 156 #[.val (.int x0), .val (.int x1), .val (.int x2), .val (.int x3), .val (.int nn), .val (.ref b1)] [])) := by
  show Ends p e below s _ _ _ (T.setTop (mkF m 156 #[.val (.int x0), .val (.int x1), .val (.int x2), .val (.int x3), .val (.int nn), .val (.ref b1)] []))
  refine Es.aload (q := 158) ?_ X hx (hb hby at_156) rfl rfl rfl
  refine Es.bipush (q := 160) (z := (12 : Int32)) ?_ X hx (hb hby at_158) rfl rfl
  refine Es.iload (q := 162) ?_ X hx (hb hby at_160) rfl rfl
  refine Es.iloadN (q := 163) ?_ X hx (hb hby at_162) rfl rfl
  refine Es.iloadN (q := 164) ?_ X hx (hb hby at_163) rfl rfl
  refine Es.iloadN (q := 165) ?_ X hx (hb hby at_164) rfl rfl
  obtain ⟨v16, _, ⟨T16, L16, k16, n16⟩, -, X16, ⟨Lc16, hQ16, l16, y16, z16⟩, st16⟩ := Jvm.LawKit.callS X hx (y := (⟨"com/example/tarsier/tarsier/index/IntListAddPinLaw", "addIf", "(Lcom/example/tarsier/tarsier/index/IntList;IIIII)V"⟩ : MethodName)) hown (mvT hZ (hw _ (List.mem_of_getElem? (i := 13) rfl))) (mvT hZ (hw _ (List.mem_of_getElem? (i := 14) rfl))) (mvT hZ (hw _ (List.mem_of_getElem? (i := 15) rfl))) (mvT hZ (hw _ (List.mem_of_getElem? (i := 16) rfl))) (by decide) (backOf (W := 0) (rmIa l Z a0 hw [] b1 (12 : Int32) nn x0 x1 x2 12 NN h n0 Zs q0 hNN (by omega) rfl hnn (by omega)) hZ (hw _ (List.mem_of_getElem? (i := 16) rfl)) (hw _ (List.mem_of_getElem? (i := 15) rfl)) (by decide) (by decide)) (g := (mkF m 165 #[.val (.int x0), .val (.int x1), .val (.int x2), .val (.int x3), .val (.int nn), .val (.ref b1)] [(.int x2), (.int x1), (.int x0), (.int nn), (.int (12 : Int32)), (.ref b1)])) rfl (by rw [hml]; rfl) (argsL := [(.ref b1), (.int (12 : Int32)), (.int nn), (.int x0), (.int x1), (.int x2)]) (rest := []) (lenOf pd_5 rfl) rfl (by show 2 * 0 + _ ≤ _; exact Nat.le_of_eq rfl) (hb hby at_165) (fun _ _ => ⟨rfl, eT, (by decide : 2 + 0 ≤ _), (by decide : 18 + 0 ≤ _)⟩)
  dsimp only [Pt.U, Pt.locs, Pt.cells, Pt.slots] at X16 l16 y16 z16 st16 hQ16
  subst l16 y16 z16
  obtain ⟨rfl, N16q, Zq16, HI16⟩ := hQ16
  have N16 := Fr.app N N16q
  refine Ends.by ?_ st16
  show Ends p e below s _ _ _ (T16.setTop (mkF m 168 #[.val (.int x0), .val (.int x1), .val (.int x2), .val (.int x3), .val (.int nn), .val (.ref b1)] []))
  refine Es.aload (q := 170) ?_ X16 hx (hb hby at_168) rfl rfl rfl
  refine Es.bipush (q := 172) (z := (13 : Int32)) ?_ X16 hx (hb hby at_170) rfl rfl
  refine Es.iload (q := 174) ?_ X16 hx (hb hby at_172) rfl rfl
  refine Es.iloadN (q := 175) ?_ X16 hx (hb hby at_174) rfl rfl
  refine Es.iloadN (q := 176) ?_ X16 hx (hb hby at_175) rfl rfl
  refine Es.iloadN (q := 177) ?_ X16 hx (hb hby at_176) rfl rfl
  obtain ⟨v17, _, ⟨T17, L17, k17, n17⟩, -, X17, ⟨Lc17, hQ17, l17, y17, z17⟩, st17⟩ := Jvm.LawKit.callS X16 hx (y := (⟨"com/example/tarsier/tarsier/index/IntListAddPinLaw", "addIf", "(Lcom/example/tarsier/tarsier/index/IntList;IIIII)V"⟩ : MethodName)) hown (mvT hZ (hw _ (List.mem_of_getElem? (i := 13) rfl))) (mvT hZ (hw _ (List.mem_of_getElem? (i := 14) rfl))) (mvT hZ (hw _ (List.mem_of_getElem? (i := 15) rfl))) (mvT hZ (hw _ (List.mem_of_getElem? (i := 16) rfl))) (by decide) (backOf (W := 0) (rmIa l Z a0 hw [] b1 (13 : Int32) nn x0 x1 x2 13 NN T16.heap n0 Zq16 HI16 hNN (by omega) rfl hnn (by omega)) hZ (hw _ (List.mem_of_getElem? (i := 16) rfl)) (hw _ (List.mem_of_getElem? (i := 15) rfl)) (by decide) (by decide)) (g := (mkF m 177 #[.val (.int x0), .val (.int x1), .val (.int x2), .val (.int x3), .val (.int nn), .val (.ref b1)] [(.int x2), (.int x1), (.int x0), (.int nn), (.int (13 : Int32)), (.ref b1)])) rfl (by rw [hml]; rfl) (argsL := [(.ref b1), (.int (13 : Int32)), (.int nn), (.int x0), (.int x1), (.int x2)]) (rest := []) (lenOf pd_5 rfl) rfl (by show 2 * 0 + _ ≤ _; exact Nat.le_of_eq rfl) (hb hby at_177) (fun _ _ => ⟨rfl, rfl, (by decide : 2 + 0 ≤ _), (by decide : 18 + 0 ≤ _)⟩)
  dsimp only [Pt.U, Pt.locs, Pt.cells, Pt.slots] at X17 l17 y17 z17 st17 hQ17
  subst l17 y17 z17
  obtain ⟨rfl, N17q, Zq17, HI17⟩ := hQ17
  have N17 := Fr.app N16 N17q
  refine Ends.by ?_ st17
  show Ends p e below s _ _ _ (T17.setTop (mkF m 180 #[.val (.int x0), .val (.int x1), .val (.int x2), .val (.int x3), .val (.int nn), .val (.ref b1)] []))
  exact sg0_180 hx hZ hw hby hml hown hlk hret (x0) (x1) (x2) (x3) (NN) (nn) b1 X17 rfl N17 Zq17 HI17 old0_ hNN hnn

set_option maxRecDepth 65536 in
set_option maxHeartbeats 40000000 in
theorem sg0_132 {p : Program} {l : Launch} {e : Env} {s : State} {m : MethodId} {args : Array Value} {below : List Frame} {meth : Method} {c : Code} {Z : State} {a0 : Array Value} (hx : p.tables.exec = Jvm.exec) (hZ : Z.Warmed39 s.vm) (hw : ∀ d ∈ tables_1, d.before a0 Z = true) (hby : c.code = code) (hml : c.maxLocals = 6) (hown : s.vm.findClass "com/example/tarsier/tarsier/index/IntListAddPinLaw" = some m.cls) (hlk : meth.locks = false) (hret : meth.sig.returnType = some .boolean) {T : State} {locs : List Loc} {h : Heap} {n0 : Nat} (x0 : Int32) (x1 : Int32) (x2 : Int32) (x3 : Int32) (NN : Nat) (nn : Int32) (b1 : Addr) (X : Stand p l e room_1 s m args below meth c T locs 2 18) (eT : T.heap = h) (N : Fr n0 locs) (Zs : n0 ≤ h.size) (q0 : IL Z h b1 (min 10 NN) n0 (vv x0 x1 x2)) (old0_ : n0 ≤ b1) (hNN : NN ≤ 18) (hnn : nn = Int32.ofNat NN) :
    Ends p e below s (QL n0) room_1.cells room_1.slots (T.setTop (mkF m 132 #[.val (.int x0), .val (.int x1), .val (.int x2), .val (.int x3), .val (.int nn), .val (.ref b1)] [])) := by
  show Ends p e below s _ _ _ (T.setTop (mkF m 132 #[.val (.int x0), .val (.int x1), .val (.int x2), .val (.int x3), .val (.int nn), .val (.ref b1)] []))
  refine Es.aload (q := 134) ?_ X hx (hb hby at_132) rfl rfl rfl
  refine Es.bipush (q := 136) (z := (10 : Int32)) ?_ X hx (hb hby at_134) rfl rfl
  refine Es.iload (q := 138) ?_ X hx (hb hby at_136) rfl rfl
  refine Es.iloadN (q := 139) ?_ X hx (hb hby at_138) rfl rfl
  refine Es.iloadN (q := 140) ?_ X hx (hb hby at_139) rfl rfl
  refine Es.iloadN (q := 141) ?_ X hx (hb hby at_140) rfl rfl
  obtain ⟨v14, _, ⟨T14, L14, k14, n14⟩, -, X14, ⟨Lc14, hQ14, l14, y14, z14⟩, st14⟩ := Jvm.LawKit.callS X hx (y := (⟨"com/example/tarsier/tarsier/index/IntListAddPinLaw", "addIf", "(Lcom/example/tarsier/tarsier/index/IntList;IIIII)V"⟩ : MethodName)) hown (mvT hZ (hw _ (List.mem_of_getElem? (i := 13) rfl))) (mvT hZ (hw _ (List.mem_of_getElem? (i := 14) rfl))) (mvT hZ (hw _ (List.mem_of_getElem? (i := 15) rfl))) (mvT hZ (hw _ (List.mem_of_getElem? (i := 16) rfl))) (by decide) (backOf (W := 0) (rmIa l Z a0 hw [] b1 (10 : Int32) nn x0 x1 x2 10 NN h n0 Zs q0 hNN (by omega) rfl hnn (by omega)) hZ (hw _ (List.mem_of_getElem? (i := 16) rfl)) (hw _ (List.mem_of_getElem? (i := 15) rfl)) (by decide) (by decide)) (g := (mkF m 141 #[.val (.int x0), .val (.int x1), .val (.int x2), .val (.int x3), .val (.int nn), .val (.ref b1)] [(.int x2), (.int x1), (.int x0), (.int nn), (.int (10 : Int32)), (.ref b1)])) rfl (by rw [hml]; rfl) (argsL := [(.ref b1), (.int (10 : Int32)), (.int nn), (.int x0), (.int x1), (.int x2)]) (rest := []) (lenOf pd_5 rfl) rfl (by show 2 * 0 + _ ≤ _; exact Nat.le_of_eq rfl) (hb hby at_141) (fun _ _ => ⟨rfl, eT, (by decide : 2 + 0 ≤ _), (by decide : 18 + 0 ≤ _)⟩)
  dsimp only [Pt.U, Pt.locs, Pt.cells, Pt.slots] at X14 l14 y14 z14 st14 hQ14
  subst l14 y14 z14
  obtain ⟨rfl, N14q, Zq14, HI14⟩ := hQ14
  have N14 := Fr.app N N14q
  refine Ends.by ?_ st14
  show Ends p e below s _ _ _ (T14.setTop (mkF m 144 #[.val (.int x0), .val (.int x1), .val (.int x2), .val (.int x3), .val (.int nn), .val (.ref b1)] []))
  refine Es.aload (q := 146) ?_ X14 hx (hb hby at_144) rfl rfl rfl
  refine Es.bipush (q := 148) (z := (11 : Int32)) ?_ X14 hx (hb hby at_146) rfl rfl
  refine Es.iload (q := 150) ?_ X14 hx (hb hby at_148) rfl rfl
  refine Es.iloadN (q := 151) ?_ X14 hx (hb hby at_150) rfl rfl
  refine Es.iloadN (q := 152) ?_ X14 hx (hb hby at_151) rfl rfl
  refine Es.iloadN (q := 153) ?_ X14 hx (hb hby at_152) rfl rfl
  obtain ⟨v15, _, ⟨T15, L15, k15, n15⟩, -, X15, ⟨Lc15, hQ15, l15, y15, z15⟩, st15⟩ := Jvm.LawKit.callS X14 hx (y := (⟨"com/example/tarsier/tarsier/index/IntListAddPinLaw", "addIf", "(Lcom/example/tarsier/tarsier/index/IntList;IIIII)V"⟩ : MethodName)) hown (mvT hZ (hw _ (List.mem_of_getElem? (i := 13) rfl))) (mvT hZ (hw _ (List.mem_of_getElem? (i := 14) rfl))) (mvT hZ (hw _ (List.mem_of_getElem? (i := 15) rfl))) (mvT hZ (hw _ (List.mem_of_getElem? (i := 16) rfl))) (by decide) (backOf (W := 0) (rmIa l Z a0 hw [] b1 (11 : Int32) nn x0 x1 x2 11 NN T14.heap n0 Zq14 HI14 hNN (by omega) rfl hnn (by omega)) hZ (hw _ (List.mem_of_getElem? (i := 16) rfl)) (hw _ (List.mem_of_getElem? (i := 15) rfl)) (by decide) (by decide)) (g := (mkF m 153 #[.val (.int x0), .val (.int x1), .val (.int x2), .val (.int x3), .val (.int nn), .val (.ref b1)] [(.int x2), (.int x1), (.int x0), (.int nn), (.int (11 : Int32)), (.ref b1)])) rfl (by rw [hml]; rfl) (argsL := [(.ref b1), (.int (11 : Int32)), (.int nn), (.int x0), (.int x1), (.int x2)]) (rest := []) (lenOf pd_5 rfl) rfl (by show 2 * 0 + _ ≤ _; exact Nat.le_of_eq rfl) (hb hby at_153) (fun _ _ => ⟨rfl, rfl, (by decide : 2 + 0 ≤ _), (by decide : 18 + 0 ≤ _)⟩)
  dsimp only [Pt.U, Pt.locs, Pt.cells, Pt.slots] at X15 l15 y15 z15 st15 hQ15
  subst l15 y15 z15
  obtain ⟨rfl, N15q, Zq15, HI15⟩ := hQ15
  have N15 := Fr.app N14 N15q
  refine Ends.by ?_ st15
  show Ends p e below s _ _ _ (T15.setTop (mkF m 156 #[.val (.int x0), .val (.int x1), .val (.int x2), .val (.int x3), .val (.int nn), .val (.ref b1)] []))
  exact sg0_156 hx hZ hw hby hml hown hlk hret (x0) (x1) (x2) (x3) (NN) (nn) b1 X15 rfl N15 Zq15 HI15 old0_ hNN hnn

set_option maxRecDepth 65536 in
set_option maxHeartbeats 40000000 in
theorem sg0_108 {p : Program} {l : Launch} {e : Env} {s : State} {m : MethodId} {args : Array Value} {below : List Frame} {meth : Method} {c : Code} {Z : State} {a0 : Array Value} (hx : p.tables.exec = Jvm.exec) (hZ : Z.Warmed39 s.vm) (hw : ∀ d ∈ tables_1, d.before a0 Z = true) (hby : c.code = code) (hml : c.maxLocals = 6) (hown : s.vm.findClass "com/example/tarsier/tarsier/index/IntListAddPinLaw" = some m.cls) (hlk : meth.locks = false) (hret : meth.sig.returnType = some .boolean) {T : State} {locs : List Loc} {h : Heap} {n0 : Nat} (x0 : Int32) (x1 : Int32) (x2 : Int32) (x3 : Int32) (NN : Nat) (nn : Int32) (b1 : Addr) (X : Stand p l e room_1 s m args below meth c T locs 2 18) (eT : T.heap = h) (N : Fr n0 locs) (Zs : n0 ≤ h.size) (q0 : IL Z h b1 (min 8 NN) n0 (vv x0 x1 x2)) (old0_ : n0 ≤ b1) (hNN : NN ≤ 18) (hnn : nn = Int32.ofNat NN) :
    Ends p e below s (QL n0) room_1.cells room_1.slots (T.setTop (mkF m 108 #[.val (.int x0), .val (.int x1), .val (.int x2), .val (.int x3), .val (.int nn), .val (.ref b1)] [])) := by
  show Ends p e below s _ _ _ (T.setTop (mkF m 108 #[.val (.int x0), .val (.int x1), .val (.int x2), .val (.int x3), .val (.int nn), .val (.ref b1)] []))
  refine Es.aload (q := 110) ?_ X hx (hb hby at_108) rfl rfl rfl
  refine Es.bipush (q := 112) (z := (8 : Int32)) ?_ X hx (hb hby at_110) rfl rfl
  refine Es.iload (q := 114) ?_ X hx (hb hby at_112) rfl rfl
  refine Es.iloadN (q := 115) ?_ X hx (hb hby at_114) rfl rfl
  refine Es.iloadN (q := 116) ?_ X hx (hb hby at_115) rfl rfl
  refine Es.iloadN (q := 117) ?_ X hx (hb hby at_116) rfl rfl
  obtain ⟨v12, _, ⟨T12, L12, k12, n12⟩, -, X12, ⟨Lc12, hQ12, l12, y12, z12⟩, st12⟩ := Jvm.LawKit.callS X hx (y := (⟨"com/example/tarsier/tarsier/index/IntListAddPinLaw", "addIf", "(Lcom/example/tarsier/tarsier/index/IntList;IIIII)V"⟩ : MethodName)) hown (mvT hZ (hw _ (List.mem_of_getElem? (i := 13) rfl))) (mvT hZ (hw _ (List.mem_of_getElem? (i := 14) rfl))) (mvT hZ (hw _ (List.mem_of_getElem? (i := 15) rfl))) (mvT hZ (hw _ (List.mem_of_getElem? (i := 16) rfl))) (by decide) (backOf (W := 0) (rmIa l Z a0 hw [] b1 (8 : Int32) nn x0 x1 x2 8 NN h n0 Zs q0 hNN (by omega) rfl hnn (by omega)) hZ (hw _ (List.mem_of_getElem? (i := 16) rfl)) (hw _ (List.mem_of_getElem? (i := 15) rfl)) (by decide) (by decide)) (g := (mkF m 117 #[.val (.int x0), .val (.int x1), .val (.int x2), .val (.int x3), .val (.int nn), .val (.ref b1)] [(.int x2), (.int x1), (.int x0), (.int nn), (.int (8 : Int32)), (.ref b1)])) rfl (by rw [hml]; rfl) (argsL := [(.ref b1), (.int (8 : Int32)), (.int nn), (.int x0), (.int x1), (.int x2)]) (rest := []) (lenOf pd_5 rfl) rfl (by show 2 * 0 + _ ≤ _; exact Nat.le_of_eq rfl) (hb hby at_117) (fun _ _ => ⟨rfl, eT, (by decide : 2 + 0 ≤ _), (by decide : 18 + 0 ≤ _)⟩)
  dsimp only [Pt.U, Pt.locs, Pt.cells, Pt.slots] at X12 l12 y12 z12 st12 hQ12
  subst l12 y12 z12
  obtain ⟨rfl, N12q, Zq12, HI12⟩ := hQ12
  have N12 := Fr.app N N12q
  refine Ends.by ?_ st12
  show Ends p e below s _ _ _ (T12.setTop (mkF m 120 #[.val (.int x0), .val (.int x1), .val (.int x2), .val (.int x3), .val (.int nn), .val (.ref b1)] []))
  refine Es.aload (q := 122) ?_ X12 hx (hb hby at_120) rfl rfl rfl
  refine Es.bipush (q := 124) (z := (9 : Int32)) ?_ X12 hx (hb hby at_122) rfl rfl
  refine Es.iload (q := 126) ?_ X12 hx (hb hby at_124) rfl rfl
  refine Es.iloadN (q := 127) ?_ X12 hx (hb hby at_126) rfl rfl
  refine Es.iloadN (q := 128) ?_ X12 hx (hb hby at_127) rfl rfl
  refine Es.iloadN (q := 129) ?_ X12 hx (hb hby at_128) rfl rfl
  obtain ⟨v13, _, ⟨T13, L13, k13, n13⟩, -, X13, ⟨Lc13, hQ13, l13, y13, z13⟩, st13⟩ := Jvm.LawKit.callS X12 hx (y := (⟨"com/example/tarsier/tarsier/index/IntListAddPinLaw", "addIf", "(Lcom/example/tarsier/tarsier/index/IntList;IIIII)V"⟩ : MethodName)) hown (mvT hZ (hw _ (List.mem_of_getElem? (i := 13) rfl))) (mvT hZ (hw _ (List.mem_of_getElem? (i := 14) rfl))) (mvT hZ (hw _ (List.mem_of_getElem? (i := 15) rfl))) (mvT hZ (hw _ (List.mem_of_getElem? (i := 16) rfl))) (by decide) (backOf (W := 0) (rmIa l Z a0 hw [] b1 (9 : Int32) nn x0 x1 x2 9 NN T12.heap n0 Zq12 HI12 hNN (by omega) rfl hnn (by omega)) hZ (hw _ (List.mem_of_getElem? (i := 16) rfl)) (hw _ (List.mem_of_getElem? (i := 15) rfl)) (by decide) (by decide)) (g := (mkF m 129 #[.val (.int x0), .val (.int x1), .val (.int x2), .val (.int x3), .val (.int nn), .val (.ref b1)] [(.int x2), (.int x1), (.int x0), (.int nn), (.int (9 : Int32)), (.ref b1)])) rfl (by rw [hml]; rfl) (argsL := [(.ref b1), (.int (9 : Int32)), (.int nn), (.int x0), (.int x1), (.int x2)]) (rest := []) (lenOf pd_5 rfl) rfl (by show 2 * 0 + _ ≤ _; exact Nat.le_of_eq rfl) (hb hby at_129) (fun _ _ => ⟨rfl, rfl, (by decide : 2 + 0 ≤ _), (by decide : 18 + 0 ≤ _)⟩)
  dsimp only [Pt.U, Pt.locs, Pt.cells, Pt.slots] at X13 l13 y13 z13 st13 hQ13
  subst l13 y13 z13
  obtain ⟨rfl, N13q, Zq13, HI13⟩ := hQ13
  have N13 := Fr.app N12 N13q
  refine Ends.by ?_ st13
  show Ends p e below s _ _ _ (T13.setTop (mkF m 132 #[.val (.int x0), .val (.int x1), .val (.int x2), .val (.int x3), .val (.int nn), .val (.ref b1)] []))
  exact sg0_132 hx hZ hw hby hml hown hlk hret (x0) (x1) (x2) (x3) (NN) (nn) b1 X13 rfl N13 Zq13 HI13 old0_ hNN hnn

set_option maxRecDepth 65536 in
set_option maxHeartbeats 40000000 in
theorem sg0_84 {p : Program} {l : Launch} {e : Env} {s : State} {m : MethodId} {args : Array Value} {below : List Frame} {meth : Method} {c : Code} {Z : State} {a0 : Array Value} (hx : p.tables.exec = Jvm.exec) (hZ : Z.Warmed39 s.vm) (hw : ∀ d ∈ tables_1, d.before a0 Z = true) (hby : c.code = code) (hml : c.maxLocals = 6) (hown : s.vm.findClass "com/example/tarsier/tarsier/index/IntListAddPinLaw" = some m.cls) (hlk : meth.locks = false) (hret : meth.sig.returnType = some .boolean) {T : State} {locs : List Loc} {h : Heap} {n0 : Nat} (x0 : Int32) (x1 : Int32) (x2 : Int32) (x3 : Int32) (NN : Nat) (nn : Int32) (b1 : Addr) (X : Stand p l e room_1 s m args below meth c T locs 2 18) (eT : T.heap = h) (N : Fr n0 locs) (Zs : n0 ≤ h.size) (q0 : IL Z h b1 (min 6 NN) n0 (vv x0 x1 x2)) (old0_ : n0 ≤ b1) (hNN : NN ≤ 18) (hnn : nn = Int32.ofNat NN) :
    Ends p e below s (QL n0) room_1.cells room_1.slots (T.setTop (mkF m 84 #[.val (.int x0), .val (.int x1), .val (.int x2), .val (.int x3), .val (.int nn), .val (.ref b1)] [])) := by
  show Ends p e below s _ _ _ (T.setTop (mkF m 84 #[.val (.int x0), .val (.int x1), .val (.int x2), .val (.int x3), .val (.int nn), .val (.ref b1)] []))
  refine Es.aload (q := 86) ?_ X hx (hb hby at_84) rfl rfl rfl
  refine Es.bipush (q := 88) (z := (6 : Int32)) ?_ X hx (hb hby at_86) rfl rfl
  refine Es.iload (q := 90) ?_ X hx (hb hby at_88) rfl rfl
  refine Es.iloadN (q := 91) ?_ X hx (hb hby at_90) rfl rfl
  refine Es.iloadN (q := 92) ?_ X hx (hb hby at_91) rfl rfl
  refine Es.iloadN (q := 93) ?_ X hx (hb hby at_92) rfl rfl
  obtain ⟨v10, _, ⟨T10, L10, k10, n10⟩, -, X10, ⟨Lc10, hQ10, l10, y10, z10⟩, st10⟩ := Jvm.LawKit.callS X hx (y := (⟨"com/example/tarsier/tarsier/index/IntListAddPinLaw", "addIf", "(Lcom/example/tarsier/tarsier/index/IntList;IIIII)V"⟩ : MethodName)) hown (mvT hZ (hw _ (List.mem_of_getElem? (i := 13) rfl))) (mvT hZ (hw _ (List.mem_of_getElem? (i := 14) rfl))) (mvT hZ (hw _ (List.mem_of_getElem? (i := 15) rfl))) (mvT hZ (hw _ (List.mem_of_getElem? (i := 16) rfl))) (by decide) (backOf (W := 0) (rmIa l Z a0 hw [] b1 (6 : Int32) nn x0 x1 x2 6 NN h n0 Zs q0 hNN (by omega) rfl hnn (by omega)) hZ (hw _ (List.mem_of_getElem? (i := 16) rfl)) (hw _ (List.mem_of_getElem? (i := 15) rfl)) (by decide) (by decide)) (g := (mkF m 93 #[.val (.int x0), .val (.int x1), .val (.int x2), .val (.int x3), .val (.int nn), .val (.ref b1)] [(.int x2), (.int x1), (.int x0), (.int nn), (.int (6 : Int32)), (.ref b1)])) rfl (by rw [hml]; rfl) (argsL := [(.ref b1), (.int (6 : Int32)), (.int nn), (.int x0), (.int x1), (.int x2)]) (rest := []) (lenOf pd_5 rfl) rfl (by show 2 * 0 + _ ≤ _; exact Nat.le_of_eq rfl) (hb hby at_93) (fun _ _ => ⟨rfl, eT, (by decide : 2 + 0 ≤ _), (by decide : 18 + 0 ≤ _)⟩)
  dsimp only [Pt.U, Pt.locs, Pt.cells, Pt.slots] at X10 l10 y10 z10 st10 hQ10
  subst l10 y10 z10
  obtain ⟨rfl, N10q, Zq10, HI10⟩ := hQ10
  have N10 := Fr.app N N10q
  refine Ends.by ?_ st10
  show Ends p e below s _ _ _ (T10.setTop (mkF m 96 #[.val (.int x0), .val (.int x1), .val (.int x2), .val (.int x3), .val (.int nn), .val (.ref b1)] []))
  refine Es.aload (q := 98) ?_ X10 hx (hb hby at_96) rfl rfl rfl
  refine Es.bipush (q := 100) (z := (7 : Int32)) ?_ X10 hx (hb hby at_98) rfl rfl
  refine Es.iload (q := 102) ?_ X10 hx (hb hby at_100) rfl rfl
  refine Es.iloadN (q := 103) ?_ X10 hx (hb hby at_102) rfl rfl
  refine Es.iloadN (q := 104) ?_ X10 hx (hb hby at_103) rfl rfl
  refine Es.iloadN (q := 105) ?_ X10 hx (hb hby at_104) rfl rfl
  obtain ⟨v11, _, ⟨T11, L11, k11, n11⟩, -, X11, ⟨Lc11, hQ11, l11, y11, z11⟩, st11⟩ := Jvm.LawKit.callS X10 hx (y := (⟨"com/example/tarsier/tarsier/index/IntListAddPinLaw", "addIf", "(Lcom/example/tarsier/tarsier/index/IntList;IIIII)V"⟩ : MethodName)) hown (mvT hZ (hw _ (List.mem_of_getElem? (i := 13) rfl))) (mvT hZ (hw _ (List.mem_of_getElem? (i := 14) rfl))) (mvT hZ (hw _ (List.mem_of_getElem? (i := 15) rfl))) (mvT hZ (hw _ (List.mem_of_getElem? (i := 16) rfl))) (by decide) (backOf (W := 0) (rmIa l Z a0 hw [] b1 (7 : Int32) nn x0 x1 x2 7 NN T10.heap n0 Zq10 HI10 hNN (by omega) rfl hnn (by omega)) hZ (hw _ (List.mem_of_getElem? (i := 16) rfl)) (hw _ (List.mem_of_getElem? (i := 15) rfl)) (by decide) (by decide)) (g := (mkF m 105 #[.val (.int x0), .val (.int x1), .val (.int x2), .val (.int x3), .val (.int nn), .val (.ref b1)] [(.int x2), (.int x1), (.int x0), (.int nn), (.int (7 : Int32)), (.ref b1)])) rfl (by rw [hml]; rfl) (argsL := [(.ref b1), (.int (7 : Int32)), (.int nn), (.int x0), (.int x1), (.int x2)]) (rest := []) (lenOf pd_5 rfl) rfl (by show 2 * 0 + _ ≤ _; exact Nat.le_of_eq rfl) (hb hby at_105) (fun _ _ => ⟨rfl, rfl, (by decide : 2 + 0 ≤ _), (by decide : 18 + 0 ≤ _)⟩)
  dsimp only [Pt.U, Pt.locs, Pt.cells, Pt.slots] at X11 l11 y11 z11 st11 hQ11
  subst l11 y11 z11
  obtain ⟨rfl, N11q, Zq11, HI11⟩ := hQ11
  have N11 := Fr.app N10 N11q
  refine Ends.by ?_ st11
  show Ends p e below s _ _ _ (T11.setTop (mkF m 108 #[.val (.int x0), .val (.int x1), .val (.int x2), .val (.int x3), .val (.int nn), .val (.ref b1)] []))
  exact sg0_108 hx hZ hw hby hml hown hlk hret (x0) (x1) (x2) (x3) (NN) (nn) b1 X11 rfl N11 Zq11 HI11 old0_ hNN hnn

set_option maxRecDepth 65536 in
set_option maxHeartbeats 40000000 in
theorem sg0_62 {p : Program} {l : Launch} {e : Env} {s : State} {m : MethodId} {args : Array Value} {below : List Frame} {meth : Method} {c : Code} {Z : State} {a0 : Array Value} (hx : p.tables.exec = Jvm.exec) (hZ : Z.Warmed39 s.vm) (hw : ∀ d ∈ tables_1, d.before a0 Z = true) (hby : c.code = code) (hml : c.maxLocals = 6) (hown : s.vm.findClass "com/example/tarsier/tarsier/index/IntListAddPinLaw" = some m.cls) (hlk : meth.locks = false) (hret : meth.sig.returnType = some .boolean) {T : State} {locs : List Loc} {h : Heap} {n0 : Nat} (x0 : Int32) (x1 : Int32) (x2 : Int32) (x3 : Int32) (NN : Nat) (nn : Int32) (b1 : Addr) (X : Stand p l e room_1 s m args below meth c T locs 2 18) (eT : T.heap = h) (N : Fr n0 locs) (Zs : n0 ≤ h.size) (q0 : IL Z h b1 (min 4 NN) n0 (vv x0 x1 x2)) (old0_ : n0 ≤ b1) (hNN : NN ≤ 18) (hnn : nn = Int32.ofNat NN) :
    Ends p e below s (QL n0) room_1.cells room_1.slots (T.setTop (mkF m 62 #[.val (.int x0), .val (.int x1), .val (.int x2), .val (.int x3), .val (.int nn), .val (.ref b1)] [])) := by
  show Ends p e below s _ _ _ (T.setTop (mkF m 62 #[.val (.int x0), .val (.int x1), .val (.int x2), .val (.int x3), .val (.int nn), .val (.ref b1)] []))
  refine Es.aload (q := 64) ?_ X hx (hb hby at_62) rfl rfl rfl
  refine Es.iconst (q := 65) (z := (4 : Int32)) ?_ X hx (hb hby at_64) rfl rfl
  refine Es.iload (q := 67) ?_ X hx (hb hby at_65) rfl rfl
  refine Es.iloadN (q := 68) ?_ X hx (hb hby at_67) rfl rfl
  refine Es.iloadN (q := 69) ?_ X hx (hb hby at_68) rfl rfl
  refine Es.iloadN (q := 70) ?_ X hx (hb hby at_69) rfl rfl
  obtain ⟨v8, _, ⟨T8, L8, k8, n8⟩, -, X8, ⟨Lc8, hQ8, l8, y8, z8⟩, st8⟩ := Jvm.LawKit.callS X hx (y := (⟨"com/example/tarsier/tarsier/index/IntListAddPinLaw", "addIf", "(Lcom/example/tarsier/tarsier/index/IntList;IIIII)V"⟩ : MethodName)) hown (mvT hZ (hw _ (List.mem_of_getElem? (i := 13) rfl))) (mvT hZ (hw _ (List.mem_of_getElem? (i := 14) rfl))) (mvT hZ (hw _ (List.mem_of_getElem? (i := 15) rfl))) (mvT hZ (hw _ (List.mem_of_getElem? (i := 16) rfl))) (by decide) (backOf (W := 0) (rmIa l Z a0 hw [] b1 (4 : Int32) nn x0 x1 x2 4 NN h n0 Zs q0 hNN (by omega) rfl hnn (by omega)) hZ (hw _ (List.mem_of_getElem? (i := 16) rfl)) (hw _ (List.mem_of_getElem? (i := 15) rfl)) (by decide) (by decide)) (g := (mkF m 70 #[.val (.int x0), .val (.int x1), .val (.int x2), .val (.int x3), .val (.int nn), .val (.ref b1)] [(.int x2), (.int x1), (.int x0), (.int nn), (.int (4 : Int32)), (.ref b1)])) rfl (by rw [hml]; rfl) (argsL := [(.ref b1), (.int (4 : Int32)), (.int nn), (.int x0), (.int x1), (.int x2)]) (rest := []) (lenOf pd_5 rfl) rfl (by show 2 * 0 + _ ≤ _; exact Nat.le_of_eq rfl) (hb hby at_70) (fun _ _ => ⟨rfl, eT, (by decide : 2 + 0 ≤ _), (by decide : 18 + 0 ≤ _)⟩)
  dsimp only [Pt.U, Pt.locs, Pt.cells, Pt.slots] at X8 l8 y8 z8 st8 hQ8
  subst l8 y8 z8
  obtain ⟨rfl, N8q, Zq8, HI8⟩ := hQ8
  have N8 := Fr.app N N8q
  refine Ends.by ?_ st8
  show Ends p e below s _ _ _ (T8.setTop (mkF m 73 #[.val (.int x0), .val (.int x1), .val (.int x2), .val (.int x3), .val (.int nn), .val (.ref b1)] []))
  refine Es.aload (q := 75) ?_ X8 hx (hb hby at_73) rfl rfl rfl
  refine Es.iconst (q := 76) (z := (5 : Int32)) ?_ X8 hx (hb hby at_75) rfl rfl
  refine Es.iload (q := 78) ?_ X8 hx (hb hby at_76) rfl rfl
  refine Es.iloadN (q := 79) ?_ X8 hx (hb hby at_78) rfl rfl
  refine Es.iloadN (q := 80) ?_ X8 hx (hb hby at_79) rfl rfl
  refine Es.iloadN (q := 81) ?_ X8 hx (hb hby at_80) rfl rfl
  obtain ⟨v9, _, ⟨T9, L9, k9, n9⟩, -, X9, ⟨Lc9, hQ9, l9, y9, z9⟩, st9⟩ := Jvm.LawKit.callS X8 hx (y := (⟨"com/example/tarsier/tarsier/index/IntListAddPinLaw", "addIf", "(Lcom/example/tarsier/tarsier/index/IntList;IIIII)V"⟩ : MethodName)) hown (mvT hZ (hw _ (List.mem_of_getElem? (i := 13) rfl))) (mvT hZ (hw _ (List.mem_of_getElem? (i := 14) rfl))) (mvT hZ (hw _ (List.mem_of_getElem? (i := 15) rfl))) (mvT hZ (hw _ (List.mem_of_getElem? (i := 16) rfl))) (by decide) (backOf (W := 0) (rmIa l Z a0 hw [] b1 (5 : Int32) nn x0 x1 x2 5 NN T8.heap n0 Zq8 HI8 hNN (by omega) rfl hnn (by omega)) hZ (hw _ (List.mem_of_getElem? (i := 16) rfl)) (hw _ (List.mem_of_getElem? (i := 15) rfl)) (by decide) (by decide)) (g := (mkF m 81 #[.val (.int x0), .val (.int x1), .val (.int x2), .val (.int x3), .val (.int nn), .val (.ref b1)] [(.int x2), (.int x1), (.int x0), (.int nn), (.int (5 : Int32)), (.ref b1)])) rfl (by rw [hml]; rfl) (argsL := [(.ref b1), (.int (5 : Int32)), (.int nn), (.int x0), (.int x1), (.int x2)]) (rest := []) (lenOf pd_5 rfl) rfl (by show 2 * 0 + _ ≤ _; exact Nat.le_of_eq rfl) (hb hby at_81) (fun _ _ => ⟨rfl, rfl, (by decide : 2 + 0 ≤ _), (by decide : 18 + 0 ≤ _)⟩)
  dsimp only [Pt.U, Pt.locs, Pt.cells, Pt.slots] at X9 l9 y9 z9 st9 hQ9
  subst l9 y9 z9
  obtain ⟨rfl, N9q, Zq9, HI9⟩ := hQ9
  have N9 := Fr.app N8 N9q
  refine Ends.by ?_ st9
  show Ends p e below s _ _ _ (T9.setTop (mkF m 84 #[.val (.int x0), .val (.int x1), .val (.int x2), .val (.int x3), .val (.int nn), .val (.ref b1)] []))
  exact sg0_84 hx hZ hw hby hml hown hlk hret (x0) (x1) (x2) (x3) (NN) (nn) b1 X9 rfl N9 Zq9 HI9 old0_ hNN hnn

set_option maxRecDepth 65536 in
set_option maxHeartbeats 40000000 in
theorem sg0_40 {p : Program} {l : Launch} {e : Env} {s : State} {m : MethodId} {args : Array Value} {below : List Frame} {meth : Method} {c : Code} {Z : State} {a0 : Array Value} (hx : p.tables.exec = Jvm.exec) (hZ : Z.Warmed39 s.vm) (hw : ∀ d ∈ tables_1, d.before a0 Z = true) (hby : c.code = code) (hml : c.maxLocals = 6) (hown : s.vm.findClass "com/example/tarsier/tarsier/index/IntListAddPinLaw" = some m.cls) (hlk : meth.locks = false) (hret : meth.sig.returnType = some .boolean) {T : State} {locs : List Loc} {h : Heap} {n0 : Nat} (x0 : Int32) (x1 : Int32) (x2 : Int32) (x3 : Int32) (NN : Nat) (nn : Int32) (b1 : Addr) (X : Stand p l e room_1 s m args below meth c T locs 2 18) (eT : T.heap = h) (N : Fr n0 locs) (Zs : n0 ≤ h.size) (q0 : IL Z h b1 (min 2 NN) n0 (vv x0 x1 x2)) (old0_ : n0 ≤ b1) (hNN : NN ≤ 18) (hnn : nn = Int32.ofNat NN) :
    Ends p e below s (QL n0) room_1.cells room_1.slots (T.setTop (mkF m 40 #[.val (.int x0), .val (.int x1), .val (.int x2), .val (.int x3), .val (.int nn), .val (.ref b1)] [])) := by
  show Ends p e below s _ _ _ (T.setTop (mkF m 40 #[.val (.int x0), .val (.int x1), .val (.int x2), .val (.int x3), .val (.int nn), .val (.ref b1)] []))
  refine Es.aload (q := 42) ?_ X hx (hb hby at_40) rfl rfl rfl
  refine Es.iconst (q := 43) (z := (2 : Int32)) ?_ X hx (hb hby at_42) rfl rfl
  refine Es.iload (q := 45) ?_ X hx (hb hby at_43) rfl rfl
  refine Es.iloadN (q := 46) ?_ X hx (hb hby at_45) rfl rfl
  refine Es.iloadN (q := 47) ?_ X hx (hb hby at_46) rfl rfl
  refine Es.iloadN (q := 48) ?_ X hx (hb hby at_47) rfl rfl
  obtain ⟨v6, _, ⟨T6, L6, k6, n6⟩, -, X6, ⟨Lc6, hQ6, l6, y6, z6⟩, st6⟩ := Jvm.LawKit.callS X hx (y := (⟨"com/example/tarsier/tarsier/index/IntListAddPinLaw", "addIf", "(Lcom/example/tarsier/tarsier/index/IntList;IIIII)V"⟩ : MethodName)) hown (mvT hZ (hw _ (List.mem_of_getElem? (i := 13) rfl))) (mvT hZ (hw _ (List.mem_of_getElem? (i := 14) rfl))) (mvT hZ (hw _ (List.mem_of_getElem? (i := 15) rfl))) (mvT hZ (hw _ (List.mem_of_getElem? (i := 16) rfl))) (by decide) (backOf (W := 0) (rmIa l Z a0 hw [] b1 (2 : Int32) nn x0 x1 x2 2 NN h n0 Zs q0 hNN (by omega) rfl hnn (by omega)) hZ (hw _ (List.mem_of_getElem? (i := 16) rfl)) (hw _ (List.mem_of_getElem? (i := 15) rfl)) (by decide) (by decide)) (g := (mkF m 48 #[.val (.int x0), .val (.int x1), .val (.int x2), .val (.int x3), .val (.int nn), .val (.ref b1)] [(.int x2), (.int x1), (.int x0), (.int nn), (.int (2 : Int32)), (.ref b1)])) rfl (by rw [hml]; rfl) (argsL := [(.ref b1), (.int (2 : Int32)), (.int nn), (.int x0), (.int x1), (.int x2)]) (rest := []) (lenOf pd_5 rfl) rfl (by show 2 * 0 + _ ≤ _; exact Nat.le_of_eq rfl) (hb hby at_48) (fun _ _ => ⟨rfl, eT, (by decide : 2 + 0 ≤ _), (by decide : 18 + 0 ≤ _)⟩)
  dsimp only [Pt.U, Pt.locs, Pt.cells, Pt.slots] at X6 l6 y6 z6 st6 hQ6
  subst l6 y6 z6
  obtain ⟨rfl, N6q, Zq6, HI6⟩ := hQ6
  have N6 := Fr.app N N6q
  refine Ends.by ?_ st6
  show Ends p e below s _ _ _ (T6.setTop (mkF m 51 #[.val (.int x0), .val (.int x1), .val (.int x2), .val (.int x3), .val (.int nn), .val (.ref b1)] []))
  refine Es.aload (q := 53) ?_ X6 hx (hb hby at_51) rfl rfl rfl
  refine Es.iconst (q := 54) (z := (3 : Int32)) ?_ X6 hx (hb hby at_53) rfl rfl
  refine Es.iload (q := 56) ?_ X6 hx (hb hby at_54) rfl rfl
  refine Es.iloadN (q := 57) ?_ X6 hx (hb hby at_56) rfl rfl
  refine Es.iloadN (q := 58) ?_ X6 hx (hb hby at_57) rfl rfl
  refine Es.iloadN (q := 59) ?_ X6 hx (hb hby at_58) rfl rfl
  obtain ⟨v7, _, ⟨T7, L7, k7, n7⟩, -, X7, ⟨Lc7, hQ7, l7, y7, z7⟩, st7⟩ := Jvm.LawKit.callS X6 hx (y := (⟨"com/example/tarsier/tarsier/index/IntListAddPinLaw", "addIf", "(Lcom/example/tarsier/tarsier/index/IntList;IIIII)V"⟩ : MethodName)) hown (mvT hZ (hw _ (List.mem_of_getElem? (i := 13) rfl))) (mvT hZ (hw _ (List.mem_of_getElem? (i := 14) rfl))) (mvT hZ (hw _ (List.mem_of_getElem? (i := 15) rfl))) (mvT hZ (hw _ (List.mem_of_getElem? (i := 16) rfl))) (by decide) (backOf (W := 0) (rmIa l Z a0 hw [] b1 (3 : Int32) nn x0 x1 x2 3 NN T6.heap n0 Zq6 HI6 hNN (by omega) rfl hnn (by omega)) hZ (hw _ (List.mem_of_getElem? (i := 16) rfl)) (hw _ (List.mem_of_getElem? (i := 15) rfl)) (by decide) (by decide)) (g := (mkF m 59 #[.val (.int x0), .val (.int x1), .val (.int x2), .val (.int x3), .val (.int nn), .val (.ref b1)] [(.int x2), (.int x1), (.int x0), (.int nn), (.int (3 : Int32)), (.ref b1)])) rfl (by rw [hml]; rfl) (argsL := [(.ref b1), (.int (3 : Int32)), (.int nn), (.int x0), (.int x1), (.int x2)]) (rest := []) (lenOf pd_5 rfl) rfl (by show 2 * 0 + _ ≤ _; exact Nat.le_of_eq rfl) (hb hby at_59) (fun _ _ => ⟨rfl, rfl, (by decide : 2 + 0 ≤ _), (by decide : 18 + 0 ≤ _)⟩)
  dsimp only [Pt.U, Pt.locs, Pt.cells, Pt.slots] at X7 l7 y7 z7 st7 hQ7
  subst l7 y7 z7
  obtain ⟨rfl, N7q, Zq7, HI7⟩ := hQ7
  have N7 := Fr.app N6 N7q
  refine Ends.by ?_ st7
  show Ends p e below s _ _ _ (T7.setTop (mkF m 62 #[.val (.int x0), .val (.int x1), .val (.int x2), .val (.int x3), .val (.int nn), .val (.ref b1)] []))
  exact sg0_62 hx hZ hw hby hml hown hlk hret (x0) (x1) (x2) (x3) (NN) (nn) b1 X7 rfl N7 Zq7 HI7 old0_ hNN hnn

theorem ef_rm0 (m : MethodId) (x0 : Int32) (x1 : Int32) (x2 : Int32) (x3 : Int32) : entryFrame m #[(.int x0), (.int x1), (.int x2), (.int x3)] maxLocals = mkF m 0 #[.val (.int x0), .val (.int x1), .val (.int x2), .val (.int x3), .unset, .unset] [] := by first | (simp [entryFrame, mkF, argsToLocals, Value.category, maxLocals]; done) | rfl
set_option maxRecDepth 65536 in
set_option maxHeartbeats 40000000 in
theorem rm0 (l : Launch) (Z : State) (a0 : Array Value) (hw : ∀ d ∈ tables_1, d.before a0 Z = true) (ws : List Jvm.Cond) (x0 : Int32) (x1 : Int32) (x2 : Int32) (x3 : Int32) (h0 : Heap) (n0 : Nat) (Z0 : n0 ≤ h0.size) :
    MetFree l x (head1 (Jvm.Cond.code x code maxLocals ret :: ws) room_1) (fun a U => a = #[(.int x0), (.int x1), (.int x2), (.int x3)] ∧ Z.Warmed39 U.vm ∧ U.heap = h0) (fun _ _ _ _ _ => True) (fun _ U o U' => ∃ v L, o = .returned v ∧ (QL n0) v U'.heap L ∧ FrameEnd U o U' L room_1.cells room_1.slots) := by
  refine MetFree.of_bodySF (plainFor_of_name pn_0) hisR ?_
  intro p e s m args below meth c s₁ Bd hml0 hP hK
  obtain ⟨rfl, hZ, hh⟩ := hP
  have hx := Bd.exec
  have hby := Bd.bytes
  have hml : c.maxLocals = 6 := hml0
  have hown : s.vm.findClass "com/example/tarsier/tarsier/index/IntListAddPinLaw" = some m.cls := findClass_of_methodNamed Bd.named
  have hnm := (name_of_methodNamed Bd.named Bd.method).1
  have X0 : Stand p l e room_1 s m #[(.int x0), (.int x1), (.int x2), (.int x3)] below meth c s₁ [] 0 0 := Stand.of_body Bd
  have e0 : s₁.heap = h0 := by rw [← hh, Bd.state]; rfl
  have N0 := Fr.nil n0
  show Ends p e below s (QL n0) room_1.cells room_1.slots (s₁.setTop (entryFrame m #[(.int x0), (.int x1), (.int x2), (.int x3)] maxLocals))
  rw [ef_rm0 m x0 x1 x2 x3]
  show Ends p e below s _ _ _ (s₁.setTop (mkF m 0 #[.val (.int x0), .val (.int x1), .val (.int x2), .val (.int x3), .unset, .unset] []))
  refine Es.iloadN (q := 1) ?_ X0 hx (hb hby at_0) rfl rfl
  refine Es.ldc (q := 3) ?_ X0 hx hown (mvT hZ (hw _ (List.mem_of_getElem? (i := 0) rfl))) (hb hby at_1) rfl
  refine Es.iand (q := 4) ?_ X0 hx (hb hby at_3) rfl
  refine Es.bipush (q := 6) (z := (19 : Int32)) ?_ X0 hx (hb hby at_4) rfl rfl
  refine Es.irem (q := 7) ?_ X0 hx (hb hby at_6) rfl (by decide)
  obtain ⟨NN, nn, hnm_, hNN, hnn⟩ := own_n x3
  rw [← hnm_]
  show Ends p e below s _ _ _ (s₁.setTop (mkF m 7 #[.val (.int x0), .val (.int x1), .val (.int x2), .val (.int x3), .unset, .unset] [(.int nn)]))
  refine Es.istore (q := 9) (l' := #[.val (.int x0), .val (.int x1), .val (.int x2), .val (.int x3), .val (.int nn), .unset]) ?_ X0 hx (hb hby at_7) rfl rfl
  obtain ⟨T1, h1, X1, e1, E1, A1, D1, -, st1⟩ := newO X0 hx hZ hown (hw _ (List.mem_of_getElem? (i := 1) rfl)) (hw _ (List.mem_of_getElem? (i := 2) rfl)) (hw _ (List.mem_of_getElem? (i := 3) rfl)) e0 (g := (mkF m 9 #[.val (.int x0), .val (.int x1), .val (.int x2), .val (.int x3), .val (.int nn), .unset] [])) rfl (hb hby at_9) (by decide) (by decide)
  obtain ⟨b1, g1⟩ : ∃ z, z = h0.size := ⟨_, rfl⟩
  rw [← g1] at A1 D1 st1
  have gn1 : n0 ≤ b1 := Nat.le_trans Z0 (Nat.le_of_eq g1.symm)
  have F1_values : Fld Z h1 b1 "com/example/tarsier/tarsier/index/IntList" "values" "[I" .null := D1 (Or.inl (hw _ (List.mem_of_getElem? (i := 12) rfl))) (ty := (.array .int)) (by decide)
  have F1_size : Fld Z h1 b1 "com/example/tarsier/tarsier/index/IntList" "size" "I" (.int (0 : Int32)) := D1 (Or.inl (hw _ (List.mem_of_getElem? (i := 26) rfl))) (ty := .int) (by decide)
  have Zs2 : n0 ≤ h1.size := Nat.le_trans Z0 E1.1
  refine Ends.by ?_ st1
  show Ends p e below s _ _ _ (T1.setTop (mkF m 12 #[.val (.int x0), .val (.int x1), .val (.int x2), .val (.int x3), .val (.int nn), .unset] [(.ref b1)]))
  refine Es.dup (q := 13) ?_ X1 hx (hb hby at_12) rfl rfl
  obtain ⟨v3, _, ⟨T3, L3, k3, n3⟩, -, X3, ⟨Lc3, hQ3, l3, y3, z3⟩, st3⟩ := X1.specialBack hx (y := (⟨"com/example/tarsier/tarsier/index/IntList", "<init>", "()V"⟩ : MethodName)) rfl hown (mvT hZ (hw _ (List.mem_of_getElem? (i := 4) rfl))) (mvT hZ (hw _ (List.mem_of_getElem? (i := 5) rfl))) (mvT hZ (hw _ (List.mem_of_getElem? (i := 6) rfl))) (by decide) (backOf (W := 1) (rm1 l Z a0 hw [] b1 (vv x0 x1 x2) h1 n0 Zs2 A1 F1_values F1_size gn1) hZ (hw _ (List.mem_of_getElem? (i := 6) rfl)) (hw _ (List.mem_of_getElem? (i := 3) rfl)) (by decide) (by decide)) (g := (mkF m 13 #[.val (.int x0), .val (.int x1), .val (.int x2), .val (.int x3), .val (.int nn), .unset] [(.ref b1), (.ref b1)])) rfl (by rw [hml]; rfl) (Steps.refl _) (a := b1) (argsL := []) (rest := [(.ref b1)]) (lenOf pd_4 rfl) rfl (by show 2 * 0 + _ ≤ _; exact Nat.le_of_eq rfl) (hb hby at_13) (fun _ _ => ⟨rfl, e1, (by decide : 1 + 1 ≤ _), (by decide : 2 + 16 ≤ _)⟩)
  dsimp only [Pt.U, Pt.locs, Pt.cells, Pt.slots] at X3 l3 y3 z3 st3 hQ3
  subst l3 y3 z3
  obtain ⟨rfl, N3q, Zq3, HI3⟩ := hQ3
  have N3 := Fr.app N0 N3q
  refine Ends.go st3 ?_
  show Ends p e below s _ _ _ (T3.setTop (mkF m 16 #[.val (.int x0), .val (.int x1), .val (.int x2), .val (.int x3), .val (.int nn), .unset] [(.ref b1)]))
  refine Es.astore (q := 18) (l' := #[.val (.int x0), .val (.int x1), .val (.int x2), .val (.int x3), .val (.int nn), .val (.ref b1)]) ?_ X3 hx (hb hby at_16) rfl rfl rfl
  refine Es.aload (q := 20) ?_ X3 hx (hb hby at_18) rfl rfl rfl
  refine Es.iconst (q := 21) (z := (0 : Int32)) ?_ X3 hx (hb hby at_20) rfl rfl
  refine Es.iload (q := 23) ?_ X3 hx (hb hby at_21) rfl rfl
  refine Es.iloadN (q := 24) ?_ X3 hx (hb hby at_23) rfl rfl
  refine Es.iloadN (q := 25) ?_ X3 hx (hb hby at_24) rfl rfl
  refine Es.iloadN (q := 26) ?_ X3 hx (hb hby at_25) rfl rfl
  obtain ⟨v4, _, ⟨T4, L4, k4, n4⟩, -, X4, ⟨Lc4, hQ4, l4, y4, z4⟩, st4⟩ := Jvm.LawKit.callS X3 hx (y := (⟨"com/example/tarsier/tarsier/index/IntListAddPinLaw", "addIf", "(Lcom/example/tarsier/tarsier/index/IntList;IIIII)V"⟩ : MethodName)) hown (mvT hZ (hw _ (List.mem_of_getElem? (i := 13) rfl))) (mvT hZ (hw _ (List.mem_of_getElem? (i := 14) rfl))) (mvT hZ (hw _ (List.mem_of_getElem? (i := 15) rfl))) (mvT hZ (hw _ (List.mem_of_getElem? (i := 16) rfl))) (by decide) (backOf (W := 0) (rmIa l Z a0 hw [] b1 (0 : Int32) nn x0 x1 x2 0 NN T3.heap n0 Zq3 (show IL Z _ b1 (min 0 NN) n0 (vv x0 x1 x2) by rw [Nat.zero_min]; exact HI3) hNN (by omega) rfl hnn (by omega)) hZ (hw _ (List.mem_of_getElem? (i := 16) rfl)) (hw _ (List.mem_of_getElem? (i := 15) rfl)) (by decide) (by decide)) (g := (mkF m 26 #[.val (.int x0), .val (.int x1), .val (.int x2), .val (.int x3), .val (.int nn), .val (.ref b1)] [(.int x2), (.int x1), (.int x0), (.int nn), (.int (0 : Int32)), (.ref b1)])) rfl (by rw [hml]; rfl) (argsL := [(.ref b1), (.int (0 : Int32)), (.int nn), (.int x0), (.int x1), (.int x2)]) (rest := []) (lenOf pd_5 rfl) rfl (by show 2 * 0 + _ ≤ _; exact Nat.le_of_eq rfl) (hb hby at_26) (fun _ _ => ⟨rfl, rfl, (by decide : 2 + 0 ≤ _), (by decide : 18 + 0 ≤ _)⟩)
  dsimp only [Pt.U, Pt.locs, Pt.cells, Pt.slots] at X4 l4 y4 z4 st4 hQ4
  subst l4 y4 z4
  obtain ⟨rfl, N4q, Zq4, HI4⟩ := hQ4
  have N4 := Fr.app N3 N4q
  refine Ends.by ?_ st4
  show Ends p e below s _ _ _ (T4.setTop (mkF m 29 #[.val (.int x0), .val (.int x1), .val (.int x2), .val (.int x3), .val (.int nn), .val (.ref b1)] []))
  refine Es.aload (q := 31) ?_ X4 hx (hb hby at_29) rfl rfl rfl
  refine Es.iconst (q := 32) (z := (1 : Int32)) ?_ X4 hx (hb hby at_31) rfl rfl
  refine Es.iload (q := 34) ?_ X4 hx (hb hby at_32) rfl rfl
  refine Es.iloadN (q := 35) ?_ X4 hx (hb hby at_34) rfl rfl
  refine Es.iloadN (q := 36) ?_ X4 hx (hb hby at_35) rfl rfl
  refine Es.iloadN (q := 37) ?_ X4 hx (hb hby at_36) rfl rfl
  obtain ⟨v5, _, ⟨T5, L5, k5, n5⟩, -, X5, ⟨Lc5, hQ5, l5, y5, z5⟩, st5⟩ := Jvm.LawKit.callS X4 hx (y := (⟨"com/example/tarsier/tarsier/index/IntListAddPinLaw", "addIf", "(Lcom/example/tarsier/tarsier/index/IntList;IIIII)V"⟩ : MethodName)) hown (mvT hZ (hw _ (List.mem_of_getElem? (i := 13) rfl))) (mvT hZ (hw _ (List.mem_of_getElem? (i := 14) rfl))) (mvT hZ (hw _ (List.mem_of_getElem? (i := 15) rfl))) (mvT hZ (hw _ (List.mem_of_getElem? (i := 16) rfl))) (by decide) (backOf (W := 0) (rmIa l Z a0 hw [] b1 (1 : Int32) nn x0 x1 x2 1 NN T4.heap n0 Zq4 HI4 hNN (by omega) rfl hnn (by omega)) hZ (hw _ (List.mem_of_getElem? (i := 16) rfl)) (hw _ (List.mem_of_getElem? (i := 15) rfl)) (by decide) (by decide)) (g := (mkF m 37 #[.val (.int x0), .val (.int x1), .val (.int x2), .val (.int x3), .val (.int nn), .val (.ref b1)] [(.int x2), (.int x1), (.int x0), (.int nn), (.int (1 : Int32)), (.ref b1)])) rfl (by rw [hml]; rfl) (argsL := [(.ref b1), (.int (1 : Int32)), (.int nn), (.int x0), (.int x1), (.int x2)]) (rest := []) (lenOf pd_5 rfl) rfl (by show 2 * 0 + _ ≤ _; exact Nat.le_of_eq rfl) (hb hby at_37) (fun _ _ => ⟨rfl, rfl, (by decide : 2 + 0 ≤ _), (by decide : 18 + 0 ≤ _)⟩)
  dsimp only [Pt.U, Pt.locs, Pt.cells, Pt.slots] at X5 l5 y5 z5 st5 hQ5
  subst l5 y5 z5
  obtain ⟨rfl, N5q, Zq5, HI5⟩ := hQ5
  have N5 := Fr.app N4 N5q
  refine Ends.by ?_ st5
  show Ends p e below s _ _ _ (T5.setTop (mkF m 40 #[.val (.int x0), .val (.int x1), .val (.int x2), .val (.int x3), .val (.int nn), .val (.ref b1)] []))
  exact sg0_40 hx hZ hw hby hml hown Bd.notSynchronized Bd.returns (x0) (x1) (x2) (x3) (NN) (nn) b1 X5 rfl N5 Zq5 HI5 gn1 hNN hnn

set_option maxRecDepth 65536 in
set_option maxHeartbeats 40000000 in
theorem comes_1 {Post : Tables → Env → Array Value → State → Outcome → State → Prop} (hpost : ∀ tb e args s v u, (limb_1_1.after args s (.returned v) u = true ∧ limb_1_2.after args s (.returned v) u = true ∧ True) → FrameEnd s (.returned v) u (Jvm.fieldLocs frame_1_writes args s ++ Jvm.arrayLocs frame_1_arrays args s ++ Jvm.staticLocs frame_1_statics s) 16 192 → Post tb e args s (.returned v) u) :
    ArmFor flags0 classFile x code maxLocals ret World_1 tables_1 room_1 Calls_1 rest_1 Pre_1 Post := by
  intro l hfl _ _ p e ha hc hk s m args below hf hA hF happ hP
  obtain ⟨hcalls, hrest, hpre⟩ := hP
  obtain ⟨-, -, -, hnamed, -, -, -, hat⟩ := (Spec.applies_iff hf).mp happ
  obtain ⟨hg, hn⟩ := and_e (Cond.before_iff.mp (show (Jvm.Cond.and given_1 narrow_1).before args s = true from hpre))
  obtain ⟨g1, g2⟩ := and_e hg
  obtain ⟨g3, g4⟩ := and_e g2
  obtain ⟨g5, g6⟩ := and_e g4
  obtain ⟨g7, g8⟩ := and_e g6
  obtain ⟨w0, w1, w2, w3, rfl⟩ : ∃ w0 w1 w2 w3 : Value, args = #[w0, w1, w2, w3] := by
    have hs : args.size = 4 := by simpa [Cond.value, given_1] using g1
    obtain ⟨L⟩ := args
    match L, hs with
    | [w0, w1, w2, w3], _ => exact ⟨w0, w1, w2, w3, rfl⟩
  have hw := fun d (hd : d ∈ tables_1) => atoms_spec (ws := Jvm.Cond.code x code maxLocals ret :: tables_1) hat d (List.mem_cons_of_mem _ hd)
  obtain ⟨i0, ei0⟩ := is_v g3
  obtain rfl : w0 = (.int i0) := Option.some.inj ei0
  obtain ⟨i1, ei1⟩ := is_v g5
  obtain rfl : w1 = (.int i1) := Option.some.inj ei1
  obtain ⟨i2, ei2⟩ := is_v g7
  obtain rfl : w2 = (.int i2) := Option.some.inj ei2
  obtain ⟨i3, ei3⟩ := is_v g8
  obtain rfl : w3 = (.int i3) := Option.some.inj ei3
  obtain ⟨n, o, h1, h2, h3, v, L, rfl, hQ, hq⟩ := rm0 l s _ hw tables_1 i0 i1 i2 i3 s.heap s.heap.size (Nat.le_refl _) p e ha hc hk s m _ below hf ((Spec.applies_iff_loose hf).mp happ).1 ⟨rfl, State.Warmed39.refl s, rfl⟩ trivial
  obtain ⟨rfl, N⟩ := hQ
  refine ⟨n, _, h1, h2, h3, hpost _ _ _ _ _ _ ⟨Cond.after_iff.mpr rfl, Cond.after_iff.mpr (eq_i res_at (Term.int_eval (1)) rfl), trivial⟩ ⟨hq.1, hq.2.1, (hq.2.2.sift fun y hy => Or.inr (N y hy)).mono (by decide) (by decide)⟩⟩
theorem main_1_1 : Claimed_1_1 := comes_1 fun _ _ _ _ _ _ h hF => ⟨h.1, hF⟩
theorem main_1_2 : Claimed_1_2 := comes_1 fun _ _ _ _ _ _ h hF => ⟨h.2.1, hF⟩
end Jvm.Pilot.@@N@@
namespace Jvm.Pilot.@@N@@
open Jvm Jvm.ClassFile Sem Op Lib Jvm.Free Jvm.Stand Jvm.Pilot.@@N@@.Jvm.D
/-! MADE BY PROGRAM (witnessworld.py) out of the Statement's table words and the real class files: 12 classes; the members and pool entries that the words name. The judged class is class 1, her method 3. -/
namespace start1
open Jvm.ClassFile
def u (s : String) : CpInfo := .utf8 (stringToUtf16 s)
/-- a pool by its gaps: so many unusable entries, then the entry; so many at the end -/
def gap : Nat → List CpInfo → List CpInfo
  | 0, r => r
  | n + 1, r => .unusable :: gap n r
def poolList (es : List (Nat × CpInfo)) (last : Nat) : List CpInfo := es.foldr (fun e r => gap e.1 (e.2 :: r)) (gap last [])
def pool (es : List (Nat × CpInfo)) (last : Nat) : Array CpInfo := ⟨poolList es last⟩
def fileOf (pool : Array CpInfo) (this : Nat) (attrs : Array Attribute := #[]) (ms : Array MethodInfo := #[]) (fl : Nat := 33) (sup : Nat := 0) (ifs : Array Nat := #[]) (fds : Array FieldInfo := #[]) : ClassFile where
  minorVersion := 0
  majorVersion := 65
  constantPool := pool
  accessFlags := fl
  thisClass := this
  superClass := sup
  interfaces := ifs
  fields := fds
  methods := ms
  attributes := attrs
def plain (name : String) (sup : Option ClassId) : Class where
  name := name
  kind := .ordinary
  loader := none
  accessFlags := 33
  super := sup
  interfaces := #[]
  cf := none
  fields := #[]
  methods := #[]
  instanceTypes := #[]
  staticTypes := #[]
  resolved := #[]
  callSites := []
  init := .initialized
  statics := none
  mirror := none

def pool0 : Array CpInfo := pool [(5, u "<init>"), (0, u "()V"), (1, .class_ 10), (1, u "java/lang/Object")] 113

def k0c0 : Code := { maxStack := 0, maxLocals := 1, code := object_method_1_code, exceptionTable := #[], attributes := #[] }
def k0m0 : Method := { name := "<init>", desc := "()V", sig := { parameters := [], returnType := none }, accessFlags := 1, code := some k0c0 }
/-- java/lang/Object -/
def k0 : Class := { plain "java/lang/Object" none with
  accessFlags := 33
  interfaces := #[]
  cf := some (fileOf pool0 8 #[] #[{ accessFlags := 1, nameIndex := 5, descriptorIndex := 6, attributes := #[] }] 33 0 #[] #[])
  fields := #[]
  methods := #[k0m0]
  instanceTypes := #[]
  staticTypes := #[]
  resolved := Array.replicate 124 none
  statics := none }

def pool1 : Array CpInfo := pool [(2, .class_ 4), (0, .nameAndType 5 6), (0, u "java/lang/Object"), (0, u "<init>"), (0, u "()V"), (0, .methodref 8 9), (0, .class_ 10), (0, .nameAndType 11 12), (0, u "com/example/tarsier/tarsier/index/IntListAddPinLaw"), (0, u "val"), (0, u "(IIII)I"), (0, .methodref 14 15), (0, .class_ 16), (0, .nameAndType 17 18), (0, u "com/example/tarsier/tarsier/index/IntList"), (0, u "add"), (0, u "(I)V"), (0, .integer 2147483647), (0, .methodref 14 3), (0, .methodref 8 22), (0, .nameAndType 23 24), (0, u "addIf"), (0, u "(Lcom/example/tarsier/tarsier/index/IntList;IIIII)V"), (0, .methodref 14 26), (0, .nameAndType 27 28), (0, u "size"), (0, u "()I"), (0, .methodref 14 30), (0, .nameAndType 31 32), (0, u "get"), (0, u "(I)I"), (3, u "law"), (0, u "(IIII)Z")] 2

def k1m0 : Method := { name := "<init>", desc := "()V", sig := { parameters := [], returnType := none }, accessFlags := 1, code := none }
def k1c1 : Code := { maxStack := 2, maxLocals := 4, code := method_2_code, exceptionTable := #[], attributes := #[] }
def k1m1 : Method := { name := "val", desc := "(IIII)I", sig := { parameters := [.int, .int, .int, .int], returnType := some .int }, accessFlags := 10, code := some k1c1 }
def k1c2 : Code := { maxStack := 5, maxLocals := 6, code := method_3_code, exceptionTable := #[], attributes := #[] }
def k1m2 : Method := { name := "addIf", desc := "(Lcom/example/tarsier/tarsier/index/IntList;IIIII)V", sig := { parameters := [(.object "com/example/tarsier/tarsier/index/IntList"), .int, .int, .int, .int, .int], returnType := none }, accessFlags := 10, code := some k1c2 }
def k1c3 : Code := { maxStack := 6, maxLocals := 6, code := code, exceptionTable := #[], attributes := #[] }
def k1m3 : Method := { name := "law", desc := "(IIII)Z", sig := { parameters := [.int, .int, .int, .int], returnType := some .boolean }, accessFlags := 9, code := some k1c3 }
/-- com/example/tarsier/tarsier/index/IntListAddPinLaw -/
def k1 : Class := { plain "com/example/tarsier/tarsier/index/IntListAddPinLaw" (some 0) with
  accessFlags := 49
  interfaces := #[]
  cf := some (fileOf pool1 8 #[] #[{ accessFlags := 1, nameIndex := 5, descriptorIndex := 6, attributes := #[] }, { accessFlags := 10, nameIndex := 11, descriptorIndex := 12, attributes := #[] }, { accessFlags := 10, nameIndex := 23, descriptorIndex := 24, attributes := #[] }, { accessFlags := 9, nameIndex := 36, descriptorIndex := 37, attributes := #[] }] 49 2 #[] #[])
  fields := #[]
  methods := #[k1m0, k1m1, k1m2, k1m3]
  instanceTypes := #[]
  staticTypes := #[]
  resolved := Array.replicate 40 none
  statics := none }

def pool2 : Array CpInfo := pool [(1, .methodref 2 3), (0, .class_ 4), (0, .nameAndType 5 6), (0, u "java/lang/Object"), (0, u "<init>"), (0, u "()V"), (0, .fieldref 8 9), (0, .class_ 10), (0, .nameAndType 11 12), (0, u "com/example/tarsier/tarsier/index/IntList"), (0, u "values"), (0, u "[I"), (0, .fieldref 8 14), (0, .nameAndType 15 16), (0, u "size"), (0, u "I"), (0, .methodref 18 19), (0, .class_ 20), (0, .nameAndType 21 22), (0, u "java/util/Arrays"), (0, u "copyOf"), (0, u "([II)[I"), (2, u "add"), (0, u "(I)V"), (1, u "get"), (0, u "(I)I"), (0, u "()I")] 2

def k2c0 : Code := { maxStack := 2, maxLocals := 1, code := prog_13_method_1_code, exceptionTable := #[], attributes := #[] }
def k2m0 : Method := { name := "<init>", desc := "()V", sig := { parameters := [], returnType := none }, accessFlags := 0, code := some k2c0 }
def k2c1 : Code := { maxStack := 5, maxLocals := 2, code := prog_13_method_2_code, exceptionTable := #[], attributes := #[] }
def k2m1 : Method := { name := "add", desc := "(I)V", sig := { parameters := [.int], returnType := none }, accessFlags := 0, code := some k2c1 }
def k2c2 : Code := { maxStack := 2, maxLocals := 2, code := prog_13_method_3_code, exceptionTable := #[], attributes := #[] }
def k2m2 : Method := { name := "get", desc := "(I)I", sig := { parameters := [.int], returnType := some .int }, accessFlags := 0, code := some k2c2 }
def k2c3 : Code := { maxStack := 1, maxLocals := 1, code := prog_13_method_4_code, exceptionTable := #[], attributes := #[] }
def k2m3 : Method := { name := "size", desc := "()I", sig := { parameters := [], returnType := some .int }, accessFlags := 0, code := some k2c3 }
/-- com/example/tarsier/tarsier/index/IntList -/
def k2 : Class := { plain "com/example/tarsier/tarsier/index/IntList" (some 0) with
  accessFlags := 48
  interfaces := #[]
  cf := some (fileOf pool2 8 #[] #[{ accessFlags := 0, nameIndex := 5, descriptorIndex := 6, attributes := #[] }, { accessFlags := 0, nameIndex := 25, descriptorIndex := 26, attributes := #[] }, { accessFlags := 0, nameIndex := 28, descriptorIndex := 29, attributes := #[] }, { accessFlags := 0, nameIndex := 15, descriptorIndex := 30, attributes := #[] }] 48 2 #[] #[{ accessFlags := 2, nameIndex := 11, descriptorIndex := 12, attributes := #[] }, { accessFlags := 2, nameIndex := 15, descriptorIndex := 16, attributes := #[] }])
  fields := #[{ name := "values", type := (.array .int), accessFlags := 2, slot := 0, constantValue := 0 }, { name := "size", type := .int, accessFlags := 2, slot := 1, constantValue := 0 }]
  methods := #[k2m0, k2m1, k2m2, k2m3]
  instanceTypes := #[(.array .int), .int]
  staticTypes := #[]
  resolved := Array.replicate 33 none
  statics := none }

def pool3 : Array CpInfo := pool [(2, .class_ 4), (1, u "java/lang/Object"), (0, u "<init>"), (0, u "()V"), (7, .class_ 16), (1, u "java/util/Arrays"), (57, .class_ 76), (1, u "java/util/Arrays$NaturalOrder"), (36, .class_ 115), (1, u "java/util/Arrays$LegacyMergeSort"), (1, u "Z"), (32, .methodref 151 152), (0, .class_ 153), (0, .nameAndType 154 155), (0, u "java/lang/System"), (0, u "arraycopy"), (0, u "(Ljava/lang/Object;ILjava/lang/Object;II)V"), (146, u "copyOf"), (1, .methodref 305 306), (0, .class_ 307), (0, .nameAndType 308 309), (0, u "java/lang/Math"), (0, u "min"), (0, u "(II)I"), (65, .class_ 376), (0, u "java/util/Arrays$ArrayList"), (68, u "$assertionsDisabled"), (269, u "MIN_ARRAY_SORT_GRAN"), (0, u "I"), (2, u "INSERTIONSORT_THRESHOLD"), (151, u "([II)[I"), (103, .class_ 976), (0, u "java/util/Arrays$ArrayItr")] 52

def k3m0 : Method := { name := "<init>", desc := "()V", sig := { parameters := [], returnType := none }, accessFlags := 2, code := none }
def k3c1 : Code := { maxStack := 6, maxLocals := 3, code := jdk_65_method_123_code, exceptionTable := #[], attributes := #[] }
def k3m1 : Method := { name := "copyOf", desc := "([II)[I", sig := { parameters := [(.array .int), .int], returnType := some (.array .int) }, accessFlags := 9, code := some k3c1 }
/-- java/util/Arrays -/
def k3 : Class := { plain "java/util/Arrays" (some 0) with
  accessFlags := 49
  interfaces := #[]
  cf := some (fileOf pool3 14 #[.nestMembers #[975, 375, 113, 74]] #[{ accessFlags := 2, nameIndex := 5, descriptorIndex := 6, attributes := #[] }, { accessFlags := 9, nameIndex := 302, descriptorIndex := 871, attributes := #[] }] 49 2 #[] #[{ accessFlags := 26, nameIndex := 715, descriptorIndex := 716, attributes := #[] }, { accessFlags := 26, nameIndex := 719, descriptorIndex := 716, attributes := #[] }, { accessFlags := 4120, nameIndex := 445, descriptorIndex := 117, attributes := #[] }])
  fields := #[{ name := "MIN_ARRAY_SORT_GRAN", type := .int, accessFlags := 26, slot := 0, constantValue := 0 }, { name := "INSERTIONSORT_THRESHOLD", type := .int, accessFlags := 26, slot := 1, constantValue := 0 }, { name := "$assertionsDisabled", type := .boolean, accessFlags := 4120, slot := 2, constantValue := 0 }]
  methods := #[k3m0, k3m1]
  instanceTypes := #[]
  staticTypes := #[.int, .int, .boolean]
  resolved := Array.replicate 1029 none
  statics := none }

def pool4 : Array CpInfo := pool [(1, .class_ 2), (0, u "java/lang/Math"), (1, .class_ 6), (1, u "java/lang/Object"), (0, u "<init>"), (0, u "()V"), (89, .class_ 100), (1, u "java/lang/Math$RandomNumberGeneratorHolder"), (71, u "negativeZeroFloatBits"), (0, u "J"), (2, u "negativeZeroDoubleBits"), (24, u "min"), (43, u "$assertionsDisabled"), (0, u "Z"), (88, u "(II)I"), (2, u "twoToTheDoubleScaleDown"), (0, u "D"), (4, u "twoToTheDoubleScaleUp"), (9, u "E"), (3, u "PI"), (2, u "TAU"), (2, u "DEGREES_TO_RADIANS"), (0, u "RADIANS_TO_DEGREES")] 94

def k4m0 : Method := { name := "<init>", desc := "()V", sig := { parameters := [], returnType := none }, accessFlags := 2, code := none }
def k4c1 : Code := { maxStack := 2, maxLocals := 2, code := jdk_29_method_69_code, exceptionTable := #[], attributes := #[] }
def k4m1 : Method := { name := "min", desc := "(II)I", sig := { parameters := [.int, .int], returnType := some .int }, accessFlags := 9, code := some k4c1 }
/-- java/lang/Math -/
def k4 : Class := { plain "java/lang/Math" (some 0) with
  accessFlags := 49
  interfaces := #[]
  cf := some (fileOf pool4 1 #[.nestMembers #[98]] #[{ accessFlags := 2, nameIndex := 7, descriptorIndex := 8, attributes := #[] }, { accessFlags := 9, nameIndex := 201, descriptorIndex := 335, attributes := #[] }] 49 4 #[] #[{ accessFlags := 25, nameIndex := 354, descriptorIndex := 339, attributes := #[] }, { accessFlags := 25, nameIndex := 358, descriptorIndex := 339, attributes := #[] }, { accessFlags := 25, nameIndex := 361, descriptorIndex := 339, attributes := #[] }, { accessFlags := 26, nameIndex := 364, descriptorIndex := 339, attributes := #[] }, { accessFlags := 26, nameIndex := 365, descriptorIndex := 339, attributes := #[] }, { accessFlags := 26, nameIndex := 172, descriptorIndex := 173, attributes := #[] }, { accessFlags := 26, nameIndex := 176, descriptorIndex := 173, attributes := #[] }, { accessFlags := 8, nameIndex := 344, descriptorIndex := 339, attributes := #[] }, { accessFlags := 8, nameIndex := 338, descriptorIndex := 339, attributes := #[] }, { accessFlags := 4120, nameIndex := 245, descriptorIndex := 246, attributes := #[] }])
  fields := #[{ name := "E", type := .double, accessFlags := 25, slot := 0, constantValue := 0 }, { name := "PI", type := .double, accessFlags := 25, slot := 1, constantValue := 0 }, { name := "TAU", type := .double, accessFlags := 25, slot := 2, constantValue := 0 }, { name := "DEGREES_TO_RADIANS", type := .double, accessFlags := 26, slot := 3, constantValue := 0 }, { name := "RADIANS_TO_DEGREES", type := .double, accessFlags := 26, slot := 4, constantValue := 0 }, { name := "negativeZeroFloatBits", type := .long, accessFlags := 26, slot := 5, constantValue := 0 }, { name := "negativeZeroDoubleBits", type := .long, accessFlags := 26, slot := 6, constantValue := 0 }, { name := "twoToTheDoubleScaleUp", type := .double, accessFlags := 8, slot := 7, constantValue := 0 }, { name := "twoToTheDoubleScaleDown", type := .double, accessFlags := 8, slot := 8, constantValue := 0 }, { name := "$assertionsDisabled", type := .boolean, accessFlags := 4120, slot := 9, constantValue := 0 }]
  methods := #[k4m0, k4m1]
  instanceTypes := #[]
  staticTypes := #[.double, .double, .double, .double, .double, .long, .long, .double, .double, .boolean]
  resolved := Array.replicate 460 none
  statics := none }

def pool5 : Array CpInfo := pool [(2, .class_ 4), (1, u "java/lang/Object"), (0, u "<init>"), (0, u "()V"), (1, .class_ 10), (1, u "java/lang/System"), (0, u "allowSecurityManager"), (0, u "I"), (16, u "cons"), (0, u "Ljava/io/Console;"), (77, .class_ 110), (1, u "java/lang/System$CallersHolder"), (43, u "initialErrStream"), (0, u "Ljava/io/PrintStream;"), (19, u "security"), (0, u "Ljava/lang/SecurityManager;"), (31, .class_ 209), (0, u "java/lang/System$1"), (7, u "props"), (0, u "Ljava/util/Properties;"), (2, u "lineSeparator"), (0, u "Ljava/lang/String;"), (96, .class_ 321), (1, u "java/lang/System$LoggerFinder"), (5, .class_ 328), (0, u "java/lang/System$Logger"), (67, u "err"), (2, u "out"), (91, u "notSupportedJnuEncoding"), (15, u "in"), (17, u "initialIn"), (0, u "Ljava/io/InputStream;"), (35, u "bootLayer"), (0, u "Ljava/lang/ModuleLayer;"), (99, .class_ 664), (0, u "java/lang/System$2"), (9, u "NEVER"), (2, u "MAYBE"), (49, u "arraycopy"), (0, u "(Ljava/lang/Object;ILjava/lang/Object;II)V"), (72, .class_ 802), (0, u "java/lang/System$Logger$Level")] 31

def k5m0 : Method := { name := "<init>", desc := "()V", sig := { parameters := [], returnType := none }, accessFlags := 2, code := none }
def k5m1 : Method := { name := "arraycopy", desc := "(Ljava/lang/Object;ILjava/lang/Object;II)V", sig := { parameters := [(.object "java/lang/Object"), .int, (.object "java/lang/Object"), .int, .int], returnType := none }, accessFlags := 265, code := none }
/-- java/lang/System -/
def k5 : Class := { plain "java/lang/System" (some 0) with
  accessFlags := 49
  interfaces := #[]
  cf := some (fileOf pool5 8 #[.nestMembers #[319, 327, 801, 108, 663, 208]] #[{ accessFlags := 2, nameIndex := 5, descriptorIndex := 6, attributes := #[] }, { accessFlags := 265, nameIndex := 727, descriptorIndex := 728, attributes := #[] }] 49 2 #[] #[{ accessFlags := 25, nameIndex := 507, descriptorIndex := 526, attributes := #[] }, { accessFlags := 25, nameIndex := 399, descriptorIndex := 155, attributes := #[] }, { accessFlags := 25, nameIndex := 396, descriptorIndex := 155, attributes := #[] }, { accessFlags := 10, nameIndex := 525, descriptorIndex := 526, attributes := #[] }, { accessFlags := 26, nameIndex := 674, descriptorIndex := 12, attributes := #[] }, { accessFlags := 26, nameIndex := 677, descriptorIndex := 12, attributes := #[] }, { accessFlags := 10, nameIndex := 11, descriptorIndex := 12, attributes := #[] }, { accessFlags := 74, nameIndex := 175, descriptorIndex := 176, attributes := #[] }, { accessFlags := 10, nameIndex := 491, descriptorIndex := 222, attributes := #[] }, { accessFlags := 74, nameIndex := 29, descriptorIndex := 30, attributes := #[] }, { accessFlags := 74, nameIndex := 154, descriptorIndex := 155, attributes := #[] }, { accessFlags := 10, nameIndex := 217, descriptorIndex := 218, attributes := #[] }, { accessFlags := 10, nameIndex := 221, descriptorIndex := 222, attributes := #[] }, { accessFlags := 8, nameIndex := 562, descriptorIndex := 563, attributes := #[] }])
  fields := #[{ name := "in", type := (.object "java/io/InputStream"), accessFlags := 25, slot := 0, constantValue := 0 }, { name := "out", type := (.object "java/io/PrintStream"), accessFlags := 25, slot := 1, constantValue := 0 }, { name := "err", type := (.object "java/io/PrintStream"), accessFlags := 25, slot := 2, constantValue := 0 }, { name := "initialIn", type := (.object "java/io/InputStream"), accessFlags := 10, slot := 3, constantValue := 0 }, { name := "NEVER", type := .int, accessFlags := 26, slot := 4, constantValue := 0 }, { name := "MAYBE", type := .int, accessFlags := 26, slot := 5, constantValue := 0 }, { name := "allowSecurityManager", type := .int, accessFlags := 10, slot := 6, constantValue := 0 }, { name := "security", type := (.object "java/lang/SecurityManager"), accessFlags := 74, slot := 7, constantValue := 0 }, { name := "notSupportedJnuEncoding", type := (.object "java/lang/String"), accessFlags := 10, slot := 8, constantValue := 0 }, { name := "cons", type := (.object "java/io/Console"), accessFlags := 74, slot := 9, constantValue := 0 }, { name := "initialErrStream", type := (.object "java/io/PrintStream"), accessFlags := 74, slot := 10, constantValue := 0 }, { name := "props", type := (.object "java/util/Properties"), accessFlags := 10, slot := 11, constantValue := 0 }, { name := "lineSeparator", type := (.object "java/lang/String"), accessFlags := 10, slot := 12, constantValue := 0 }, { name := "bootLayer", type := (.object "java/lang/ModuleLayer"), accessFlags := 8, slot := 13, constantValue := 0 }]
  methods := #[k5m0, k5m1]
  instanceTypes := #[]
  staticTypes := #[(.object "java/io/InputStream"), (.object "java/io/PrintStream"), (.object "java/io/PrintStream"), (.object "java/io/InputStream"), .int, .int, .int, (.object "java/lang/SecurityManager"), (.object "java/lang/String"), (.object "java/io/Console"), (.object "java/io/PrintStream"), (.object "java/util/Properties"), (.object "java/lang/String"), (.object "java/lang/ModuleLayer")]
  resolved := Array.replicate 834 none
  statics := none }

def pool6 : Array CpInfo := pool [(1, u "java/lang/Cloneable"), (0, .class_ 1), (0, u "java/lang/Object"), (0, .class_ 3)] 3

/-- java/lang/Cloneable -/
def k6 : Class := { plain "java/lang/Cloneable" (some 0) with
  accessFlags := 1537
  interfaces := #[]
  cf := some (fileOf pool6 2 #[] #[] 1537 4 #[] #[])
  fields := #[]
  methods := #[]
  instanceTypes := #[]
  staticTypes := #[]
  resolved := Array.replicate 8 none
  statics := none }

def pool7 : Array CpInfo := pool [(1, u "java/io/Serializable"), (0, .class_ 1), (0, u "java/lang/Object"), (0, .class_ 3)] 3

/-- java/io/Serializable -/
def k7 : Class := { plain "java/io/Serializable" (some 0) with
  accessFlags := 1537
  interfaces := #[]
  cf := some (fileOf pool7 2 #[] #[] 1537 4 #[] #[])
  fields := #[]
  methods := #[]
  instanceTypes := #[]
  staticTypes := #[]
  resolved := Array.replicate 8 none
  statics := none }

/-- the primitive byte -/
def k8 : Class := { plain "byte" none with kind := .primitive 'B', accessFlags := 0x411 }
/-- [B -/
def k9 : Class := { plain "[B" (some 0) with kind := .array 8 .byte, interfaces := #[6, 7], accessFlags := 1041 }

/-- the primitive int -/
def k10 : Class := { plain "int" none with kind := .primitive 'I', accessFlags := 0x411 }
/-- [I -/
def k11 : Class := { plain "[I" (some 0) with kind := .array 10 .int, interfaces := #[6, 7], accessFlags := 1041 }

def heap : Heap := #[]
def classes : Array Class := #[k0, k1, k2, k3, k4, k5, k6, k7, k8, k9, k10, k11]
def interned : List (Array UInt16 × Addr) := []
def slotsUsed : Nat := 0
def theMethod : MethodId := ⟨1, 3⟩
def args0 : Array Value := #[.int 5, .int 7, .int 3, .int 9]
def aboutOver (below : List Frame) : State where
  vm := { classes := classes, interned := interned.toArray }
  heap := heap
  slotsUsed := slotsUsed
  threads := #[{ frames := .invoking theMethod args0 :: below }]
def below0 : List Frame := [.native { method := ⟨0, 0⟩, args := #[] }]
def about1 : State := aboutOver below0
def p0 : Program := .bare "" "" ""
def e0 : Env := launch0.env 0 0 0
theorem w_frames : about1.frames = Frame.invoking theMethod args0 :: below0 := rfl
set_option maxRecDepth 65536 in
theorem w_args : argsFit about1.vm theMethod args0 = true := by decide +kernel
set_option maxRecDepth 65536 in
theorem w_heap : heapFits about1 = true := by decide +kernel
set_option maxRecDepth 65536 in
theorem w_runnable : about1.curStatus? = some .runnable := by decide +kernel
set_option maxRecDepth 65536 in
theorem w_alone : about1.alone = true := by decide +kernel
set_option maxRecDepth 65536 in
theorem w_named : about1.methodNamed? x = some theMethod := by decide +kernel
set_option maxRecDepth 65536 in
theorem w_hears : about1.hears theMethod below0 = true := by decide +kernel
set_option maxRecDepth 65536 in
theorem w_ripe : about1.ripe theMethod args0 below0 = true := by decide +kernel
theorem w_running : about1.status = .running := rfl
set_option maxRecDepth 65536 in
theorem w_room : about1.hasRoom e0.platform room_1 = true :=
  launch0.hasRoom_least _ room_1 (by decide +kernel) (by decide +kernel) (by decide +kernel) (by decide +kernel) (by decide +kernel) (by decide +kernel)
theorem allAtoms_all (ts : List Jvm.Cond) (a : Array Jvm.Value) (st : Jvm.State) : (allAtoms ts).before a st = ts.all (fun c => c.before a st) := by
  induction ts with
  | nil => rfl
  | cons c t ih =>
    show (Jvm.Cond.and c (allAtoms t)).before a st = _
    rw [Jvm.Cond.before_and, ih, List.all_cons]
def words1 : List Jvm.Cond := Jvm.Cond.code x code maxLocals ret :: tables_1
/-- a 'code' word, met by the world's own term for the bytes: nothing is compared byte by byte -/
theorem code_word {y : MethodName} {bytes : ByteArray} {mx : Nat} {rt : Option FieldType} {a : Array Value} {s : State} {m : MethodId} {meth : Method} {c : Code} (h1 : s.methodNamed? y = some m) (h2 : s.vm.method? m = some meth) (h3 : meth.code = some c) (h4 : c.code = bytes)
    (h5 : (c.maxLocals == mx && c.exceptionTable.isEmpty && decide (c.maxStack ≤ mostOperands) && decide (meth.sig.returnType = rt) && !meth.locks && decide (parseMethodDescriptor y.desc = some meth.sig)) = true) : (Jvm.Cond.code y bytes mx rt).before a s = true := by
  simp only [Bool.and_eq_true, beq_iff_eq, Bool.not_eq_true', decide_eq_true_eq] at h5
  obtain ⟨⟨⟨⟨⟨g1, g2⟩, g3⟩, g4⟩, g5⟩, g6⟩ := h5
  simp [Cond.before, Cond.holds, Cond.value, h1, h2, h3, h4, g1, g2, g3, g4, g5, g6]
def isCode : Jvm.Cond → Bool
  | .code _ _ _ _ => true
  | _ => false
theorem all_split {L : List Jvm.Cond} {P : Jvm.Cond → Bool} (h1 : L.all (fun c => isCode c || P c) = true) (h2 : ∀ c ∈ L.filter isCode, P c = true) : L.all P = true := by
  refine List.all_eq_true.mpr fun c hc => ?_
  have h := List.all_eq_true.mp h1 c hc
  rcases Bool.eq_false_or_eq_true (isCode c) with hi | hi
  · exact h2 c (List.mem_filter.mpr ⟨hc, hi⟩)
  · simpa [hi] using h
set_option maxRecDepth 65536 in
theorem w_c0 : (Jvm.Cond.code x code maxLocals ret).before args0 about1 = true := code_word (m := ⟨1, 3⟩) (meth := k1m3) (c := k1c3) (by decide +kernel) rfl rfl rfl (by decide +kernel)
set_option maxRecDepth 65536 in
theorem w_c1 : (Jvm.Cond.code ({ cls := "com/example/tarsier/tarsier/index/IntList", name := "<init>", desc := "()V" } : Jvm.MethodName) prog_13_method_1_code (1 : Nat) (Option.none : Option Jvm.ClassFile.FieldType)).before args0 about1 = true := code_word (m := ⟨2, 0⟩) (meth := k2m0) (c := k2c0) (by decide +kernel) rfl rfl rfl (by decide +kernel)
set_option maxRecDepth 65536 in
theorem w_c2 : (Jvm.Cond.code ({ cls := "java/lang/Object", name := "<init>", desc := "()V" } : Jvm.MethodName) object_method_1_code (1 : Nat) (Option.none : Option Jvm.ClassFile.FieldType)).before args0 about1 = true := code_word (m := ⟨0, 0⟩) (meth := k0m0) (c := k0c0) (by decide +kernel) rfl rfl rfl (by decide +kernel)
set_option maxRecDepth 65536 in
theorem w_c3 : (Jvm.Cond.code ({ cls := "com/example/tarsier/tarsier/index/IntListAddPinLaw", name := "addIf", desc := "(Lcom/example/tarsier/tarsier/index/IntList;IIIII)V" } : Jvm.MethodName) method_3_code (6 : Nat) (Option.none : Option Jvm.ClassFile.FieldType)).before args0 about1 = true := code_word (m := ⟨1, 2⟩) (meth := k1m2) (c := k1c2) (by decide +kernel) rfl rfl rfl (by decide +kernel)
set_option maxRecDepth 65536 in
theorem w_c4 : (Jvm.Cond.code ({ cls := "com/example/tarsier/tarsier/index/IntListAddPinLaw", name := "val", desc := "(IIII)I" } : Jvm.MethodName) method_2_code (4 : Nat) (Option.some Jvm.ClassFile.FieldType.int)).before args0 about1 = true := code_word (m := ⟨1, 1⟩) (meth := k1m1) (c := k1c1) (by decide +kernel) rfl rfl rfl (by decide +kernel)
set_option maxRecDepth 65536 in
theorem w_c5 : (Jvm.Cond.code ({ cls := "com/example/tarsier/tarsier/index/IntList", name := "add", desc := "(I)V" } : Jvm.MethodName) prog_13_method_2_code (2 : Nat) (Option.none : Option Jvm.ClassFile.FieldType)).before args0 about1 = true := code_word (m := ⟨2, 1⟩) (meth := k2m1) (c := k2c1) (by decide +kernel) rfl rfl rfl (by decide +kernel)
set_option maxRecDepth 65536 in
theorem w_c6 : (Jvm.Cond.code ({ cls := "com/example/tarsier/tarsier/index/IntList", name := "size", desc := "()I" } : Jvm.MethodName) prog_13_method_4_code (1 : Nat) (Option.some Jvm.ClassFile.FieldType.int)).before args0 about1 = true := code_word (m := ⟨2, 3⟩) (meth := k2m3) (c := k2c3) (by decide +kernel) rfl rfl rfl (by decide +kernel)
set_option maxRecDepth 65536 in
theorem w_c7 : (Jvm.Cond.code ({ cls := "com/example/tarsier/tarsier/index/IntList", name := "get", desc := "(I)I" } : Jvm.MethodName) prog_13_method_3_code (2 : Nat) (Option.some Jvm.ClassFile.FieldType.int)).before args0 about1 = true := code_word (m := ⟨2, 2⟩) (meth := k2m2) (c := k2c2) (by decide +kernel) rfl rfl rfl (by decide +kernel)
set_option maxRecDepth 65536 in
theorem w_c8 : (Jvm.Cond.code ({ cls := "java/util/Arrays", name := "copyOf", desc := "([II)[I" } : Jvm.MethodName) jdk_65_method_123_code (3 : Nat) (Option.some (Jvm.ClassFile.FieldType.array Jvm.ClassFile.FieldType.int))).before args0 about1 = true := code_word (m := ⟨3, 1⟩) (meth := k3m1) (c := k3c1) (by decide +kernel) rfl rfl rfl (by decide +kernel)
set_option maxRecDepth 65536 in
theorem w_c9 : (Jvm.Cond.code ({ cls := "java/lang/Math", name := "min", desc := "(II)I" } : Jvm.MethodName) jdk_29_method_69_code (2 : Nat) (Option.some Jvm.ClassFile.FieldType.int)).before args0 about1 = true := code_word (m := ⟨4, 1⟩) (meth := k4m1) (c := k4c1) (by decide +kernel) rfl rfl rfl (by decide +kernel)
def codes1 : List Jvm.Cond := [Jvm.Cond.code x code maxLocals ret, Jvm.Cond.code ({ cls := "com/example/tarsier/tarsier/index/IntList", name := "<init>", desc := "()V" } : Jvm.MethodName) prog_13_method_1_code (1 : Nat) (Option.none : Option Jvm.ClassFile.FieldType), Jvm.Cond.code ({ cls := "java/lang/Object", name := "<init>", desc := "()V" } : Jvm.MethodName) object_method_1_code (1 : Nat) (Option.none : Option Jvm.ClassFile.FieldType), Jvm.Cond.code ({ cls := "com/example/tarsier/tarsier/index/IntListAddPinLaw", name := "addIf", desc := "(Lcom/example/tarsier/tarsier/index/IntList;IIIII)V" } : Jvm.MethodName) method_3_code (6 : Nat) (Option.none : Option Jvm.ClassFile.FieldType), Jvm.Cond.code ({ cls := "com/example/tarsier/tarsier/index/IntListAddPinLaw", name := "val", desc := "(IIII)I" } : Jvm.MethodName) method_2_code (4 : Nat) (Option.some Jvm.ClassFile.FieldType.int), Jvm.Cond.code ({ cls := "com/example/tarsier/tarsier/index/IntList", name := "add", desc := "(I)V" } : Jvm.MethodName) prog_13_method_2_code (2 : Nat) (Option.none : Option Jvm.ClassFile.FieldType), Jvm.Cond.code ({ cls := "com/example/tarsier/tarsier/index/IntList", name := "size", desc := "()I" } : Jvm.MethodName) prog_13_method_4_code (1 : Nat) (Option.some Jvm.ClassFile.FieldType.int), Jvm.Cond.code ({ cls := "com/example/tarsier/tarsier/index/IntList", name := "get", desc := "(I)I" } : Jvm.MethodName) prog_13_method_3_code (2 : Nat) (Option.some Jvm.ClassFile.FieldType.int), Jvm.Cond.code ({ cls := "java/util/Arrays", name := "copyOf", desc := "([II)[I" } : Jvm.MethodName) jdk_65_method_123_code (3 : Nat) (Option.some (Jvm.ClassFile.FieldType.array Jvm.ClassFile.FieldType.int)), Jvm.Cond.code ({ cls := "java/lang/Math", name := "min", desc := "(II)I" } : Jvm.MethodName) jdk_29_method_69_code (2 : Nat) (Option.some Jvm.ClassFile.FieldType.int)]
set_option maxRecDepth 65536 in
theorem codes_eq : words1.filter isCode = codes1 := rfl
theorem w_codes : ∀ c ∈ words1.filter isCode, c.before args0 about1 = true := by
  rw [codes_eq]
  intro c hc
  simp only [codes1, List.mem_cons, List.not_mem_nil, or_false] at hc
  rcases hc with rfl | rfl | rfl | rfl | rfl | rfl | rfl | rfl | rfl | rfl
  · exact w_c0
  · exact w_c1
  · exact w_c2
  · exact w_c3
  · exact w_c4
  · exact w_c5
  · exact w_c6
  · exact w_c7
  · exact w_c8
  · exact w_c9
set_option maxRecDepth 65536 in
theorem w_t1 : (words1.take 24).all (fun c => isCode c || c.before args0 about1) = true := by decide +kernel
set_option maxRecDepth 65536 in
theorem w_t2 : ((words1.drop 24).take 24).all (fun c => isCode c || c.before args0 about1) = true := by decide +kernel
set_option maxRecDepth 65536 in
theorem w_t3 : ((words1.drop 24).drop 24).all (fun c => isCode c || c.before args0 about1) = true := by decide +kernel
theorem w_tables : (allAtoms (Jvm.Cond.code x code maxLocals ret :: tables_1)).before args0 about1 = true := by
  rw [allAtoms_all]
  show words1.all (fun c => c.before args0 about1) = true
  refine all_split ?_ w_codes
  rw [← List.take_append_drop 24 words1, List.all_append, w_t1, ← List.take_append_drop 24 (words1.drop 24), List.all_append, w_t2, w_t3]
  rfl
set_option maxRecDepth 65536 in
theorem w_case : (Jvm.Cond.and given_1 narrow_1).before args0 about1 = true := by decide +kernel
theorem w_applies : (headSpec (Jvm.Cond.code x code maxLocals ret :: tables_1) room_1).applies x e0.platform about1 = true :=
  (Spec.applies_iff w_frames).mpr ⟨w_running, w_runnable, w_alone, w_named, w_hears, w_ripe, w_room, w_tables⟩
theorem atStart : AtStart classFile x code maxLocals ret World_1 tables_1 room_1 Calls_1 rest_1 Pre_1 launch0 p0 e0 about1 theMethod args0 below0 :=
  ⟨lists_1, trivial, launch0.admits_env _ _ _, launch0.least_env, fairChoices_fair.cas, fairChoices_fair.clock, w_frames, w_args, w_heap, w_applies, trivial, trivial, w_case⟩
end start1
theorem witness_1 : WitnessClaimed_1 := ⟨start1.p0, start1.e0, start1.about1, start1.theMethod, start1.args0, start1.below0, start1.atStart⟩
end Jvm.Pilot.@@N@@
