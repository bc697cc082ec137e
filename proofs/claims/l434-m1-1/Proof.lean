import JvmDerived
import JvmDerived.Pilot.@@N@@Statement
import JvmDerived.Pilot.@@N@@Code
set_option linter.unusedVariables false
set_option linter.unusedSimpArgs false
namespace Jvm.Pilot.@@N@@
open Jvm Jvm.ClassFile Sem Op Lib Jvm.Free Jvm.Stand Jvm.LawKit Jvm.RoadKit Bundle Jvm.Pilot.@@N@@.Jvm.D
section Own
variable {p : Program} {l : Launch} {e : Env} {R : Room} {s : State} {m : MethodId} {args : Array Value} {below : List Frame} {meth : Method} {c : Code} {T : State} {locs : List Loc} {cells slots : Nat}
/-- from u the walk comes to its return, with what Q says of value, heap and the places written -/
def Ends (p : Program) (e : Env) (below : List Frame) (s : State) (Q : Option Value → Heap → List Loc → Prop) (kc ks : Nat) (u : State) : Prop :=
  ∃ s₂ o, Steps p.tables e below u s₂ ∧ s₂.status = .running ∧ Ended s₂ below o ∧ ∃ v L, o = .returned v ∧ Q v s₂.heap L ∧ FrameEnd s o s₂ L kc ks
variable {Q : Option Value → Heap → List Loc → Prop} {kc ks : Nat} {u u' : State}
theorem Ends.by (k : Ends p e below s Q kc ks u') (h : ∀ t, Steps p.tables e below u' t → Steps p.tables e below u t) : Ends p e below s Q kc ks u := by
  obtain ⟨s₂, o, h1, r⟩ := k
  exact ⟨s₂, o, h _ h1, r⟩
theorem Ends.go (h : Steps p.tables e below u u') (k : Ends p e below s Q kc ks u') : Ends p e below s Q kc ks u := k.by fun _ q => h.trans q
theorem Ends.retN (X : Stand p l e R s m args below meth c T locs cells slots) (hx : p.tables.exec = Jvm.exec) (hlk : meth.locks = false) {t : FieldType} (hret : meth.sig.returnType = some t) (ht : t = .boolean ∨ t = .byte ∨ t = .char ∨ t = .short) {pc : Nat} {Ls : Array Slot} {z w : Int32} {rest : List Value}
    (hd : decode c.code pc = .ok (.ireturn, 1)) (hz : nar t z = w) (hQ : Q (some (.int w)) T.heap locs) (hc : cells ≤ kc) (hs : slots ≤ ks) : Ends p e below s Q kc ks (T.setTop (mkF m pc Ls (.int z :: rest))) := by
  subst hz
  obtain ⟨fs, hr, hrun, hended, hW, hsame⟩ := X.leave (v := some (.int (nar t z))) (fun h => by rw [hret] at h; cases h) hlk
  exact ⟨_, _, Jvm.RoadKit.retN X hx hret ht hd hr, hrun, hended, _, _, rfl, hQ, ⟨_, rfl⟩, hW, hsame.mono hc hs⟩
theorem Ends.retI (X : Stand p l e R s m args below meth c T locs cells slots) (hx : p.tables.exec = Jvm.exec) (hlk : meth.locks = false) (hret : meth.sig.returnType = some .int) {pc : Nat} {Ls : Array Slot} {z : Int32} {rest : List Value}
    (hd : decode c.code pc = .ok (.ireturn, 1)) (hQ : Q (some (.int z)) T.heap locs) (hc : cells ≤ kc) (hs : slots ≤ ks) : Ends p e below s Q kc ks (T.setTop (mkF m pc Ls (.int z :: rest))) := by
  obtain ⟨fs, hr, hrun, hended, hW, hsame⟩ := X.leave (v := some (.int z)) (fun h => by rw [hret] at h; cases h) hlk
  exact ⟨_, _, Jvm.RoadKit.retOut X hx hret rfl (Or.inl ⟨rfl, by simp, z, rfl⟩) hd hr, hrun, hended, _, _, rfl, hQ, ⟨_, rfl⟩, hW, hsame.mono hc hs⟩
theorem Ends.retJ (X : Stand p l e R s m args below meth c T locs cells slots) (hx : p.tables.exec = Jvm.exec) (hlk : meth.locks = false) (hret : meth.sig.returnType = some .long) {pc : Nat} {Ls : Array Slot} {z : Int64} {rest : List Value}
    (hd : decode c.code pc = .ok (.lreturn, 1)) (hQ : Q (some (.long z)) T.heap locs) (hc : cells ≤ kc) (hs : slots ≤ ks) : Ends p e below s Q kc ks (T.setTop (mkF m pc Ls (.long z :: rest))) := by
  obtain ⟨fs, hr, hrun, hended, hW, hsame⟩ := X.leave (v := some (.long z)) (fun h => by rw [hret] at h; cases h) hlk
  exact ⟨_, _, Jvm.RoadKit.retOut X hx hret rfl (Or.inr (Or.inl ⟨rfl, rfl, z, rfl⟩)) hd hr, hrun, hended, _, _, rfl, hQ, ⟨_, rfl⟩, hW, hsame.mono hc hs⟩
theorem Ends.retA (X : Stand p l e R s m args below meth c T locs cells slots) (hx : p.tables.exec = Jvm.exec) (hlk : meth.locks = false) {t : FieldType} (hret : meth.sig.returnType = some t) (ht : t.isReference = true) (hn : ∀ a, narrow t (.ref a) = .ref a) {pc : Nat} {Ls : Array Slot} {a : Addr} {rest : List Value}
    (hd : decode c.code pc = .ok (.areturn, 1)) (hQ : Q (some (.ref a)) T.heap locs) (hc : cells ≤ kc) (hs : slots ≤ ks) : Ends p e below s Q kc ks (T.setTop (mkF m pc Ls (.ref a :: rest))) := by
  obtain ⟨fs, hr, hrun, hended, hW, hsame⟩ := X.leave (v := some (.ref a)) (fun h => by rw [hret] at h; cases h) hlk
  exact ⟨_, _, Jvm.RoadKit.retOut X hx hret (hn a) (Or.inr (Or.inr (Or.inr (Or.inr ⟨rfl, ht, rfl⟩)))) hd hr, hrun, hended, _, _, rfl, hQ, ⟨_, rfl⟩, hW, hsame.mono hc hs⟩
theorem Ends.retV (X : Stand p l e R s m args below meth c T locs cells slots) (hx : p.tables.exec = Jvm.exec) (hlk : meth.locks = false) (hret : meth.sig.returnType = none) {pc : Nat} {Ls : Array Slot}
    (hd : decode c.code pc = .ok (.return_, 1)) (hQ : Q none T.heap locs) (hc : cells ≤ kc) (hs : slots ≤ ks) : Ends p e below s Q kc ks (T.setTop (mkF m pc Ls [])) := by
  obtain ⟨fs, hr, hrun, hended, hW, hsame⟩ := X.leave (v := none) (fun _ => rfl) hlk
  exact ⟨_, _, X.returnOut hx hret hd hr, hrun, hended, _, _, rfl, hQ, ⟨_, rfl⟩, hW, hsame.mono hc hs⟩
theorem lremM {g : JFrame} {target : State} (X : Stand p l e R s m args below meth c T locs cells slots) (hx : p.tables.exec = Jvm.exec) (hg : g.method = m) {x y : Int64} {rest : List Value} (hd : decode c.code g.pc = .ok (.lrem, 1)) (hs : g.stack = .long y :: .long x :: rest) (hy : y ≠ 0)
    (hr : Steps p.tables e below (T.setTop { g with pc := g.pc + 1, stack := .long (x % y) :: rest }) target) : Steps p.tables e below (T.setTop g) target :=
  XS.lrem X.here hx hg hd hs hy (by rw [lrem_mod x y]; exact hr)
/-- a method that writes nothing: what it returns, the heap as it was -/
def QP (V : Option Value) (h0 : Heap) (n0 : Nat) (v : Option Value) (h : Heap) (L : List Loc) : Prop := v = V ∧ Fr n0 L ∧ h = h0
/-- a law: it returns 1; nothing old is written -/
def QL (n0 : Nat) (v : Option Value) (_ : Heap) (L : List Loc) : Prop := v = some (.int 1) ∧ Fr n0 L
end Own
section OwnSteps
variable {p : Program} {l : Launch} {e : Env} {R : Room} {s : State} {m : MethodId} {args : Array Value} {below : List Frame} {meth : Method} {c : Code} {T : State} {locs : List Loc} {cells slots : Nat} {Q : Option Value → Heap → List Loc → Prop} {kc ks : Nat} {pc : Nat} {Ls : Array Slot} {S : List Value}
theorem Es.iload {i : Nat} {v : Int32} {q : Nat} (k : Ends p e below s Q kc ks (T.setTop (mkF m q Ls (.int v :: S)))) (X : Stand p l e R s m args below meth c T locs cells slots) (hx : p.tables.exec = Jvm.exec) (hd : decode c.code pc = .ok (.iload i, 2)) (hq : pc + 2 = q) (hl : Ls[i]? = some (.val (.int v))) : Ends p e below s Q kc ks (T.setTop (mkF m pc Ls S)) := by
  subst hq
  exact k.by fun _ r => XS.iload X.here hx rfl hd hl r
theorem Es.iloadN {i : Fin 4} {v : Int32} {q : Nat} (k : Ends p e below s Q kc ks (T.setTop (mkF m q Ls (.int v :: S)))) (X : Stand p l e R s m args below meth c T locs cells slots) (hx : p.tables.exec = Jvm.exec) (hd : decode c.code pc = .ok (.iload_n i, 1)) (hq : pc + 1 = q) (hl : Ls[i.val]? = some (.val (.int v))) : Ends p e below s Q kc ks (T.setTop (mkF m pc Ls S)) := by
  subst hq
  exact k.by fun _ r => XS.iloadN X.here hx rfl hd hl r
theorem Es.istore {i : Nat} {x : Int32} {l' : Array Slot} {q : Nat} (k : Ends p e below s Q kc ks (T.setTop (mkF m q l' S))) (X : Stand p l e R s m args below meth c T locs cells slots) (hx : p.tables.exec = Jvm.exec) (hd : decode c.code pc = .ok (.istore i, 2)) (hq : pc + 2 = q) (hl : storeLocals Ls i (.int x) = some l') : Ends p e below s Q kc ks (T.setTop (mkF m pc Ls (.int x :: S))) := by
  subst hq
  exact k.by fun _ r => XS.istore X.here hx rfl hd rfl hl r
theorem Es.istoreN {i : Fin 4} {x : Int32} {l' : Array Slot} {q : Nat} (k : Ends p e below s Q kc ks (T.setTop (mkF m q l' S))) (X : Stand p l e R s m args below meth c T locs cells slots) (hx : p.tables.exec = Jvm.exec) (hd : decode c.code pc = .ok (.istore_n i, 1)) (hq : pc + 1 = q) (hl : storeLocals Ls i.val (.int x) = some l') : Ends p e below s Q kc ks (T.setTop (mkF m pc Ls (.int x :: S))) := by
  subst hq
  exact k.by fun _ r => XS.istoreN X.here hx rfl hd rfl hl r
theorem Es.lload {i : Nat} {v : Int64} {q : Nat} (k : Ends p e below s Q kc ks (T.setTop (mkF m q Ls (.long v :: S)))) (X : Stand p l e R s m args below meth c T locs cells slots) (hx : p.tables.exec = Jvm.exec) (hd : decode c.code pc = .ok (.lload i, 2)) (hq : pc + 2 = q) (hl : Ls[i]? = some (.val (.long v))) : Ends p e below s Q kc ks (T.setTop (mkF m pc Ls S)) := by
  subst hq
  exact k.by fun _ r => XS.lload X.here hx rfl hd hl r
theorem Es.lloadN {i : Fin 4} {v : Int64} {q : Nat} (k : Ends p e below s Q kc ks (T.setTop (mkF m q Ls (.long v :: S)))) (X : Stand p l e R s m args below meth c T locs cells slots) (hx : p.tables.exec = Jvm.exec) (hd : decode c.code pc = .ok (.lload_n i, 1)) (hq : pc + 1 = q) (hl : Ls[i.val]? = some (.val (.long v))) : Ends p e below s Q kc ks (T.setTop (mkF m pc Ls S)) := by
  subst hq
  exact k.by fun _ r => XS.lloadN X.here hx rfl hd hl r
theorem Es.lstore {i : Nat} {x : Int64} {l' : Array Slot} {q : Nat} (k : Ends p e below s Q kc ks (T.setTop (mkF m q l' S))) (X : Stand p l e R s m args below meth c T locs cells slots) (hx : p.tables.exec = Jvm.exec) (hd : decode c.code pc = .ok (.lstore i, 2)) (hq : pc + 2 = q) (hl : storeLocals Ls i (.long x) = some l') : Ends p e below s Q kc ks (T.setTop (mkF m pc Ls (.long x :: S))) := by
  subst hq
  exact k.by fun _ r => XS.lstore X.here hx rfl hd rfl hl r
theorem Es.lstoreN {i : Fin 4} {x : Int64} {l' : Array Slot} {q : Nat} (k : Ends p e below s Q kc ks (T.setTop (mkF m q l' S))) (X : Stand p l e R s m args below meth c T locs cells slots) (hx : p.tables.exec = Jvm.exec) (hd : decode c.code pc = .ok (.lstore_n i, 1)) (hq : pc + 1 = q) (hl : storeLocals Ls i.val (.long x) = some l') : Ends p e below s Q kc ks (T.setTop (mkF m pc Ls (.long x :: S))) := by
  subst hq
  exact k.by fun _ r => XS.lstoreN X.here hx rfl hd rfl hl r
theorem Es.dload {i : Nat} {v : UInt64} {q : Nat} (k : Ends p e below s Q kc ks (T.setTop (mkF m q Ls (.double v :: S)))) (X : Stand p l e R s m args below meth c T locs cells slots) (hx : p.tables.exec = Jvm.exec) (hd : decode c.code pc = .ok (.dload i, 2)) (hq : pc + 2 = q) (hl : Ls[i]? = some (.val (.double v))) : Ends p e below s Q kc ks (T.setTop (mkF m pc Ls S)) := by
  subst hq
  exact k.by fun _ r => XS.dload X.here hx rfl hd hl r
theorem Es.dloadN {i : Fin 4} {v : UInt64} {q : Nat} (k : Ends p e below s Q kc ks (T.setTop (mkF m q Ls (.double v :: S)))) (X : Stand p l e R s m args below meth c T locs cells slots) (hx : p.tables.exec = Jvm.exec) (hd : decode c.code pc = .ok (.dload_n i, 1)) (hq : pc + 1 = q) (hl : Ls[i.val]? = some (.val (.double v))) : Ends p e below s Q kc ks (T.setTop (mkF m pc Ls S)) := by
  subst hq
  exact k.by fun _ r => XS.dloadN X.here hx rfl hd hl r
theorem Es.dstore {i : Nat} {x : UInt64} {l' : Array Slot} {q : Nat} (k : Ends p e below s Q kc ks (T.setTop (mkF m q l' S))) (X : Stand p l e R s m args below meth c T locs cells slots) (hx : p.tables.exec = Jvm.exec) (hd : decode c.code pc = .ok (.dstore i, 2)) (hq : pc + 2 = q) (hl : storeLocals Ls i (.double x) = some l') : Ends p e below s Q kc ks (T.setTop (mkF m pc Ls (.double x :: S))) := by
  subst hq
  exact k.by fun _ r => XS.dstore X.here hx rfl hd rfl hl r
theorem Es.dstoreN {i : Fin 4} {x : UInt64} {l' : Array Slot} {q : Nat} (k : Ends p e below s Q kc ks (T.setTop (mkF m q l' S))) (X : Stand p l e R s m args below meth c T locs cells slots) (hx : p.tables.exec = Jvm.exec) (hd : decode c.code pc = .ok (.dstore_n i, 1)) (hq : pc + 1 = q) (hl : storeLocals Ls i.val (.double x) = some l') : Ends p e below s Q kc ks (T.setTop (mkF m pc Ls (.double x :: S))) := by
  subst hq
  exact k.by fun _ r => XS.dstoreN X.here hx rfl hd rfl hl r
theorem Es.aload {i : Nat} {v : Value} {q : Nat} (k : Ends p e below s Q kc ks (T.setTop (mkF m q Ls (v :: S)))) (X : Stand p l e R s m args below meth c T locs cells slots) (hx : p.tables.exec = Jvm.exec) (hd : decode c.code pc = .ok (.aload i, 2)) (hq : pc + 2 = q) (hl : Ls[i]? = some (.val v)) (hv : v.isRef = true) : Ends p e below s Q kc ks (T.setTop (mkF m pc Ls S)) := by
  subst hq
  exact k.by fun _ r => XS.aload X.here hx rfl hd hl hv r
theorem Es.aloadN {i : Fin 4} {v : Value} {q : Nat} (k : Ends p e below s Q kc ks (T.setTop (mkF m q Ls (v :: S)))) (X : Stand p l e R s m args below meth c T locs cells slots) (hx : p.tables.exec = Jvm.exec) (hd : decode c.code pc = .ok (.aload_n i, 1)) (hq : pc + 1 = q) (hl : Ls[i.val]? = some (.val v)) (hv : v.isRef = true) : Ends p e below s Q kc ks (T.setTop (mkF m pc Ls S)) := by
  subst hq
  exact k.by fun _ r => XS.aloadN X.here hx rfl hd hl hv r
theorem Es.astore {i : Nat} {x : Value} {l' : Array Slot} {q : Nat} (k : Ends p e below s Q kc ks (T.setTop (mkF m q l' S))) (X : Stand p l e R s m args below meth c T locs cells slots) (hx : p.tables.exec = Jvm.exec) (hd : decode c.code pc = .ok (.astore i, 2)) (hq : pc + 2 = q) (hv : x.isRef = true) (hl : storeLocals Ls i x = some l') : Ends p e below s Q kc ks (T.setTop (mkF m pc Ls (x :: S))) := by
  subst hq
  exact k.by fun _ r => XS.astore X.here hx rfl hd rfl hv hl r
theorem Es.astoreN {i : Fin 4} {x : Value} {l' : Array Slot} {q : Nat} (k : Ends p e below s Q kc ks (T.setTop (mkF m q l' S))) (X : Stand p l e R s m args below meth c T locs cells slots) (hx : p.tables.exec = Jvm.exec) (hd : decode c.code pc = .ok (.astore_n i, 1)) (hq : pc + 1 = q) (hv : x.isRef = true) (hl : storeLocals Ls i.val x = some l') : Ends p e below s Q kc ks (T.setTop (mkF m pc Ls (x :: S))) := by
  subst hq
  exact k.by fun _ r => XS.astoreN X.here hx rfl hd rfl hv hl r
theorem Es.iconst {i : Int} {z : Int32} {q : Nat} (k : Ends p e below s Q kc ks (T.setTop (mkF m q Ls (.int z :: S)))) (X : Stand p l e R s m args below meth c T locs cells slots) (hx : p.tables.exec = Jvm.exec) (hd : decode c.code pc = .ok (.iconst i, 1)) (hq : pc + 1 = q) (hz : Int32.ofInt i = z) : Ends p e below s Q kc ks (T.setTop (mkF m pc Ls S)) := by
  subst hq
  subst hz
  exact k.by fun _ r => XS.iconst X.here hx rfl hd r
theorem Es.bipush {i : Int} {z : Int32} {q : Nat} (k : Ends p e below s Q kc ks (T.setTop (mkF m q Ls (.int z :: S)))) (X : Stand p l e R s m args below meth c T locs cells slots) (hx : p.tables.exec = Jvm.exec) (hd : decode c.code pc = .ok (.bipush i, 2)) (hq : pc + 2 = q) (hz : (Int8.ofInt i).toInt32 = z) : Ends p e below s Q kc ks (T.setTop (mkF m pc Ls S)) := by
  subst hq
  subst hz
  exact k.by fun _ r => XS.bipush X.here hx rfl hd r
theorem Es.sipush {i : Int} {z : Int32} {q : Nat} (k : Ends p e below s Q kc ks (T.setTop (mkF m q Ls (.int z :: S)))) (X : Stand p l e R s m args below meth c T locs cells slots) (hx : p.tables.exec = Jvm.exec) (hd : decode c.code pc = .ok (.sipush i, 3)) (hq : pc + 3 = q) (hz : (Int16.ofInt i).toInt32 = z) : Ends p e below s Q kc ks (T.setTop (mkF m pc Ls S)) := by
  subst hq
  subst hz
  exact k.by fun _ r => XS.sipush X.here hx rfl hd r
theorem Es.lconst {i : Fin 2} {z : Int64} {q : Nat} (k : Ends p e below s Q kc ks (T.setTop (mkF m q Ls (.long z :: S)))) (X : Stand p l e R s m args below meth c T locs cells slots) (hx : p.tables.exec = Jvm.exec) (hd : decode c.code pc = .ok (.lconst i, 1)) (hq : pc + 1 = q) (hz : Int64.ofNat i = z) : Ends p e below s Q kc ks (T.setTop (mkF m pc Ls S)) := by
  subst hq
  subst hz
  exact k.by fun _ r => XS.lconst X.here hx rfl hd r
theorem Es.aconst_null  {q : Nat} (k : Ends p e below s Q kc ks (T.setTop (mkF m q Ls (.null :: S)))) (X : Stand p l e R s m args below meth c T locs cells slots) (hx : p.tables.exec = Jvm.exec) (hd : decode c.code pc = .ok (.aconst_null, 1)) (hq : pc + 1 = q) : Ends p e below s Q kc ks (T.setTop (mkF m pc Ls S)) := by
  subst hq
  exact k.by fun _ r => XS.aconstNull X.here hx rfl hd r
theorem Es.iadd {x y : Int32} {q : Nat} (k : Ends p e below s Q kc ks (T.setTop (mkF m q Ls (.int (x + y) :: S)))) (X : Stand p l e R s m args below meth c T locs cells slots) (hx : p.tables.exec = Jvm.exec) (hd : decode c.code pc = .ok (.iadd, 1)) (hq : pc + 1 = q) : Ends p e below s Q kc ks (T.setTop (mkF m pc Ls (.int y :: .int x :: S))) := by
  subst hq
  exact k.by fun _ r => XS.iadd X.here hx rfl hd rfl r
theorem Es.ladd {x y : Int64} {q : Nat} (k : Ends p e below s Q kc ks (T.setTop (mkF m q Ls (.long (x + y) :: S)))) (X : Stand p l e R s m args below meth c T locs cells slots) (hx : p.tables.exec = Jvm.exec) (hd : decode c.code pc = .ok (.ladd, 1)) (hq : pc + 1 = q) : Ends p e below s Q kc ks (T.setTop (mkF m pc Ls (.long y :: .long x :: S))) := by
  subst hq
  exact k.by fun _ r => XS.ladd X.here hx rfl hd rfl r
theorem Es.isub {x y : Int32} {q : Nat} (k : Ends p e below s Q kc ks (T.setTop (mkF m q Ls (.int (x - y) :: S)))) (X : Stand p l e R s m args below meth c T locs cells slots) (hx : p.tables.exec = Jvm.exec) (hd : decode c.code pc = .ok (.isub, 1)) (hq : pc + 1 = q) : Ends p e below s Q kc ks (T.setTop (mkF m pc Ls (.int y :: .int x :: S))) := by
  subst hq
  exact k.by fun _ r => XS.isub X.here hx rfl hd rfl r
theorem Es.lsub {x y : Int64} {q : Nat} (k : Ends p e below s Q kc ks (T.setTop (mkF m q Ls (.long (x - y) :: S)))) (X : Stand p l e R s m args below meth c T locs cells slots) (hx : p.tables.exec = Jvm.exec) (hd : decode c.code pc = .ok (.lsub, 1)) (hq : pc + 1 = q) : Ends p e below s Q kc ks (T.setTop (mkF m pc Ls (.long y :: .long x :: S))) := by
  subst hq
  exact k.by fun _ r => XS.lsub X.here hx rfl hd rfl r
theorem Es.imul {x y : Int32} {q : Nat} (k : Ends p e below s Q kc ks (T.setTop (mkF m q Ls (.int (x * y) :: S)))) (X : Stand p l e R s m args below meth c T locs cells slots) (hx : p.tables.exec = Jvm.exec) (hd : decode c.code pc = .ok (.imul, 1)) (hq : pc + 1 = q) : Ends p e below s Q kc ks (T.setTop (mkF m pc Ls (.int y :: .int x :: S))) := by
  subst hq
  exact k.by fun _ r => XS.imul X.here hx rfl hd rfl r
theorem Es.lmul {x y : Int64} {q : Nat} (k : Ends p e below s Q kc ks (T.setTop (mkF m q Ls (.long (x * y) :: S)))) (X : Stand p l e R s m args below meth c T locs cells slots) (hx : p.tables.exec = Jvm.exec) (hd : decode c.code pc = .ok (.lmul, 1)) (hq : pc + 1 = q) : Ends p e below s Q kc ks (T.setTop (mkF m pc Ls (.long y :: .long x :: S))) := by
  subst hq
  exact k.by fun _ r => XS.lmul X.here hx rfl hd rfl r
theorem Es.iand {x y : Int32} {q : Nat} (k : Ends p e below s Q kc ks (T.setTop (mkF m q Ls (.int (x &&& y) :: S)))) (X : Stand p l e R s m args below meth c T locs cells slots) (hx : p.tables.exec = Jvm.exec) (hd : decode c.code pc = .ok (.iand, 1)) (hq : pc + 1 = q) : Ends p e below s Q kc ks (T.setTop (mkF m pc Ls (.int y :: .int x :: S))) := by
  subst hq
  exact k.by fun _ r => XS.iand X.here hx rfl hd rfl r
theorem Es.land {x y : Int64} {q : Nat} (k : Ends p e below s Q kc ks (T.setTop (mkF m q Ls (.long (x &&& y) :: S)))) (X : Stand p l e R s m args below meth c T locs cells slots) (hx : p.tables.exec = Jvm.exec) (hd : decode c.code pc = .ok (.land, 1)) (hq : pc + 1 = q) : Ends p e below s Q kc ks (T.setTop (mkF m pc Ls (.long y :: .long x :: S))) := by
  subst hq
  exact k.by fun _ r => XS.land X.here hx rfl hd rfl r
theorem Es.ior {x y : Int32} {q : Nat} (k : Ends p e below s Q kc ks (T.setTop (mkF m q Ls (.int (x ||| y) :: S)))) (X : Stand p l e R s m args below meth c T locs cells slots) (hx : p.tables.exec = Jvm.exec) (hd : decode c.code pc = .ok (.ior, 1)) (hq : pc + 1 = q) : Ends p e below s Q kc ks (T.setTop (mkF m pc Ls (.int y :: .int x :: S))) := by
  subst hq
  exact k.by fun _ r => XS.ior X.here hx rfl hd rfl r
theorem Es.lor {x y : Int64} {q : Nat} (k : Ends p e below s Q kc ks (T.setTop (mkF m q Ls (.long (x ||| y) :: S)))) (X : Stand p l e R s m args below meth c T locs cells slots) (hx : p.tables.exec = Jvm.exec) (hd : decode c.code pc = .ok (.lor, 1)) (hq : pc + 1 = q) : Ends p e below s Q kc ks (T.setTop (mkF m pc Ls (.long y :: .long x :: S))) := by
  subst hq
  exact k.by fun _ r => XS.lor X.here hx rfl hd rfl r
theorem Es.ixor {x y : Int32} {q : Nat} (k : Ends p e below s Q kc ks (T.setTop (mkF m q Ls (.int (x ^^^ y) :: S)))) (X : Stand p l e R s m args below meth c T locs cells slots) (hx : p.tables.exec = Jvm.exec) (hd : decode c.code pc = .ok (.ixor, 1)) (hq : pc + 1 = q) : Ends p e below s Q kc ks (T.setTop (mkF m pc Ls (.int y :: .int x :: S))) := by
  subst hq
  exact k.by fun _ r => XS.ixor X.here hx rfl hd rfl r
theorem Es.lxor {x y : Int64} {q : Nat} (k : Ends p e below s Q kc ks (T.setTop (mkF m q Ls (.long (x ^^^ y) :: S)))) (X : Stand p l e R s m args below meth c T locs cells slots) (hx : p.tables.exec = Jvm.exec) (hd : decode c.code pc = .ok (.lxor, 1)) (hq : pc + 1 = q) : Ends p e below s Q kc ks (T.setTop (mkF m pc Ls (.long y :: .long x :: S))) := by
  subst hq
  exact k.by fun _ r => XS.lxor X.here hx rfl hd rfl r
theorem Es.ishl {x : Int32} {y : Int32} {q : Nat} (k : Ends p e below s Q kc ks (T.setTop (mkF m q Ls (.int (x <<< (y &&& 31)) :: S)))) (X : Stand p l e R s m args below meth c T locs cells slots) (hx : p.tables.exec = Jvm.exec) (hd : decode c.code pc = .ok (.ishl, 1)) (hq : pc + 1 = q) : Ends p e below s Q kc ks (T.setTop (mkF m pc Ls (.int y :: .int x :: S))) := by
  subst hq
  exact k.by fun _ r => XS.ishl X.here hx rfl hd rfl r
theorem Es.ishr {x : Int32} {y : Int32} {q : Nat} (k : Ends p e below s Q kc ks (T.setTop (mkF m q Ls (.int (x >>> (y &&& 31)) :: S)))) (X : Stand p l e R s m args below meth c T locs cells slots) (hx : p.tables.exec = Jvm.exec) (hd : decode c.code pc = .ok (.ishr, 1)) (hq : pc + 1 = q) : Ends p e below s Q kc ks (T.setTop (mkF m pc Ls (.int y :: .int x :: S))) := by
  subst hq
  exact k.by fun _ r => XS.ishr X.here hx rfl hd rfl r
theorem Es.iushr {x : Int32} {y : Int32} {q : Nat} (k : Ends p e below s Q kc ks (T.setTop (mkF m q Ls (.int ((x.toUInt32 >>> (y &&& 31).toUInt32).toInt32) :: S)))) (X : Stand p l e R s m args below meth c T locs cells slots) (hx : p.tables.exec = Jvm.exec) (hd : decode c.code pc = .ok (.iushr, 1)) (hq : pc + 1 = q) : Ends p e below s Q kc ks (T.setTop (mkF m pc Ls (.int y :: .int x :: S))) := by
  subst hq
  exact k.by fun _ r => XS.iushr X.here hx rfl hd rfl r
theorem Es.lshl {x : Int64} {y : Int32} {q : Nat} (k : Ends p e below s Q kc ks (T.setTop (mkF m q Ls (.long (x <<< (y &&& 0x3f).toInt64) :: S)))) (X : Stand p l e R s m args below meth c T locs cells slots) (hx : p.tables.exec = Jvm.exec) (hd : decode c.code pc = .ok (.lshl, 1)) (hq : pc + 1 = q) : Ends p e below s Q kc ks (T.setTop (mkF m pc Ls (.int y :: .long x :: S))) := by
  subst hq
  exact k.by fun _ r => XS.lshl X.here hx rfl hd rfl r
theorem Es.lshr {x : Int64} {y : Int32} {q : Nat} (k : Ends p e below s Q kc ks (T.setTop (mkF m q Ls (.long (x >>> (y &&& 0x3f).toInt64) :: S)))) (X : Stand p l e R s m args below meth c T locs cells slots) (hx : p.tables.exec = Jvm.exec) (hd : decode c.code pc = .ok (.lshr, 1)) (hq : pc + 1 = q) : Ends p e below s Q kc ks (T.setTop (mkF m pc Ls (.int y :: .long x :: S))) := by
  subst hq
  exact k.by fun _ r => XS.lshr X.here hx rfl hd rfl r
theorem Es.lushr {x : Int64} {y : Int32} {q : Nat} (k : Ends p e below s Q kc ks (T.setTop (mkF m q Ls (.long ((x.toUInt64 >>> (y &&& 0x3f).toInt64.toUInt64).toInt64) :: S)))) (X : Stand p l e R s m args below meth c T locs cells slots) (hx : p.tables.exec = Jvm.exec) (hd : decode c.code pc = .ok (.lushr, 1)) (hq : pc + 1 = q) : Ends p e below s Q kc ks (T.setTop (mkF m pc Ls (.int y :: .long x :: S))) := by
  subst hq
  exact k.by fun _ r => XS.lushr X.here hx rfl hd rfl r
theorem Es.ineg {x : Int32} {q : Nat} (k : Ends p e below s Q kc ks (T.setTop (mkF m q Ls (.int (-x) :: S)))) (X : Stand p l e R s m args below meth c T locs cells slots) (hx : p.tables.exec = Jvm.exec) (hd : decode c.code pc = .ok (.ineg, 1)) (hq : pc + 1 = q) : Ends p e below s Q kc ks (T.setTop (mkF m pc Ls (.int x :: S))) := by
  subst hq
  exact k.by fun _ r => XS.ineg X.here hx rfl hd rfl r
theorem Es.lneg {x : Int64} {q : Nat} (k : Ends p e below s Q kc ks (T.setTop (mkF m q Ls (.long (-x) :: S)))) (X : Stand p l e R s m args below meth c T locs cells slots) (hx : p.tables.exec = Jvm.exec) (hd : decode c.code pc = .ok (.lneg, 1)) (hq : pc + 1 = q) : Ends p e below s Q kc ks (T.setTop (mkF m pc Ls (.long x :: S))) := by
  subst hq
  exact k.by fun _ r => XS.lneg X.here hx rfl hd rfl r
theorem Es.i2l {x : Int32} {q : Nat} (k : Ends p e below s Q kc ks (T.setTop (mkF m q Ls (.long (x.toInt64) :: S)))) (X : Stand p l e R s m args below meth c T locs cells slots) (hx : p.tables.exec = Jvm.exec) (hd : decode c.code pc = .ok (.i2l, 1)) (hq : pc + 1 = q) : Ends p e below s Q kc ks (T.setTop (mkF m pc Ls (.int x :: S))) := by
  subst hq
  exact k.by fun _ r => XS.i2l X.here hx rfl hd rfl r
theorem Es.l2i {x : Int64} {q : Nat} (k : Ends p e below s Q kc ks (T.setTop (mkF m q Ls (.int (x.toInt32) :: S)))) (X : Stand p l e R s m args below meth c T locs cells slots) (hx : p.tables.exec = Jvm.exec) (hd : decode c.code pc = .ok (.l2i, 1)) (hq : pc + 1 = q) : Ends p e below s Q kc ks (T.setTop (mkF m pc Ls (.long x :: S))) := by
  subst hq
  exact k.by fun _ r => XS.l2i X.here hx rfl hd rfl r
theorem Es.i2b {x : Int32} {q : Nat} (k : Ends p e below s Q kc ks (T.setTop (mkF m q Ls (.int (x.toInt8.toInt32) :: S)))) (X : Stand p l e R s m args below meth c T locs cells slots) (hx : p.tables.exec = Jvm.exec) (hd : decode c.code pc = .ok (.i2b, 1)) (hq : pc + 1 = q) : Ends p e below s Q kc ks (T.setTop (mkF m pc Ls (.int x :: S))) := by
  subst hq
  exact k.by fun _ r => XS.i2b X.here hx rfl hd rfl r
theorem Es.i2s {x : Int32} {q : Nat} (k : Ends p e below s Q kc ks (T.setTop (mkF m q Ls (.int (x.toInt16.toInt32) :: S)))) (X : Stand p l e R s m args below meth c T locs cells slots) (hx : p.tables.exec = Jvm.exec) (hd : decode c.code pc = .ok (.i2s, 1)) (hq : pc + 1 = q) : Ends p e below s Q kc ks (T.setTop (mkF m pc Ls (.int x :: S))) := by
  subst hq
  exact k.by fun _ r => XS.i2s X.here hx rfl hd rfl r
theorem Es.i2c {x : Int32} {q : Nat} (k : Ends p e below s Q kc ks (T.setTop (mkF m q Ls (.int (x.toUInt32.toUInt16.toUInt32.toInt32) :: S)))) (X : Stand p l e R s m args below meth c T locs cells slots) (hx : p.tables.exec = Jvm.exec) (hd : decode c.code pc = .ok (.i2c, 1)) (hq : pc + 1 = q) : Ends p e below s Q kc ks (T.setTop (mkF m pc Ls (.int x :: S))) := by
  subst hq
  exact k.by fun _ r => XS.i2c X.here hx rfl hd rfl r
theorem Es.lcmp {x y : Int64} {q : Nat} (k : Ends p e below s Q kc ks (T.setTop (mkF m q Ls (.int (XT.cmpL x y) :: S)))) (X : Stand p l e R s m args below meth c T locs cells slots) (hx : p.tables.exec = Jvm.exec) (hd : decode c.code pc = .ok (.lcmp, 1)) (hq : pc + 1 = q) : Ends p e below s Q kc ks (T.setTop (mkF m pc Ls (.long y :: .long x :: S))) := by
  subst hq
  exact k.by fun _ r => XS.lcmp X.here hx rfl hd rfl r
theorem Es.idiv {x y : Int32} {q : Nat} (k : Ends p e below s Q kc ks (T.setTop (mkF m q Ls (.int (x / y) :: S)))) (X : Stand p l e R s m args below meth c T locs cells slots) (hx : p.tables.exec = Jvm.exec) (hd : decode c.code pc = .ok (.idiv, 1)) (hq : pc + 1 = q) (hy : y ≠ 0) : Ends p e below s Q kc ks (T.setTop (mkF m pc Ls (.int y :: .int x :: S))) := by
  subst hq
  exact k.by fun _ r => XS.idiv X.here hx rfl hd rfl hy r
theorem Es.ldiv {x y : Int64} {q : Nat} (k : Ends p e below s Q kc ks (T.setTop (mkF m q Ls (.long (x / y) :: S)))) (X : Stand p l e R s m args below meth c T locs cells slots) (hx : p.tables.exec = Jvm.exec) (hd : decode c.code pc = .ok (.ldiv, 1)) (hq : pc + 1 = q) (hy : y ≠ 0) : Ends p e below s Q kc ks (T.setTop (mkF m pc Ls (.long y :: .long x :: S))) := by
  subst hq
  exact k.by fun _ r => XS.ldiv X.here hx rfl hd rfl hy r
theorem Es.dup {x : Value} {q : Nat} (k : Ends p e below s Q kc ks (T.setTop (mkF m q Ls (x :: x :: S)))) (X : Stand p l e R s m args below meth c T locs cells slots) (hx : p.tables.exec = Jvm.exec) (hd : decode c.code pc = .ok (.dup, 1)) (hq : pc + 1 = q) (hc : x.category = 1) : Ends p e below s Q kc ks (T.setTop (mkF m pc Ls (x :: S))) := by
  subst hq
  exact k.by fun _ r => XS.dup X.here hx rfl hd rfl hc r
theorem Es.dup_x1 {x y : Value} {q : Nat} (k : Ends p e below s Q kc ks (T.setTop (mkF m q Ls (x :: y :: x :: S)))) (X : Stand p l e R s m args below meth c T locs cells slots) (hx : p.tables.exec = Jvm.exec) (hd : decode c.code pc = .ok (.dup_x1, 1)) (hq : pc + 1 = q) (hc : x.category = 1) (hc2 : y.category = 1) : Ends p e below s Q kc ks (T.setTop (mkF m pc Ls (x :: y :: S))) := by
  subst hq
  exact k.by fun _ r => XS.dupX1 X.here hx rfl hd rfl hc hc2 r
theorem Es.pop {x : Value} {q : Nat} (k : Ends p e below s Q kc ks (T.setTop (mkF m q Ls S))) (X : Stand p l e R s m args below meth c T locs cells slots) (hx : p.tables.exec = Jvm.exec) (hd : decode c.code pc = .ok (.pop, 1)) (hq : pc + 1 = q) (hc : x.category = 1) : Ends p e below s Q kc ks (T.setTop (mkF m pc Ls (x :: S))) := by
  subst hq
  exact k.by fun _ r => XS.pop X.here hx rfl hd rfl hc r
theorem Es.iinc {i : Nat} {cst : Int} {x : Int32} {l' : Array Slot} {q : Nat} (k : Ends p e below s Q kc ks (T.setTop (mkF m q l' S))) (X : Stand p l e R s m args below meth c T locs cells slots) (hx : p.tables.exec = Jvm.exec) (hd : decode c.code pc = .ok (.iinc i cst, 3)) (hq : pc + 3 = q) (hl : Ls[i]? = some (.val (.int x))) (hl' : storeLocals Ls i (.int (x + Int32.ofInt cst)) = some l') : Ends p e below s Q kc ks (T.setTop (mkF m pc Ls S)) := by
  subst hq
  exact k.by fun _ r => XS.iinc X.here hx rfl hd hl hl' r
theorem Es.ifNo {cd : ClassFile.Cond} {o : Int} {x : Int32} {q : Nat} (k : Ends p e below s Q kc ks (T.setTop (mkF m q Ls S))) (X : Stand p l e R s m args below meth c T locs cells slots) (hx : p.tables.exec = Jvm.exec) (hd : decode c.code pc = .ok (.ifCond cd o, 3)) (hq : pc + 3 = q) (hc : ifCond.holds cd x = false) : Ends p e below s Q kc ks (T.setTop (mkF m pc Ls (.int x :: S))) := by
  subst hq
  exact k.by fun _ r => XS.ifNo X.here hx rfl hd rfl hc r
theorem Es.icmpNo {cd : ClassFile.Cond} {o : Int} {x y : Int32} {q : Nat} (k : Ends p e below s Q kc ks (T.setTop (mkF m q Ls S))) (X : Stand p l e R s m args below meth c T locs cells slots) (hx : p.tables.exec = Jvm.exec) (hd : decode c.code pc = .ok (.if_icmp cd o, 3)) (hq : pc + 3 = q) (hc : if_icmp.holds cd x y = false) : Ends p e below s Q kc ks (T.setTop (mkF m pc Ls (.int y :: .int x :: S))) := by
  subst hq
  exact k.by fun _ r => XS.icmpNo X.here hx rfl hd rfl hc r
theorem Es.ifnonnullNo {o : Int} {q : Nat} (k : Ends p e below s Q kc ks (T.setTop (mkF m q Ls S))) (X : Stand p l e R s m args below meth c T locs cells slots) (hx : p.tables.exec = Jvm.exec) (hd : decode c.code pc = .ok (.ifnonnull o, 3)) (hq : pc + 3 = q) : Ends p e below s Q kc ks (T.setTop (mkF m pc Ls (.null :: S))) := by
  subst hq
  exact k.by fun _ r => XS.ifnonnullNo X.here hx rfl hd rfl r
theorem Es.goto {o : Int} {q : Nat} (k : Ends p e below s Q kc ks (T.setTop (mkF m q Ls S))) (X : Stand p l e R s m args below meth c T locs cells slots) (hx : p.tables.exec = Jvm.exec) (hd : decode c.code pc = .ok (.goto o, 3)) (ho : 0 ≤ (pc : Int) + o) (hp : ((pc : Int) + o).toNat = q) : Ends p e below s Q kc ks (T.setTop (mkF m pc Ls S)) :=
  k.by fun _ r => XS.goto X.here hx rfl (pc0 := pc) (pc' := q) rfl hd ho hp r
theorem Es.ifYes {cd : ClassFile.Cond} {o : Int} {x : Int32} {q : Nat} (k : Ends p e below s Q kc ks (T.setTop (mkF m q Ls S))) (X : Stand p l e R s m args below meth c T locs cells slots) (hx : p.tables.exec = Jvm.exec) (hd : decode c.code pc = .ok (.ifCond cd o, 3)) (hc : ifCond.holds cd x = true) (ho : 0 ≤ (pc : Int) + o) (hp : ((pc : Int) + o).toNat = q) : Ends p e below s Q kc ks (T.setTop (mkF m pc Ls (.int x :: S))) :=
  k.by fun _ r => XS.ifYes X.here hx rfl (pc0 := pc) (pc' := q) rfl hd rfl hc ho hp r
theorem Es.icmpYes {cd : ClassFile.Cond} {o : Int} {x y : Int32} {q : Nat} (k : Ends p e below s Q kc ks (T.setTop (mkF m q Ls S))) (X : Stand p l e R s m args below meth c T locs cells slots) (hx : p.tables.exec = Jvm.exec) (hd : decode c.code pc = .ok (.if_icmp cd o, 3)) (hc : if_icmp.holds cd x y = true) (ho : 0 ≤ (pc : Int) + o) (hp : ((pc : Int) + o).toNat = q) : Ends p e below s Q kc ks (T.setTop (mkF m pc Ls (.int y :: .int x :: S))) :=
  k.by fun _ r => XS.icmpYes X.here hx rfl (pc0 := pc) (pc' := q) rfl hd rfl hc ho hp r
theorem Es.ifnonnullYes {o : Int} {b : Addr} {q : Nat} (k : Ends p e below s Q kc ks (T.setTop (mkF m q Ls S))) (X : Stand p l e R s m args below meth c T locs cells slots) (hx : p.tables.exec = Jvm.exec) (hd : decode c.code pc = .ok (.ifnonnull o, 3)) (ho : 0 ≤ (pc : Int) + o) (hp : ((pc : Int) + o).toNat = q) : Ends p e below s Q kc ks (T.setTop (mkF m pc Ls (.ref b :: S))) :=
  k.by fun _ r => XS.ifnonnullYes X.here hx rfl (pc0 := pc) (pc' := q) rfl hd rfl ho hp r
theorem Es.irem {x y : Int32} {q : Nat} (k : Ends p e below s Q kc ks (T.setTop (mkF m q Ls (.int (x % y) :: S)))) (X : Stand p l e R s m args below meth c T locs cells slots) (hx : p.tables.exec = Jvm.exec) (hd : decode c.code pc = .ok (.irem, 1)) (hq : pc + 1 = q) (hy : y ≠ 0) : Ends p e below s Q kc ks (T.setTop (mkF m pc Ls (.int y :: .int x :: S))) := by
  subst hq
  exact k.by fun _ r => iremM X hx rfl hd rfl hy r
theorem Es.lrem {x y : Int64} {q : Nat} (k : Ends p e below s Q kc ks (T.setTop (mkF m q Ls (.long (x % y) :: S)))) (X : Stand p l e R s m args below meth c T locs cells slots) (hx : p.tables.exec = Jvm.exec) (hd : decode c.code pc = .ok (.lrem, 1)) (hq : pc + 1 = q) (hy : y ≠ 0) : Ends p e below s Q kc ks (T.setTop (mkF m pc Ls (.long y :: .long x :: S))) := by
  subst hq
  exact k.by fun _ r => lremM X hx rfl hd rfl hy r
theorem Es.ldc {own : String} {index : Nat} {v : Int32} {q : Nat} (k : Ends p e below s Q kc ks (T.setTop (mkF m q Ls (.int v :: S)))) (X : Stand p l e R s m args below meth c T locs cells slots) (hx : p.tables.exec = Jvm.exec) (hown : s.vm.findClass own = some m.cls) (w : (Cond.constant own index v).before args s = true) (hd : decode c.code pc = .ok (.ldc index, 2)) (hq : pc + 2 = q) : Ends p e below s Q kc ks (T.setTop (mkF m pc Ls S)) := by
  subst hq
  exact k.by (X.ldcInt hx hown w (g := mkF m pc Ls S) rfl hd)
theorem Es.ldc2 {own : String} {index : Nat} {v : Int64} {q : Nat} (k : Ends p e below s Q kc ks (T.setTop (mkF m q Ls (.long v :: S)))) (X : Stand p l e R s m args below meth c T locs cells slots) (hx : p.tables.exec = Jvm.exec) (hown : s.vm.findClass own = some m.cls) (w : (Cond.constantLong own index v).before args s = true) (hd : decode c.code pc = .ok (.ldc2_w index, 3)) (hq : pc + 3 = q) : Ends p e below s Q kc ks (T.setTop (mkF m pc Ls S)) := by
  subst hq
  exact k.by (X.ldc2Long hx hown w (g := mkF m pc Ls S) rfl hd)
end OwnSteps
section OwnHeap
variable {p : Program} {l : Launch} {e : Env} {R : Room} {s : State} {m : MethodId} {args : Array Value} {below : List Frame} {meth : Method} {c : Code} {T : State} {locs : List Loc} {cells slots : Nat}
variable {Q : Option Value → Heap → List Loc → Prop} {kc ks : Nat} {Z : State} {a0 : Array Value} {h h' : Heap} {a b : Addr} {ty : FieldType} {n sl : Nat} {g : Nat → Int32} {v : Value} {j x : Int32} {pc : Nat} {Ls : Array Slot} {S : List Value}
/-- an array of n small values: place j holds g j -/
def Ary (Z : State) (h : Heap) (a : Addr) (ty : FieldType) (n : Nat) (g : Nat → Int32) : Prop := ∃ cl : Cell, Arr Z h a cl ty ∧ cl.slots.size = n ∧ n < 2 ^ 31 ∧ ∀ j, j < n → cl.slots[j]? = some (.int (g j))
def upd (g : Nat → Int32) (j : Nat) (x : Int32) : Nat → Int32 := fun i => if i = j then x else g i
theorem Ary.lt (V : Ary Z h a ty n g) : a < h.size := V.elim fun _ q => q.1.lt
theorem Ary.ext (V : Ary Z h a ty n g) (E : Ext h h') : Ary Z h' a ty n g := by obtain ⟨c, A, r⟩ := V; exact ⟨c, A.ext E, r⟩
theorem Ary.other (V : Ary Z h b ty n g) (W : Wr h h' a sl v) (q : b ≠ a) : Ary Z h' b ty n g := by obtain ⟨c, A, r⟩ := V; exact ⟨c, A.other W q, r⟩
theorem Ary.keep {ws : List Addr} (V : Ary Z h a ty n g) (K : Keep h h' ws) (q : a ∉ ws) : Ary Z h' a ty n g := by obtain ⟨c, A, r⟩ := V; exact ⟨c, ⟨K.2.1 a c A.1 q, A.2⟩, r⟩
theorem Ary.set (V : Ary Z h a ty n g) (W : Wr h h' a sl (.int x)) : Ary Z h' a ty n (upd g sl x) := by
  obtain ⟨c, A, S, M, H⟩ := V
  refine ⟨_, A.same W, by rw [sz_set]; exact S, M, fun i hi => ?_⟩
  have hi' : i < c.slots.size := by omega
  simp only [Cell.setSlot, Array.getElem?_setIfInBounds, upd]
  by_cases q : i = sl
  · subst q; simp [hi']
  · have q' : ¬ sl = i := fun e => q e.symm
    simp [q, q']; exact H i hi
theorem Ary.inb {cl : Cell} (S : cl.slots.size = n) (hj : 0 ≤ j.toInt ∧ j.toInt < n) : ¬ (j < 0 ∨ cl.slots.size ≤ j.toNatClampNeg) := by
  have e0 : (0 : Int32).toInt = 0 := rfl
  simp only [Int32.lt_iff_toInt_lt, Int32.toNatClampNeg] at *; omega
theorem Ary.at {cl : Cell} (H : ∀ j, j < n → cl.slots[j]? = some (.int (g j))) (hj : 0 ≤ j.toInt ∧ j.toInt < n) : cl.slots[j.toNatClampNeg]? = some (.int (g j.toNatClampNeg)) :=
  H _ (by simp only [Int32.toNatClampNeg]; omega)
theorem Ends.iald (k : Ends p e below s Q kc ks (T.setTop (mkF m (pc + 1) Ls (.int (g j.toNatClampNeg) :: S)))) (X : Stand p l e R s m args below meth c T locs cells slots) (hx : p.tables.exec = Jvm.exec) (hZ : Z.Warmed39 s.vm) (eT : T.heap = h) (V : Ary Z h a .int n g) (hj : 0 ≤ j.toInt ∧ j.toInt < n)
    (hd : decode c.code pc = .ok (.iaload, 1)) : Ends p e below s Q kc ks (T.setTop (mkF m pc Ls (.int j :: .ref a :: S))) := by
  obtain ⟨cl, A, S1, M, H⟩ := V
  exact k.by fun t q => X.iaload hx (j := j) (by rw [eT]; exact A.1) (State.isArrayOf_alike hZ.alike A.2.1) A.2.2 (Ary.inb S1 hj) (Ary.at H hj) (g := mkF m pc Ls (.int j :: .ref a :: S)) rfl rfl hd t q
theorem Ends.bald (k : Ends p e below s Q kc ks (T.setTop (mkF m (pc + 1) Ls (.int (g j.toNatClampNeg) :: S)))) (X : Stand p l e R s m args below meth c T locs cells slots) (hx : p.tables.exec = Jvm.exec) (hZ : Z.Warmed39 s.vm) (eT : T.heap = h) (V : Ary Z h a .byte n g) (hj : 0 ≤ j.toInt ∧ j.toInt < n)
    (hd : decode c.code pc = .ok (.baload, 1)) : Ends p e below s Q kc ks (T.setTop (mkF m pc Ls (.int j :: .ref a :: S))) := by
  obtain ⟨cl, A, S1, M, H⟩ := V
  exact k.by fun t q => X.baloadBytes hx (j := j) (by rw [eT]; exact A.1) (State.isArrayOf_alike hZ.alike A.2.1) A.2.2 (Ary.inb S1 hj) (Ary.at H hj) (g := mkF m pc Ls (.int j :: .ref a :: S)) rfl rfl hd t q
theorem Ends.alen {z : Int32} (k : Ends p e below s Q kc ks (T.setTop (mkF m (pc + 1) Ls (.int z :: S)))) (X : Stand p l e R s m args below meth c T locs cells slots) (hx : p.tables.exec = Jvm.exec) (hZ : Z.Warmed39 s.vm) (eT : T.heap = h) (V : Ary Z h a ty n g) (hz : z.toInt = n)
    (hd : decode c.code pc = .ok (.arraylength, 1)) : Ends p e below s Q kc ks (T.setTop (mkF m pc Ls (.ref a :: S))) := by
  obtain ⟨cl, A, S1, M, H⟩ := V
  have e1 : cl.slots.size.toInt32 = z := by
    rw [S1]; apply Int32.toInt_inj.mp; rw [hz]; exact len_toInt M
  exact k.by fun t q => X.arraylength hx (by rw [eT]; exact A.1) (State.isArrayOf_alike hZ.alike A.2.1) (g := mkF m pc Ls (.ref a :: S)) rfl rfl hd t (by rw [e1]; exact q)
theorem stIA (X : Stand p l e R s m args below meth c T locs cells slots) (hx : p.tables.exec = Jvm.exec) (hZ : Z.Warmed39 s.vm) (eT : T.heap = h) (V : Ary Z h a .int n g) (hj : 0 ≤ j.toInt ∧ j.toInt < n) (hd : decode c.code pc = .ok (.iastore, 1)) :
    ∃ T' h', Stand p l e R s m args below meth c T' (locs ++ [⟨a, j.toNatClampNeg⟩]) cells slots ∧ T'.heap = h' ∧ Wr h h' a j.toNatClampNeg (.int x) ∧ Ary Z h' a .int n (upd g j.toNatClampNeg x) ∧
      ∀ t, Steps p.tables e below (T'.setTop (mkF m (pc + 1) Ls S)) t → Steps p.tables e below (T.setTop (mkF m pc Ls (.int x :: .int j :: .ref a :: S))) t := by
  have V' := V
  obtain ⟨cl, A, S1, M, H⟩ := V
  obtain ⟨T', h', X', e', W, st⟩ := stI X hx hZ eT A (j := j) (x := x) (Ary.inb S1 hj) (g := mkF m pc Ls (.int x :: .int j :: .ref a :: S)) rfl rfl hd
  exact ⟨T', h', X', e', W, V'.set W, st⟩
theorem stBA (X : Stand p l e R s m args below meth c T locs cells slots) (hx : p.tables.exec = Jvm.exec) (hZ : Z.Warmed39 s.vm) (eT : T.heap = h) (V : Ary Z h a .byte n g) (hj : 0 ≤ j.toInt ∧ j.toInt < n) (hd : decode c.code pc = .ok (.bastore, 1)) :
    ∃ T' h', Stand p l e R s m args below meth c T' (locs ++ [⟨a, j.toNatClampNeg⟩]) cells slots ∧ T'.heap = h' ∧ Wr h h' a j.toNatClampNeg (.int x.toInt8.toInt32) ∧ Ary Z h' a .byte n (upd g j.toNatClampNeg x.toInt8.toInt32) ∧
      ∀ t, Steps p.tables e below (T'.setTop (mkF m (pc + 1) Ls S)) t → Steps p.tables e below (T.setTop (mkF m pc Ls (.int x :: .int j :: .ref a :: S))) t := by
  have V' := V
  obtain ⟨cl, A, S1, M, H⟩ := V
  obtain ⟨T', h', X', e', W, st⟩ := stB X hx hZ eT A (j := j) (x := x) (Ary.inb S1 hj) (g := mkF m pc Ls (.int x :: .int j :: .ref a :: S)) rfl rfl hd
  exact ⟨T', h', X', e', W, V'.set W, st⟩
theorem newAr (X : Stand p l e R s m args below meth c T locs cells slots) (hx : p.tables.exec = Jvm.exec) (hZ : Z.Warmed39 s.vm) {aty : ArrayType} (w : (Cond.arrayClass (newarray.typeOf aty)).before a0 Z = true) (hty : defaultValue (newarray.typeOf aty) = .int 0) (eT : T.heap = h) {z : Int32} {cap : Nat} (hz : z.toInt = n) (hcap : n ≤ cap)
    (hb : cap * 8 ≤ 536870912) (hc : cells + 1 ≤ R.cells) (hl : slots + cap ≤ R.slots) (hd : decode c.code pc = .ok (.newarray aty, 2)) :
    ∃ T' h', Stand p l e R s m args below meth c T' locs (cells + 1) (slots + cap) ∧ T'.heap = h' ∧ Ext h h' ∧ Ary Z h' h.size (newarray.typeOf aty) n (fun _ => 0) ∧
      ∀ t, Steps p.tables e below (T'.setTop (mkF m (pc + 2) Ls (.ref h.size :: S))) t → Steps p.tables e below (T.setTop (mkF m pc Ls (.int z :: S))) t := by
  have e0 : (0 : Int32).toInt = 0 := rfl
  have hz2 : z.toNatClampNeg = n := by simp only [Int32.toNatClampNeg]; omega
  have rz := rng32 z
  obtain ⟨T', h', cA, X', e', E, A, st⟩ := newP X hx hZ w eT (g := mkF m pc Ls (.int z :: S)) rfl hd rfl (by rw [Int32.lt_iff_toInt_lt]; omega) (cap := cap) (by omega) hb hc hl
  refine ⟨T', h', X', e', E, ⟨_, A, by rw [sz_new]; exact hz2, by omega, fun j hj => ?_⟩, st⟩
  simp only [newA, hz2, hty]
  simp [hj]
theorem newArE (X : Stand p l e R s m args below meth c T locs cells slots) (hx : p.tables.exec = Jvm.exec) (hZ : Z.Warmed39 s.vm) {aty : ArrayType} {C : String} (hC : "[" ++ (newarray.typeOf aty).toString = C) (w : (Cond.arrayClass (newarray.typeOf aty)).before a0 Z = true) (hty : defaultValue (newarray.typeOf aty) = .int 0) (eT : T.heap = h) {z : Int32} {cap : Nat} (hz : z.toInt = n) (hcap : n ≤ cap)
    (hb : cap * 8 ≤ 536870912) (hc : cells + 1 ≤ R.cells) (hl : slots + cap ≤ R.slots) (hd : decode c.code pc = .ok (.newarray aty, 2)) :
    ∃ T' h', Stand p l e R s m args below meth c T' locs (cells + 1) (slots + cap) ∧ T'.heap = h' ∧ Ext h h' ∧ Ary Z h' h.size (newarray.typeOf aty) n (fun _ => 0) ∧ Exa Z h' h.size C ∧
      ∀ t, Steps p.tables e below (T'.setTop (mkF m (pc + 2) Ls (.ref h.size :: S))) t → Steps p.tables e below (T.setTop (mkF m pc Ls (.int z :: S))) t := by
  have e0 : (0 : Int32).toInt = 0 := rfl
  have hz2 : z.toNatClampNeg = n := by simp only [Int32.toNatClampNeg]; omega
  have rz := rng32 z
  have hcb : componentBytes (newarray.typeOf aty) ≤ 8 := by cases aty <;> decide
  have hby : z.toNatClampNeg * componentBytes (newarray.typeOf aty) ≤ 536870912 := by
    rw [hz2]; exact Nat.le_trans (Nat.mul_le_mul hcap hcb) hb
  obtain ⟨cA, kA, comp, q1, q2, q3, X', st⟩ := X.newarrayPrim hx (mvA hZ w) (g := mkF m pc Ls (.int z :: S)) rfl hd rfl (by rw [Int32.lt_iff_toInt_lt]; omega) hby hc (by omega)
  subst eT
  have q1' : Z.vm.findClass C = some cA := by rw [← hC, ← hZ.alike.findClass]; exact q1
  obtain ⟨kZ, r1, -⟩ := Vm.findClass_spec q1'
  obtain ⟨k2, r2, r3⟩ := hZ.alike.2.2 _ _ r1
  have r4 : kA = k2 := Option.some.inj (q2.symm.trans r2)
  have hkind : kZ.kind = .array comp (newarray.typeOf aty) := by rw [← q3, r4, r3]
  have hat : (T.heap.push { cls := cA, slots := Array.replicate z.toNatClampNeg (defaultValue (newarray.typeOf aty)), vm := .none })[T.heap.size]? = some { cls := cA, slots := Array.replicate z.toNatClampNeg (defaultValue (newarray.typeOf aty)), vm := .none } := by simp
  refine ⟨_, _, X'.more (Nat.le_refl _) (by omega), rfl, ⟨?_, fun x y q => ?_⟩, ⟨_, ⟨hat, ⟨by simp, kZ, r1, comp, hkind⟩, by simp⟩, by simp [hz2], by omega, fun j hj => ?_⟩, ⟨_, kZ, hat, q1', r1, rfl, fun q => by rw [hkind] at q; cases q⟩, st⟩
  · show T.heap.size ≤ (T.heap.push _).size
    simp
  · show (T.heap.push _)[x]? = some y
    have hx' := (Array.getElem?_eq_some_iff.mp q).1
    rw [Array.getElem?_push_lt hx', ← q, Array.getElem?_eq_getElem hx']
  · simp [hz2, hty, hj]
theorem Ary.fitC {cl : Cell} (A : Arr Z h a cl .int) (S1 : cl.slots.size = n) (H : ∀ j, j < n → cl.slots[j]? = some (.int (g j))) : FitC Z cl := fun i v hv => by
  obtain ⟨-, k, hk, comp, hkind⟩ := A.2.1
  have hi := (Array.getElem?_eq_some_iff.mp hv).1
  have q := (H i (by omega)).symm.trans hv
  cases q
  simp [State.fitsSlot, State.slotType?, hk, hkind, fits]
theorem cloneAr (X : Stand p l e R s m args below meth c T locs cells slots) (hx : p.tables.exec = Jvm.exec) (hZ : Z.Warmed39 s.vm) {own : String} {index : Nat} (hown : s.vm.findClass own = some m.cls) (hml : Ls.size = c.maxLocals)
    (w1 : (Cond.methodLink own index ⟨"[I", "clone", "()Ljava/lang/Object;"⟩).before a0 Z = true) (w2 : (Cond.sameMethod "[I" "java/lang/Object" "clone" "()Ljava/lang/Object;").before a0 Z = true) (w3 : (Cond.native ⟨"java/lang/Object", "clone", "()Ljava/lang/Object;"⟩).before a0 Z = true)
    (w4 : (Cond.instanceMethod ⟨"java/lang/Object", "clone", "()Ljava/lang/Object;"⟩).before a0 Z = true) (w5 : (Cond.selects "[I" ⟨"[I", "clone", "()Ljava/lang/Object;"⟩ ⟨"java/lang/Object", "clone", "()Ljava/lang/Object;"⟩).before a0 Z = true) (w6 : (Cond.castable "[I" "java/lang/Cloneable").before a0 Z = true)
    (eT : T.heap = h) (V : Ary Z h a .int n g) (E : Exa Z h a "[I") {W cap : Nat} (hW : 2 * 0 + (S.map fun v => v.category).sum ≤ W) (hcap : n ≤ cap) (hf : 1 ≤ R.frames) (hl : W + 14 ≤ R.locals) (hc : cells + 1 ≤ R.cells) (hsl : slots + cap ≤ R.slots) (hd : decode c.code pc = .ok (.invokevirtual index, 3)) :
    ∃ T' h', Stand p l e R s m args below meth c T' locs (cells + 1) (slots + cap) ∧ T'.heap = h' ∧ Ext h h' ∧ Ary Z h' h.size .int n g ∧ Exa Z h' h.size "[I" ∧
      ∀ t, Steps p.tables e below (T'.setTop (mkF m (pc + 3) Ls (.ref h.size :: S))) t → Steps p.tables e below (T.setTop (mkF m pc Ls (.ref a :: S))) t := by
  obtain ⟨cl, A, S1, M, H⟩ := V
  obtain ⟨T', h', X', e', E', A', Ex, st⟩ := cloneA X hx hZ hown w1 w2 w3 w4 w5 w6 eT A E (Ary.fitC A S1 H) (g := mkF m pc Ls (.ref a :: S)) rfl hml rfl hd hf (W := W) (cap := cap) hW hl (by omega) hc hsl
  exact ⟨T', h', X', e', E', ⟨_, A', S1, M, H⟩, Ex, st⟩
end OwnHeap
/-- a method that writes into ws alone: what it returns, the rest kept, what P says of the heap that it leaves -/
def QK (V : Option Value) (h0 : Heap) (ws : List Addr) (n0 : Nat) (P : Heap → Prop) (v : Option Value) (h : Heap) (L : List Loc) : Prop := v = V ∧ Fr n0 L ∧ Keep h0 h ws ∧ P h

theorem d1_0 : decode prog_23_method_1_code 0 = .ok (.aload_n 0, 1) := by decide +kernel
theorem d1_1 : decode prog_23_method_1_code 1 = .ok (.invokespecial 1, 3) := by decide +kernel
theorem d1_4 : decode prog_23_method_1_code 4 = .ok (.aload_n 0, 1) := by decide +kernel
theorem d1_5 : decode prog_23_method_1_code 5 = .ok (.aload_n 1, 1) := by decide +kernel
theorem d1_6 : decode prog_23_method_1_code 6 = .ok (.invokevirtual 7, 3) := by decide +kernel
theorem d1_9 : decode prog_23_method_1_code 9 = .ok (.checkcast 8, 3) := by decide +kernel
theorem d1_12 : decode prog_23_method_1_code 12 = .ok (.putfield 13, 3) := by decide +kernel
theorem d1_15 : decode prog_23_method_1_code 15 = .ok (.return_, 1) := by decide +kernel
theorem ef_rm1 (m : MethodId) (x0 : Addr) (x1 : Addr) : entryFrame m #[(.ref x0), (.ref x1)] 2 = mkF m 0 #[.val (.ref x0), .val (.ref x1)] [] := by first | (simp [entryFrame, mkF, argsToLocals, Value.category]; done) | rfl
theorem pn_0 : plainName "com/example/tagwright/tagwright/model/CodePointSet" = true := by first | (simp [plainName, overriddenIn]; done) | decide +kernel
set_option maxRecDepth 65536 in
set_option maxHeartbeats 40000000 in
theorem rm1 (l : Launch) (Z : State) (a0 : Array Value) (hw : ∀ d ∈ tables_1, d.before a0 Z = true) (ws : List Jvm.Cond) (x0 : Addr) (x1 : Addr) (kk : Nat) (g : Nat → Int32) (h0 : Heap) (n0 : Nat) (Z0 : n0 ≤ h0.size) (E0 : Exa Z h0 x0 "com/example/tagwright/tagwright/model/CodePointSet") (F1 : Fld Z h0 x0 "com/example/tagwright/tagwright/model/CodePointSet" "bounds" "[I" .null) (V0 : Ary Z h0 x1 .int kk g) (E1 : Exa Z h0 x1 "[I") (hne : x1 ≠ x0) (g0 : n0 ≤ x0) (hk : kk ≤ 8) :
    MetFree l (⟨"com/example/tagwright/tagwright/model/CodePointSet", "<init>", "([I)V"⟩ : MethodName) (head1 (Jvm.Cond.code (⟨"com/example/tagwright/tagwright/model/CodePointSet", "<init>", "([I)V"⟩ : MethodName) prog_23_method_1_code 2 none :: ws) ({ frames := 1, cells := 1, slots := 8, locals := 15 } : Room)) (fun a U => a = #[(.ref x0), (.ref x1)] ∧ Z.Warmed39 U.vm ∧ U.heap = h0) (fun _ _ _ _ _ => True) (fun _ U o U' => ∃ v L, o = .returned v ∧ (QK none h0 [x0] n0 (fun h => Exa Z h x0 "com/example/tagwright/tagwright/model/CodePointSet" ∧ ∃ b : Addr, Fld Z h x0 "com/example/tagwright/tagwright/model/CodePointSet" "bounds" "[I" (.ref b) ∧ Ary Z h b .int kk g)) v U'.heap L ∧ FrameEnd U o U' L ({ frames := 1, cells := 1, slots := 8, locals := 15 } : Room).cells ({ frames := 1, cells := 1, slots := 8, locals := 15 } : Room).slots) := by
  refine MetFree.of_bodySF (plainFor_of_name pn_0) hisR ?_
  intro p e s m args below meth c s₁ Bd hml0 hP hK
  obtain ⟨rfl, hZ, hh⟩ := hP
  have hx := Bd.exec
  have hby := Bd.bytes
  have hml : c.maxLocals = 2 := hml0
  have hown : s.vm.findClass "com/example/tagwright/tagwright/model/CodePointSet" = some m.cls := findClass_of_methodNamed Bd.named
  have hnm := (name_of_methodNamed Bd.named Bd.method).1
  have X0 : Stand p l e ({ frames := 1, cells := 1, slots := 8, locals := 15 } : Room) s m #[(.ref x0), (.ref x1)] below meth c s₁ [] 0 0 := Stand.of_body Bd
  have e0 : s₁.heap = h0 := by rw [← hh, Bd.state]; rfl
  have N0 := Fr.nil n0
  show Ends p e below s (QK none h0 [x0] n0 (fun h => Exa Z h x0 "com/example/tagwright/tagwright/model/CodePointSet" ∧ ∃ b : Addr, Fld Z h x0 "com/example/tagwright/tagwright/model/CodePointSet" "bounds" "[I" (.ref b) ∧ Ary Z h b .int kk g)) ({ frames := 1, cells := 1, slots := 8, locals := 15 } : Room).cells ({ frames := 1, cells := 1, slots := 8, locals := 15 } : Room).slots (s₁.setTop (entryFrame m #[(.ref x0), (.ref x1)] 2))
  rw [ef_rm1 m x0 x1]
  show Ends p e below s _ _ _ (s₁.setTop (mkF m 0 #[.val (.ref x0), .val (.ref x1)] []))
  refine Es.aloadN (q := 1) ?_ X0 hx (hb hby d1_0) rfl rfl rfl
  obtain ⟨T1, X1, e1, st1⟩ := initO X0 hx hZ hown (hw _ (List.mem_of_getElem? (i := 10) rfl)) (hw _ (List.mem_of_getElem? (i := 11) rfl)) (hw _ (List.mem_of_getElem? (i := 12) rfl)) e0 (g := (mkF m 1 #[.val (.ref x0), .val (.ref x1)] [(.ref x0)])) rfl (by rw [hml]; rfl) rfl (hb hby d1_1) (by decide) (W := 0) (by show 2 * 0 + _ ≤ _; exact Nat.le_of_eq rfl) (by decide)
  refine Ends.by ?_ st1
  show Ends p e below s _ _ _ (T1.setTop (mkF m 4 #[.val (.ref x0), .val (.ref x1)] []))
  refine Es.aloadN (q := 5) ?_ X1 hx (hb hby d1_4) rfl rfl rfl
  refine Es.aloadN (q := 6) ?_ X1 hx (hb hby d1_5) rfl rfl rfl
  obtain ⟨T2, h2, X2, e2, E2, V2, Ax2, st2⟩ := cloneAr X1 hx hZ hown (by rw [hml]; rfl) (hw _ (List.mem_of_getElem? (i := 13) rfl)) (hw _ (List.mem_of_getElem? (i := 14) rfl)) (hw _ (List.mem_of_getElem? (i := 18) rfl)) (hw _ (List.mem_of_getElem? (i := 16) rfl)) (hw _ (List.mem_of_getElem? (i := 17) rfl)) (hw _ (List.mem_of_getElem? (i := 19) rfl)) e1 V0 E1 (W := 1) (cap := 8) (Ls := #[.val (.ref x0), .val (.ref x1)]) (S := [(.ref x0)]) (by show 2 * 0 + 1 ≤ 1; exact Nat.le_of_eq rfl) hk (by decide) (by decide) (by decide) (by decide) (hb hby d1_6)
  obtain ⟨b2, g2⟩ : ∃ z, z = h0.size := ⟨_, rfl⟩
  rw [← g2] at V2 Ax2 st2
  have ne3 : x0 ≠ b2 := Nat.ne_of_lt (Nat.lt_of_lt_of_le E0.lt (Nat.le_of_eq g2.symm))
  have ne4 : x1 ≠ b2 := Nat.ne_of_lt (Nat.lt_of_lt_of_le V0.lt (Nat.le_of_eq g2.symm))
  have f5 := Exa.ext E2 E0
  have f6 := Fld.ext E2 F1
  have f7 := V0.ext E2
  have f8 := Exa.ext E2 E1
  have K9 := (Keep.refl h0 [x0]).ext E2
  have Zs10 : n0 ≤ h2.size := Nat.le_trans Z0 E2.1
  refine Ends.by ?_ st2
  show Ends p e below s _ _ _ (T2.setTop (mkF m 9 #[.val (.ref x0), .val (.ref x1)] [(.ref b2), (.ref x0)]))
  obtain ⟨T11, X11, e11, st11⟩ := castY X2 hx hZ hown (hw _ (List.mem_of_getElem? (i := 20) rfl)) e2 (Ins.self Ax2) (g := (mkF m 9 #[.val (.ref x0), .val (.ref x1)] [(.ref b2), (.ref x0)])) rfl rfl (hb hby d1_9)
  refine Ends.by ?_ st11
  show Ends p e below s _ _ _ (T11.setTop (mkF m 12 #[.val (.ref x0), .val (.ref x1)] [(.ref b2), (.ref x0)]))
  obtain ⟨T12, h12, X12, e12, W12, st12⟩ := putF X11 hx hZ hown (host := "") (Or.inl (hw _ (List.mem_of_getElem? (i := 22) rfl))) Via.refl e11 f6 f5 (Or.inr ⟨(hw _ (List.mem_of_getElem? (i := 23) rfl)), rfl, hnm⟩) (hw _ (List.mem_of_getElem? (i := 5) rfl)) (ty := (.array .int)) (by decide) rfl rfl (g := (mkF m 12 #[.val (.ref x0), .val (.ref x1)] [(.ref b2), (.ref x0)])) rfl rfl (hb hby d1_12)
  have Fw12 := Fld.same W12 f6
  have f13 := Exa.wr W12 f5
  have f15 := f7.other W12 hne
  have f16 := Exa.wr W12 f8
  have f17 := V2.other W12 (Ne.symm ne3)
  have f18 := Exa.wr W12 Ax2
  have K19 := K9.wr W12 (Or.inl (by simp))
  have N12 := Fr.snoc X12 N0 g0
  have Zs20 : n0 ≤ h12.size := Nat.le_trans Zs10 (Keep.of_wr W12).1
  refine Ends.by ?_ st12
  show Ends p e below s _ _ _ (T12.setTop (mkF m 15 #[.val (.ref x0), .val (.ref x1)] []))
  exact Ends.retV X12 hx Bd.notSynchronized Bd.returns (hb hby d1_15) (by rw [e12]; exact ⟨rfl, N12, K19, f13, _, Fw12, f17⟩) (by decide) (by decide)

theorem d3_0 : decode prog_23_method_2_code 0 = .ok (.iconst 0, 1) := by decide +kernel
theorem d3_1 : decode prog_23_method_2_code 1 = .ok (.istore_n 2, 1) := by decide +kernel
theorem d3_2 : decode prog_23_method_2_code 2 = .ok (.aload_n 0, 1) := by decide +kernel
theorem d3_3 : decode prog_23_method_2_code 3 = .ok (.getfield 13, 3) := by decide +kernel
theorem d3_6 : decode prog_23_method_2_code 6 = .ok (.arraylength, 1) := by decide +kernel
theorem d3_7 : decode prog_23_method_2_code 7 = .ok (.iconst 2, 1) := by decide +kernel
theorem d3_8 : decode prog_23_method_2_code 8 = .ok (.idiv, 1) := by decide +kernel
theorem d3_9 : decode prog_23_method_2_code 9 = .ok (.iconst 1, 1) := by decide +kernel
theorem d3_10 : decode prog_23_method_2_code 10 = .ok (.isub, 1) := by decide +kernel
theorem d3_11 : decode prog_23_method_2_code 11 = .ok (.istore_n 3, 1) := by decide +kernel
theorem d3_12 : decode prog_23_method_2_code 12 = .ok (.iload_n 2, 1) := by decide +kernel
theorem d3_13 : decode prog_23_method_2_code 13 = .ok (.iload_n 3, 1) := by decide +kernel
theorem d3_14 : decode prog_23_method_2_code 14 = .ok (.if_icmp .gt 59, 3) := by decide +kernel
theorem d3_73 : decode prog_23_method_2_code 73 = .ok (.iconst 0, 1) := by decide +kernel
theorem d3_74 : decode prog_23_method_2_code 74 = .ok (.ireturn, 1) := by decide +kernel
def fC0 (x0 : Addr) (x1 : Int32) (ya : Addr) (g : Nat → Int32) : Int32 := (0 : Int32)
theorem ef_rmC0 (m : MethodId) (x0 : Addr) (x1 : Int32) : entryFrame m #[(.ref x0), (.int x1)] 5 = mkF m 0 #[.val (.ref x0), .val (.int x1), .unset, .unset, .unset] [] := by first | (simp [entryFrame, mkF, argsToLocals, Value.category]; done) | rfl
set_option maxRecDepth 65536 in
set_option maxHeartbeats 40000000 in
theorem rmC0 (l : Launch) (Z : State) (a0 : Array Value) (hw : ∀ d ∈ tables_1, d.before a0 Z = true) (ws : List Jvm.Cond) (x0 : Addr) (x1 : Int32) (ya : Addr) (g : Nat → Int32) (h0 : Heap) (n0 : Nat) (Z0 : n0 ≤ h0.size) (F1 : Fld Z h0 x0 "com/example/tagwright/tagwright/model/CodePointSet" "bounds" "[I" (.ref ya)) (V0 : Ary Z h0 ya .int 0 g) :
    MetFree l (⟨"com/example/tagwright/tagwright/model/CodePointSet", "contains", "(I)Z"⟩ : MethodName) (head1 (Jvm.Cond.code (⟨"com/example/tagwright/tagwright/model/CodePointSet", "contains", "(I)Z"⟩ : MethodName) prog_23_method_2_code 5 (some .boolean) :: ws) ({ frames := 0, cells := 0, slots := 0, locals := 0 } : Room)) (fun a U => a = #[(.ref x0), (.int x1)] ∧ Z.Warmed39 U.vm ∧ U.heap = h0) (fun _ _ _ _ _ => True) (fun _ U o U' => ∃ v L, o = .returned v ∧ (QP (some (.int (fC0 x0 x1 ya g))) h0 n0) v U'.heap L ∧ FrameEnd U o U' L ({ frames := 0, cells := 0, slots := 0, locals := 0 } : Room).cells ({ frames := 0, cells := 0, slots := 0, locals := 0 } : Room).slots) := by
  refine MetFree.of_bodySF (plainFor_of_name pn_0) hisR ?_
  intro p e s m args below meth c s₁ Bd hml0 hP hK
  obtain ⟨rfl, hZ, hh⟩ := hP
  have hx := Bd.exec
  have hby := Bd.bytes
  have hml : c.maxLocals = 5 := hml0
  have hown : s.vm.findClass "com/example/tagwright/tagwright/model/CodePointSet" = some m.cls := findClass_of_methodNamed Bd.named
  have hnm := (name_of_methodNamed Bd.named Bd.method).1
  have X0 : Stand p l e ({ frames := 0, cells := 0, slots := 0, locals := 0 } : Room) s m #[(.ref x0), (.int x1)] below meth c s₁ [] 0 0 := Stand.of_body Bd
  have e0 : s₁.heap = h0 := by rw [← hh, Bd.state]; rfl
  have N0 := Fr.nil n0
  show Ends p e below s (QP (some (.int (fC0 x0 x1 ya g))) h0 n0) ({ frames := 0, cells := 0, slots := 0, locals := 0 } : Room).cells ({ frames := 0, cells := 0, slots := 0, locals := 0 } : Room).slots (s₁.setTop (entryFrame m #[(.ref x0), (.int x1)] 5))
  rw [ef_rmC0 m x0 x1]
  have hv0 : fC0 x0 x1 ya g = fC0 x0 x1 ya g := rfl
  show Ends p e below s _ _ _ (s₁.setTop (mkF m 0 #[.val (.ref x0), .val (.int x1), .unset, .unset, .unset] []))
  refine Es.iconst (q := 1) (z := (0 : Int32)) ?_ X0 hx (hb hby d3_0) rfl rfl
  refine Es.istoreN (q := 2) (l' := #[.val (.ref x0), .val (.int x1), .val (.int (0 : Int32)), .unset, .unset]) ?_ X0 hx (hb hby d3_1) rfl rfl
  refine Es.aloadN (q := 3) ?_ X0 hx (hb hby d3_2) rfl rfl rfl
  obtain ⟨T1, X1, e1, st1⟩ := getF X0 hx hZ hown (host := "") (Or.inl (hw _ (List.mem_of_getElem? (i := 22) rfl))) Via.refl e0 F1 (g := (mkF m 3 #[.val (.ref x0), .val (.int x1), .val (.int (0 : Int32)), .unset, .unset] [(.ref x0)])) rfl rfl (hb hby d3_3)
  refine Ends.by ?_ st1
  show Ends p e below s _ _ _ (T1.setTop (mkF m 6 #[.val (.ref x0), .val (.int x1), .val (.int (0 : Int32)), .unset, .unset] [(.ref ya)]))
  refine Ends.alen (z := (0 : Int32)) ?_ X1 hx hZ e1 V0 (by decide) (hb hby d3_6)
  show Ends p e below s _ _ _ (T1.setTop (mkF m 7 #[.val (.ref x0), .val (.int x1), .val (.int (0 : Int32)), .unset, .unset] [(.int (0 : Int32))]))
  refine Es.iconst (q := 8) (z := (2 : Int32)) ?_ X1 hx (hb hby d3_7) rfl rfl
  refine Es.idiv (q := 9) ?_ X1 hx (hb hby d3_8) rfl (by decide)
  show Ends p e below s _ _ _ (T1.setTop (mkF m 9 _ [(.int (0 : Int32))]))
  refine Es.iconst (q := 10) (z := (1 : Int32)) ?_ X1 hx (hb hby d3_9) rfl rfl
  refine Es.isub (q := 11) ?_ X1 hx (hb hby d3_10) rfl
  show Ends p e below s _ _ _ (T1.setTop (mkF m 11 _ [(.int (-1 : Int32))]))
  refine Es.istoreN (q := 12) (l' := #[.val (.ref x0), .val (.int x1), .val (.int (0 : Int32)), .val (.int (-1 : Int32)), .unset]) ?_ X1 hx (hb hby d3_11) rfl rfl
  refine Es.iloadN (q := 13) ?_ X1 hx (hb hby d3_12) rfl rfl
  refine Es.iloadN (q := 14) ?_ X1 hx (hb hby d3_13) rfl rfl
  refine Es.icmpYes (q := 73) ?_ X1 hx (hb hby d3_14) (XT.ii_gt_t (by decide)) (by decide) (by decide)
  refine Es.iconst (q := 74) (z := (0 : Int32)) ?_ X1 hx (hb hby d3_73) rfl rfl
  exact Ends.retN X1 hx Bd.notSynchronized Bd.returns (t := .boolean) (by simp) (hb hby d3_74) (w := (0 : Int32)) rfl ⟨by rw [hv0]; first | done | rfl, N0, e1⟩ (by decide) (by decide)

theorem d3_17 : decode prog_23_method_2_code 17 = .ok (.iload_n 2, 1) := by decide +kernel
theorem d3_18 : decode prog_23_method_2_code 18 = .ok (.iload_n 3, 1) := by decide +kernel
theorem d3_19 : decode prog_23_method_2_code 19 = .ok (.iadd, 1) := by decide +kernel
theorem d3_20 : decode prog_23_method_2_code 20 = .ok (.iconst 1, 1) := by decide +kernel
theorem d3_21 : decode prog_23_method_2_code 21 = .ok (.iushr, 1) := by decide +kernel
theorem d3_22 : decode prog_23_method_2_code 22 = .ok (.istore 4, 2) := by decide +kernel
theorem d3_24 : decode prog_23_method_2_code 24 = .ok (.iload_n 1, 1) := by decide +kernel
theorem d3_25 : decode prog_23_method_2_code 25 = .ok (.aload_n 0, 1) := by decide +kernel
theorem d3_26 : decode prog_23_method_2_code 26 = .ok (.getfield 13, 3) := by decide +kernel
theorem d3_29 : decode prog_23_method_2_code 29 = .ok (.iconst 2, 1) := by decide +kernel
theorem d3_30 : decode prog_23_method_2_code 30 = .ok (.iload 4, 2) := by decide +kernel
theorem d3_32 : decode prog_23_method_2_code 32 = .ok (.imul, 1) := by decide +kernel
theorem d3_33 : decode prog_23_method_2_code 33 = .ok (.iaload, 1) := by decide +kernel
theorem d3_34 : decode prog_23_method_2_code 34 = .ok (.if_icmp .ge 11, 3) := by decide +kernel
theorem d3_37 : decode prog_23_method_2_code 37 = .ok (.iload 4, 2) := by decide +kernel
theorem d3_39 : decode prog_23_method_2_code 39 = .ok (.iconst 1, 1) := by decide +kernel
theorem d3_40 : decode prog_23_method_2_code 40 = .ok (.isub, 1) := by decide +kernel
theorem d3_41 : decode prog_23_method_2_code 41 = .ok (.istore_n 3, 1) := by decide +kernel
theorem d3_42 : decode prog_23_method_2_code 42 = .ok (.goto 28, 3) := by decide +kernel
theorem d3_70 : decode prog_23_method_2_code 70 = .ok (.goto (-58), 3) := by decide +kernel
theorem d3_45 : decode prog_23_method_2_code 45 = .ok (.iload_n 1, 1) := by decide +kernel
theorem d3_46 : decode prog_23_method_2_code 46 = .ok (.aload_n 0, 1) := by decide +kernel
theorem d3_47 : decode prog_23_method_2_code 47 = .ok (.getfield 13, 3) := by decide +kernel
theorem d3_50 : decode prog_23_method_2_code 50 = .ok (.iconst 2, 1) := by decide +kernel
theorem d3_51 : decode prog_23_method_2_code 51 = .ok (.iload 4, 2) := by decide +kernel
theorem d3_53 : decode prog_23_method_2_code 53 = .ok (.imul, 1) := by decide +kernel
theorem d3_54 : decode prog_23_method_2_code 54 = .ok (.iconst 1, 1) := by decide +kernel
theorem d3_55 : decode prog_23_method_2_code 55 = .ok (.iadd, 1) := by decide +kernel
theorem d3_56 : decode prog_23_method_2_code 56 = .ok (.iaload, 1) := by decide +kernel
theorem d3_57 : decode prog_23_method_2_code 57 = .ok (.if_icmp .le 11, 3) := by decide +kernel
theorem d3_60 : decode prog_23_method_2_code 60 = .ok (.iload 4, 2) := by decide +kernel
theorem d3_62 : decode prog_23_method_2_code 62 = .ok (.iconst 1, 1) := by decide +kernel
theorem d3_63 : decode prog_23_method_2_code 63 = .ok (.iadd, 1) := by decide +kernel
theorem d3_64 : decode prog_23_method_2_code 64 = .ok (.istore_n 2, 1) := by decide +kernel
theorem d3_65 : decode prog_23_method_2_code 65 = .ok (.goto 5, 3) := by decide +kernel
theorem d3_68 : decode prog_23_method_2_code 68 = .ok (.iconst 1, 1) := by decide +kernel
theorem d3_69 : decode prog_23_method_2_code 69 = .ok (.ireturn, 1) := by decide +kernel
def fC1 (x0 : Addr) (x1 : Int32) (ya : Addr) (g : Nat → Int32) : Int32 := (if x1 < (g 0) then (0 : Int32) else (if (g 1) < x1 then (0 : Int32) else (1 : Int32)))
theorem ef_rmC1 (m : MethodId) (x0 : Addr) (x1 : Int32) : entryFrame m #[(.ref x0), (.int x1)] 5 = mkF m 0 #[.val (.ref x0), .val (.int x1), .unset, .unset, .unset] [] := by first | (simp [entryFrame, mkF, argsToLocals, Value.category]; done) | rfl
set_option maxRecDepth 65536 in
set_option maxHeartbeats 40000000 in
theorem rmC1 (l : Launch) (Z : State) (a0 : Array Value) (hw : ∀ d ∈ tables_1, d.before a0 Z = true) (ws : List Jvm.Cond) (x0 : Addr) (x1 : Int32) (ya : Addr) (g : Nat → Int32) (h0 : Heap) (n0 : Nat) (Z0 : n0 ≤ h0.size) (F1 : Fld Z h0 x0 "com/example/tagwright/tagwright/model/CodePointSet" "bounds" "[I" (.ref ya)) (V0 : Ary Z h0 ya .int 2 g) :
    MetFree l (⟨"com/example/tagwright/tagwright/model/CodePointSet", "contains", "(I)Z"⟩ : MethodName) (head1 (Jvm.Cond.code (⟨"com/example/tagwright/tagwright/model/CodePointSet", "contains", "(I)Z"⟩ : MethodName) prog_23_method_2_code 5 (some .boolean) :: ws) ({ frames := 0, cells := 0, slots := 0, locals := 0 } : Room)) (fun a U => a = #[(.ref x0), (.int x1)] ∧ Z.Warmed39 U.vm ∧ U.heap = h0) (fun _ _ _ _ _ => True) (fun _ U o U' => ∃ v L, o = .returned v ∧ (QP (some (.int (fC1 x0 x1 ya g))) h0 n0) v U'.heap L ∧ FrameEnd U o U' L ({ frames := 0, cells := 0, slots := 0, locals := 0 } : Room).cells ({ frames := 0, cells := 0, slots := 0, locals := 0 } : Room).slots) := by
  refine MetFree.of_bodySF (plainFor_of_name pn_0) hisR ?_
  intro p e s m args below meth c s₁ Bd hml0 hP hK
  obtain ⟨rfl, hZ, hh⟩ := hP
  have hx := Bd.exec
  have hby := Bd.bytes
  have hml : c.maxLocals = 5 := hml0
  have hown : s.vm.findClass "com/example/tagwright/tagwright/model/CodePointSet" = some m.cls := findClass_of_methodNamed Bd.named
  have hnm := (name_of_methodNamed Bd.named Bd.method).1
  have X0 : Stand p l e ({ frames := 0, cells := 0, slots := 0, locals := 0 } : Room) s m #[(.ref x0), (.int x1)] below meth c s₁ [] 0 0 := Stand.of_body Bd
  have e0 : s₁.heap = h0 := by rw [← hh, Bd.state]; rfl
  have N0 := Fr.nil n0
  show Ends p e below s (QP (some (.int (fC1 x0 x1 ya g))) h0 n0) ({ frames := 0, cells := 0, slots := 0, locals := 0 } : Room).cells ({ frames := 0, cells := 0, slots := 0, locals := 0 } : Room).slots (s₁.setTop (entryFrame m #[(.ref x0), (.int x1)] 5))
  rw [ef_rmC1 m x0 x1]
  have hv0 : fC1 x0 x1 ya g = fC1 x0 x1 ya g := rfl
  show Ends p e below s _ _ _ (s₁.setTop (mkF m 0 #[.val (.ref x0), .val (.int x1), .unset, .unset, .unset] []))
  refine Es.iconst (q := 1) (z := (0 : Int32)) ?_ X0 hx (hb hby d3_0) rfl rfl
  refine Es.istoreN (q := 2) (l' := #[.val (.ref x0), .val (.int x1), .val (.int (0 : Int32)), .unset, .unset]) ?_ X0 hx (hb hby d3_1) rfl rfl
  refine Es.aloadN (q := 3) ?_ X0 hx (hb hby d3_2) rfl rfl rfl
  obtain ⟨T1, X1, e1, st1⟩ := getF X0 hx hZ hown (host := "") (Or.inl (hw _ (List.mem_of_getElem? (i := 22) rfl))) Via.refl e0 F1 (g := (mkF m 3 #[.val (.ref x0), .val (.int x1), .val (.int (0 : Int32)), .unset, .unset] [(.ref x0)])) rfl rfl (hb hby d3_3)
  refine Ends.by ?_ st1
  show Ends p e below s _ _ _ (T1.setTop (mkF m 6 #[.val (.ref x0), .val (.int x1), .val (.int (0 : Int32)), .unset, .unset] [(.ref ya)]))
  refine Ends.alen (z := (2 : Int32)) ?_ X1 hx hZ e1 V0 (by decide) (hb hby d3_6)
  show Ends p e below s _ _ _ (T1.setTop (mkF m 7 #[.val (.ref x0), .val (.int x1), .val (.int (0 : Int32)), .unset, .unset] [(.int (2 : Int32))]))
  refine Es.iconst (q := 8) (z := (2 : Int32)) ?_ X1 hx (hb hby d3_7) rfl rfl
  refine Es.idiv (q := 9) ?_ X1 hx (hb hby d3_8) rfl (by decide)
  show Ends p e below s _ _ _ (T1.setTop (mkF m 9 _ [(.int (1 : Int32))]))
  refine Es.iconst (q := 10) (z := (1 : Int32)) ?_ X1 hx (hb hby d3_9) rfl rfl
  refine Es.isub (q := 11) ?_ X1 hx (hb hby d3_10) rfl
  show Ends p e below s _ _ _ (T1.setTop (mkF m 11 _ [(.int (0 : Int32))]))
  refine Es.istoreN (q := 12) (l' := #[.val (.ref x0), .val (.int x1), .val (.int (0 : Int32)), .val (.int (0 : Int32)), .unset]) ?_ X1 hx (hb hby d3_11) rfl rfl
  refine Es.iloadN (q := 13) ?_ X1 hx (hb hby d3_12) rfl rfl
  refine Es.iloadN (q := 14) ?_ X1 hx (hb hby d3_13) rfl rfl
  refine Es.icmpNo (q := 17) ?_ X1 hx (hb hby d3_14) rfl (XT.ii_gt_f (by decide))
  refine Es.iloadN (q := 18) ?_ X1 hx (hb hby d3_17) rfl rfl
  refine Es.iloadN (q := 19) ?_ X1 hx (hb hby d3_18) rfl rfl
  refine Es.iadd (q := 20) ?_ X1 hx (hb hby d3_19) rfl
  show Ends p e below s _ _ _ (T1.setTop (mkF m 20 _ [(.int (0 : Int32))]))
  refine Es.iconst (q := 21) (z := (1 : Int32)) ?_ X1 hx (hb hby d3_20) rfl rfl
  refine Es.iushr (q := 22) ?_ X1 hx (hb hby d3_21) rfl
  show Ends p e below s _ _ _ (T1.setTop (mkF m 22 _ [(.int (0 : Int32))]))
  refine Es.istore (q := 24) (l' := #[.val (.ref x0), .val (.int x1), .val (.int (0 : Int32)), .val (.int (0 : Int32)), .val (.int (0 : Int32))]) ?_ X1 hx (hb hby d3_22) rfl rfl
  refine Es.iloadN (q := 25) ?_ X1 hx (hb hby d3_24) rfl rfl
  refine Es.aloadN (q := 26) ?_ X1 hx (hb hby d3_25) rfl rfl rfl
  obtain ⟨T2, X2, e2, st2⟩ := getF X1 hx hZ hown (host := "") (Or.inl (hw _ (List.mem_of_getElem? (i := 22) rfl))) Via.refl e1 F1 (g := (mkF m 26 #[.val (.ref x0), .val (.int x1), .val (.int (0 : Int32)), .val (.int (0 : Int32)), .val (.int (0 : Int32))] [(.ref x0), (.int x1)])) rfl rfl (hb hby d3_26)
  refine Ends.by ?_ st2
  show Ends p e below s _ _ _ (T2.setTop (mkF m 29 #[.val (.ref x0), .val (.int x1), .val (.int (0 : Int32)), .val (.int (0 : Int32)), .val (.int (0 : Int32))] [(.ref ya), (.int x1)]))
  refine Es.iconst (q := 30) (z := (2 : Int32)) ?_ X2 hx (hb hby d3_29) rfl rfl
  refine Es.iload (q := 32) ?_ X2 hx (hb hby d3_30) rfl rfl
  refine Es.imul (q := 33) ?_ X2 hx (hb hby d3_32) rfl
  show Ends p e below s _ _ _ (T2.setTop (mkF m 33 _ [(.int (0 : Int32)), (.ref ya), (.int x1)]))
  refine Ends.iald ?_ X2 hx hZ e2 V0 (by decide) (hb hby d3_33)
  show Ends p e below s _ _ _ (T2.setTop (mkF m 34 #[.val (.ref x0), .val (.int x1), .val (.int (0 : Int32)), .val (.int (0 : Int32)), .val (.int (0 : Int32))] [(.int (g 0)), (.int x1)]))
  by_cases hc3 : x1 < (g 0)
  · have hv4 := hv0.trans (if_pos hc3)
    refine Es.icmpNo (q := 37) ?_ X2 hx (hb hby d3_34) rfl (XT.ii_ge_f hc3)
    refine Es.iload (q := 39) ?_ X2 hx (hb hby d3_37) rfl rfl
    refine Es.iconst (q := 40) (z := (1 : Int32)) ?_ X2 hx (hb hby d3_39) rfl rfl
    refine Es.isub (q := 41) ?_ X2 hx (hb hby d3_40) rfl
    show Ends p e below s _ _ _ (T2.setTop (mkF m 41 _ [(.int (-1 : Int32))]))
    refine Es.istoreN (q := 42) (l' := #[.val (.ref x0), .val (.int x1), .val (.int (0 : Int32)), .val (.int (-1 : Int32)), .val (.int (0 : Int32))]) ?_ X2 hx (hb hby d3_41) rfl rfl
    refine Es.goto (q := 70) ?_ X2 hx (hb hby d3_42) (by decide) (by decide)
    refine Es.goto (q := 12) ?_ X2 hx (hb hby d3_70) (by decide) (by decide)
    refine Es.iloadN (q := 13) ?_ X2 hx (hb hby d3_12) rfl rfl
    refine Es.iloadN (q := 14) ?_ X2 hx (hb hby d3_13) rfl rfl
    refine Es.icmpYes (q := 73) ?_ X2 hx (hb hby d3_14) (XT.ii_gt_t (by decide)) (by decide) (by decide)
    refine Es.iconst (q := 74) (z := (0 : Int32)) ?_ X2 hx (hb hby d3_73) rfl rfl
    exact Ends.retN X2 hx Bd.notSynchronized Bd.returns (t := .boolean) (by simp) (hb hby d3_74) (w := (0 : Int32)) rfl ⟨by rw [hv4]; first | done | rfl, N0, e2⟩ (by decide) (by decide)
  · have hv5 := hv0.trans (if_neg hc3)
    refine Es.icmpYes (q := 45) ?_ X2 hx (hb hby d3_34) (XT.ii_ge_t hc3) (by decide) (by decide)
    refine Es.iloadN (q := 46) ?_ X2 hx (hb hby d3_45) rfl rfl
    refine Es.aloadN (q := 47) ?_ X2 hx (hb hby d3_46) rfl rfl rfl
    obtain ⟨T6, X6, e6, st6⟩ := getF X2 hx hZ hown (host := "") (Or.inl (hw _ (List.mem_of_getElem? (i := 22) rfl))) Via.refl e2 F1 (g := (mkF m 47 #[.val (.ref x0), .val (.int x1), .val (.int (0 : Int32)), .val (.int (0 : Int32)), .val (.int (0 : Int32))] [(.ref x0), (.int x1)])) rfl rfl (hb hby d3_47)
    refine Ends.by ?_ st6
    show Ends p e below s _ _ _ (T6.setTop (mkF m 50 #[.val (.ref x0), .val (.int x1), .val (.int (0 : Int32)), .val (.int (0 : Int32)), .val (.int (0 : Int32))] [(.ref ya), (.int x1)]))
    refine Es.iconst (q := 51) (z := (2 : Int32)) ?_ X6 hx (hb hby d3_50) rfl rfl
    refine Es.iload (q := 53) ?_ X6 hx (hb hby d3_51) rfl rfl
    refine Es.imul (q := 54) ?_ X6 hx (hb hby d3_53) rfl
    show Ends p e below s _ _ _ (T6.setTop (mkF m 54 _ [(.int (0 : Int32)), (.ref ya), (.int x1)]))
    refine Es.iconst (q := 55) (z := (1 : Int32)) ?_ X6 hx (hb hby d3_54) rfl rfl
    refine Es.iadd (q := 56) ?_ X6 hx (hb hby d3_55) rfl
    show Ends p e below s _ _ _ (T6.setTop (mkF m 56 _ [(.int (1 : Int32)), (.ref ya), (.int x1)]))
    refine Ends.iald ?_ X6 hx hZ e6 V0 (by decide) (hb hby d3_56)
    show Ends p e below s _ _ _ (T6.setTop (mkF m 57 #[.val (.ref x0), .val (.int x1), .val (.int (0 : Int32)), .val (.int (0 : Int32)), .val (.int (0 : Int32))] [(.int (g 1)), (.int x1)]))
    by_cases hc7 : (g 1) < x1
    · have hv8 := hv5.trans (if_pos hc7)
      refine Es.icmpNo (q := 60) ?_ X6 hx (hb hby d3_57) rfl (XT.ii_le_f hc7)
      refine Es.iload (q := 62) ?_ X6 hx (hb hby d3_60) rfl rfl
      refine Es.iconst (q := 63) (z := (1 : Int32)) ?_ X6 hx (hb hby d3_62) rfl rfl
      refine Es.iadd (q := 64) ?_ X6 hx (hb hby d3_63) rfl
      show Ends p e below s _ _ _ (T6.setTop (mkF m 64 _ [(.int (1 : Int32))]))
      refine Es.istoreN (q := 65) (l' := #[.val (.ref x0), .val (.int x1), .val (.int (1 : Int32)), .val (.int (0 : Int32)), .val (.int (0 : Int32))]) ?_ X6 hx (hb hby d3_64) rfl rfl
      refine Es.goto (q := 70) ?_ X6 hx (hb hby d3_65) (by decide) (by decide)
      refine Es.goto (q := 12) ?_ X6 hx (hb hby d3_70) (by decide) (by decide)
      refine Es.iloadN (q := 13) ?_ X6 hx (hb hby d3_12) rfl rfl
      refine Es.iloadN (q := 14) ?_ X6 hx (hb hby d3_13) rfl rfl
      refine Es.icmpYes (q := 73) ?_ X6 hx (hb hby d3_14) (XT.ii_gt_t (by decide)) (by decide) (by decide)
      refine Es.iconst (q := 74) (z := (0 : Int32)) ?_ X6 hx (hb hby d3_73) rfl rfl
      exact Ends.retN X6 hx Bd.notSynchronized Bd.returns (t := .boolean) (by simp) (hb hby d3_74) (w := (0 : Int32)) rfl ⟨by rw [hv8]; first | done | rfl, N0, e6⟩ (by decide) (by decide)
    · have hv9 := hv5.trans (if_neg hc7)
      refine Es.icmpYes (q := 68) ?_ X6 hx (hb hby d3_57) (XT.ii_le_t hc7) (by decide) (by decide)
      refine Es.iconst (q := 69) (z := (1 : Int32)) ?_ X6 hx (hb hby d3_68) rfl rfl
      exact Ends.retN X6 hx Bd.notSynchronized Bd.returns (t := .boolean) (by simp) (hb hby d3_69) (w := (1 : Int32)) rfl ⟨by rw [hv9]; first | done | rfl, N0, e6⟩ (by decide) (by decide)

def fC2 (x0 : Addr) (x1 : Int32) (ya : Addr) (g : Nat → Int32) : Int32 := (if x1 < (g 0) then (0 : Int32) else (if (g 1) < x1 then (if x1 < (g 2) then (0 : Int32) else (if (g 3) < x1 then (0 : Int32) else (1 : Int32))) else (1 : Int32)))
theorem ef_rmC2 (m : MethodId) (x0 : Addr) (x1 : Int32) : entryFrame m #[(.ref x0), (.int x1)] 5 = mkF m 0 #[.val (.ref x0), .val (.int x1), .unset, .unset, .unset] [] := by first | (simp [entryFrame, mkF, argsToLocals, Value.category]; done) | rfl
set_option maxRecDepth 65536 in
set_option maxHeartbeats 40000000 in
theorem rmC2 (l : Launch) (Z : State) (a0 : Array Value) (hw : ∀ d ∈ tables_1, d.before a0 Z = true) (ws : List Jvm.Cond) (x0 : Addr) (x1 : Int32) (ya : Addr) (g : Nat → Int32) (h0 : Heap) (n0 : Nat) (Z0 : n0 ≤ h0.size) (F1 : Fld Z h0 x0 "com/example/tagwright/tagwright/model/CodePointSet" "bounds" "[I" (.ref ya)) (V0 : Ary Z h0 ya .int 4 g) :
    MetFree l (⟨"com/example/tagwright/tagwright/model/CodePointSet", "contains", "(I)Z"⟩ : MethodName) (head1 (Jvm.Cond.code (⟨"com/example/tagwright/tagwright/model/CodePointSet", "contains", "(I)Z"⟩ : MethodName) prog_23_method_2_code 5 (some .boolean) :: ws) ({ frames := 0, cells := 0, slots := 0, locals := 0 } : Room)) (fun a U => a = #[(.ref x0), (.int x1)] ∧ Z.Warmed39 U.vm ∧ U.heap = h0) (fun _ _ _ _ _ => True) (fun _ U o U' => ∃ v L, o = .returned v ∧ (QP (some (.int (fC2 x0 x1 ya g))) h0 n0) v U'.heap L ∧ FrameEnd U o U' L ({ frames := 0, cells := 0, slots := 0, locals := 0 } : Room).cells ({ frames := 0, cells := 0, slots := 0, locals := 0 } : Room).slots) := by
  refine MetFree.of_bodySF (plainFor_of_name pn_0) hisR ?_
  intro p e s m args below meth c s₁ Bd hml0 hP hK
  obtain ⟨rfl, hZ, hh⟩ := hP
  have hx := Bd.exec
  have hby := Bd.bytes
  have hml : c.maxLocals = 5 := hml0
  have hown : s.vm.findClass "com/example/tagwright/tagwright/model/CodePointSet" = some m.cls := findClass_of_methodNamed Bd.named
  have hnm := (name_of_methodNamed Bd.named Bd.method).1
  have X0 : Stand p l e ({ frames := 0, cells := 0, slots := 0, locals := 0 } : Room) s m #[(.ref x0), (.int x1)] below meth c s₁ [] 0 0 := Stand.of_body Bd
  have e0 : s₁.heap = h0 := by rw [← hh, Bd.state]; rfl
  have N0 := Fr.nil n0
  show Ends p e below s (QP (some (.int (fC2 x0 x1 ya g))) h0 n0) ({ frames := 0, cells := 0, slots := 0, locals := 0 } : Room).cells ({ frames := 0, cells := 0, slots := 0, locals := 0 } : Room).slots (s₁.setTop (entryFrame m #[(.ref x0), (.int x1)] 5))
  rw [ef_rmC2 m x0 x1]
  have hv0 : fC2 x0 x1 ya g = fC2 x0 x1 ya g := rfl
  show Ends p e below s _ _ _ (s₁.setTop (mkF m 0 #[.val (.ref x0), .val (.int x1), .unset, .unset, .unset] []))
  refine Es.iconst (q := 1) (z := (0 : Int32)) ?_ X0 hx (hb hby d3_0) rfl rfl
  refine Es.istoreN (q := 2) (l' := #[.val (.ref x0), .val (.int x1), .val (.int (0 : Int32)), .unset, .unset]) ?_ X0 hx (hb hby d3_1) rfl rfl
  refine Es.aloadN (q := 3) ?_ X0 hx (hb hby d3_2) rfl rfl rfl
  obtain ⟨T1, X1, e1, st1⟩ := getF X0 hx hZ hown (host := "") (Or.inl (hw _ (List.mem_of_getElem? (i := 22) rfl))) Via.refl e0 F1 (g := (mkF m 3 #[.val (.ref x0), .val (.int x1), .val (.int (0 : Int32)), .unset, .unset] [(.ref x0)])) rfl rfl (hb hby d3_3)
  refine Ends.by ?_ st1
  show Ends p e below s _ _ _ (T1.setTop (mkF m 6 #[.val (.ref x0), .val (.int x1), .val (.int (0 : Int32)), .unset, .unset] [(.ref ya)]))
  refine Ends.alen (z := (4 : Int32)) ?_ X1 hx hZ e1 V0 (by decide) (hb hby d3_6)
  show Ends p e below s _ _ _ (T1.setTop (mkF m 7 #[.val (.ref x0), .val (.int x1), .val (.int (0 : Int32)), .unset, .unset] [(.int (4 : Int32))]))
  refine Es.iconst (q := 8) (z := (2 : Int32)) ?_ X1 hx (hb hby d3_7) rfl rfl
  refine Es.idiv (q := 9) ?_ X1 hx (hb hby d3_8) rfl (by decide)
  show Ends p e below s _ _ _ (T1.setTop (mkF m 9 _ [(.int (2 : Int32))]))
  refine Es.iconst (q := 10) (z := (1 : Int32)) ?_ X1 hx (hb hby d3_9) rfl rfl
  refine Es.isub (q := 11) ?_ X1 hx (hb hby d3_10) rfl
  show Ends p e below s _ _ _ (T1.setTop (mkF m 11 _ [(.int (1 : Int32))]))
  refine Es.istoreN (q := 12) (l' := #[.val (.ref x0), .val (.int x1), .val (.int (0 : Int32)), .val (.int (1 : Int32)), .unset]) ?_ X1 hx (hb hby d3_11) rfl rfl
  refine Es.iloadN (q := 13) ?_ X1 hx (hb hby d3_12) rfl rfl
  refine Es.iloadN (q := 14) ?_ X1 hx (hb hby d3_13) rfl rfl
  refine Es.icmpNo (q := 17) ?_ X1 hx (hb hby d3_14) rfl (XT.ii_gt_f (by decide))
  refine Es.iloadN (q := 18) ?_ X1 hx (hb hby d3_17) rfl rfl
  refine Es.iloadN (q := 19) ?_ X1 hx (hb hby d3_18) rfl rfl
  refine Es.iadd (q := 20) ?_ X1 hx (hb hby d3_19) rfl
  show Ends p e below s _ _ _ (T1.setTop (mkF m 20 _ [(.int (1 : Int32))]))
  refine Es.iconst (q := 21) (z := (1 : Int32)) ?_ X1 hx (hb hby d3_20) rfl rfl
  refine Es.iushr (q := 22) ?_ X1 hx (hb hby d3_21) rfl
  show Ends p e below s _ _ _ (T1.setTop (mkF m 22 _ [(.int (0 : Int32))]))
  refine Es.istore (q := 24) (l' := #[.val (.ref x0), .val (.int x1), .val (.int (0 : Int32)), .val (.int (1 : Int32)), .val (.int (0 : Int32))]) ?_ X1 hx (hb hby d3_22) rfl rfl
  refine Es.iloadN (q := 25) ?_ X1 hx (hb hby d3_24) rfl rfl
  refine Es.aloadN (q := 26) ?_ X1 hx (hb hby d3_25) rfl rfl rfl
  obtain ⟨T2, X2, e2, st2⟩ := getF X1 hx hZ hown (host := "") (Or.inl (hw _ (List.mem_of_getElem? (i := 22) rfl))) Via.refl e1 F1 (g := (mkF m 26 #[.val (.ref x0), .val (.int x1), .val (.int (0 : Int32)), .val (.int (1 : Int32)), .val (.int (0 : Int32))] [(.ref x0), (.int x1)])) rfl rfl (hb hby d3_26)
  refine Ends.by ?_ st2
  show Ends p e below s _ _ _ (T2.setTop (mkF m 29 #[.val (.ref x0), .val (.int x1), .val (.int (0 : Int32)), .val (.int (1 : Int32)), .val (.int (0 : Int32))] [(.ref ya), (.int x1)]))
  refine Es.iconst (q := 30) (z := (2 : Int32)) ?_ X2 hx (hb hby d3_29) rfl rfl
  refine Es.iload (q := 32) ?_ X2 hx (hb hby d3_30) rfl rfl
  refine Es.imul (q := 33) ?_ X2 hx (hb hby d3_32) rfl
  show Ends p e below s _ _ _ (T2.setTop (mkF m 33 _ [(.int (0 : Int32)), (.ref ya), (.int x1)]))
  refine Ends.iald ?_ X2 hx hZ e2 V0 (by decide) (hb hby d3_33)
  show Ends p e below s _ _ _ (T2.setTop (mkF m 34 #[.val (.ref x0), .val (.int x1), .val (.int (0 : Int32)), .val (.int (1 : Int32)), .val (.int (0 : Int32))] [(.int (g 0)), (.int x1)]))
  by_cases hc3 : x1 < (g 0)
  · have hv4 := hv0.trans (if_pos hc3)
    refine Es.icmpNo (q := 37) ?_ X2 hx (hb hby d3_34) rfl (XT.ii_ge_f hc3)
    refine Es.iload (q := 39) ?_ X2 hx (hb hby d3_37) rfl rfl
    refine Es.iconst (q := 40) (z := (1 : Int32)) ?_ X2 hx (hb hby d3_39) rfl rfl
    refine Es.isub (q := 41) ?_ X2 hx (hb hby d3_40) rfl
    show Ends p e below s _ _ _ (T2.setTop (mkF m 41 _ [(.int (-1 : Int32))]))
    refine Es.istoreN (q := 42) (l' := #[.val (.ref x0), .val (.int x1), .val (.int (0 : Int32)), .val (.int (-1 : Int32)), .val (.int (0 : Int32))]) ?_ X2 hx (hb hby d3_41) rfl rfl
    refine Es.goto (q := 70) ?_ X2 hx (hb hby d3_42) (by decide) (by decide)
    refine Es.goto (q := 12) ?_ X2 hx (hb hby d3_70) (by decide) (by decide)
    refine Es.iloadN (q := 13) ?_ X2 hx (hb hby d3_12) rfl rfl
    refine Es.iloadN (q := 14) ?_ X2 hx (hb hby d3_13) rfl rfl
    refine Es.icmpYes (q := 73) ?_ X2 hx (hb hby d3_14) (XT.ii_gt_t (by decide)) (by decide) (by decide)
    refine Es.iconst (q := 74) (z := (0 : Int32)) ?_ X2 hx (hb hby d3_73) rfl rfl
    exact Ends.retN X2 hx Bd.notSynchronized Bd.returns (t := .boolean) (by simp) (hb hby d3_74) (w := (0 : Int32)) rfl ⟨by rw [hv4]; first | done | rfl, N0, e2⟩ (by decide) (by decide)
  · have hv5 := hv0.trans (if_neg hc3)
    refine Es.icmpYes (q := 45) ?_ X2 hx (hb hby d3_34) (XT.ii_ge_t hc3) (by decide) (by decide)
    refine Es.iloadN (q := 46) ?_ X2 hx (hb hby d3_45) rfl rfl
    refine Es.aloadN (q := 47) ?_ X2 hx (hb hby d3_46) rfl rfl rfl
    obtain ⟨T6, X6, e6, st6⟩ := getF X2 hx hZ hown (host := "") (Or.inl (hw _ (List.mem_of_getElem? (i := 22) rfl))) Via.refl e2 F1 (g := (mkF m 47 #[.val (.ref x0), .val (.int x1), .val (.int (0 : Int32)), .val (.int (1 : Int32)), .val (.int (0 : Int32))] [(.ref x0), (.int x1)])) rfl rfl (hb hby d3_47)
    refine Ends.by ?_ st6
    show Ends p e below s _ _ _ (T6.setTop (mkF m 50 #[.val (.ref x0), .val (.int x1), .val (.int (0 : Int32)), .val (.int (1 : Int32)), .val (.int (0 : Int32))] [(.ref ya), (.int x1)]))
    refine Es.iconst (q := 51) (z := (2 : Int32)) ?_ X6 hx (hb hby d3_50) rfl rfl
    refine Es.iload (q := 53) ?_ X6 hx (hb hby d3_51) rfl rfl
    refine Es.imul (q := 54) ?_ X6 hx (hb hby d3_53) rfl
    show Ends p e below s _ _ _ (T6.setTop (mkF m 54 _ [(.int (0 : Int32)), (.ref ya), (.int x1)]))
    refine Es.iconst (q := 55) (z := (1 : Int32)) ?_ X6 hx (hb hby d3_54) rfl rfl
    refine Es.iadd (q := 56) ?_ X6 hx (hb hby d3_55) rfl
    show Ends p e below s _ _ _ (T6.setTop (mkF m 56 _ [(.int (1 : Int32)), (.ref ya), (.int x1)]))
    refine Ends.iald ?_ X6 hx hZ e6 V0 (by decide) (hb hby d3_56)
    show Ends p e below s _ _ _ (T6.setTop (mkF m 57 #[.val (.ref x0), .val (.int x1), .val (.int (0 : Int32)), .val (.int (1 : Int32)), .val (.int (0 : Int32))] [(.int (g 1)), (.int x1)]))
    by_cases hc7 : (g 1) < x1
    · have hv8 := hv5.trans (if_pos hc7)
      refine Es.icmpNo (q := 60) ?_ X6 hx (hb hby d3_57) rfl (XT.ii_le_f hc7)
      refine Es.iload (q := 62) ?_ X6 hx (hb hby d3_60) rfl rfl
      refine Es.iconst (q := 63) (z := (1 : Int32)) ?_ X6 hx (hb hby d3_62) rfl rfl
      refine Es.iadd (q := 64) ?_ X6 hx (hb hby d3_63) rfl
      show Ends p e below s _ _ _ (T6.setTop (mkF m 64 _ [(.int (1 : Int32))]))
      refine Es.istoreN (q := 65) (l' := #[.val (.ref x0), .val (.int x1), .val (.int (1 : Int32)), .val (.int (1 : Int32)), .val (.int (0 : Int32))]) ?_ X6 hx (hb hby d3_64) rfl rfl
      refine Es.goto (q := 70) ?_ X6 hx (hb hby d3_65) (by decide) (by decide)
      refine Es.goto (q := 12) ?_ X6 hx (hb hby d3_70) (by decide) (by decide)
      refine Es.iloadN (q := 13) ?_ X6 hx (hb hby d3_12) rfl rfl
      refine Es.iloadN (q := 14) ?_ X6 hx (hb hby d3_13) rfl rfl
      refine Es.icmpNo (q := 17) ?_ X6 hx (hb hby d3_14) rfl (XT.ii_gt_f (by decide))
      refine Es.iloadN (q := 18) ?_ X6 hx (hb hby d3_17) rfl rfl
      refine Es.iloadN (q := 19) ?_ X6 hx (hb hby d3_18) rfl rfl
      refine Es.iadd (q := 20) ?_ X6 hx (hb hby d3_19) rfl
      show Ends p e below s _ _ _ (T6.setTop (mkF m 20 _ [(.int (2 : Int32))]))
      refine Es.iconst (q := 21) (z := (1 : Int32)) ?_ X6 hx (hb hby d3_20) rfl rfl
      refine Es.iushr (q := 22) ?_ X6 hx (hb hby d3_21) rfl
      show Ends p e below s _ _ _ (T6.setTop (mkF m 22 _ [(.int (1 : Int32))]))
      refine Es.istore (q := 24) (l' := #[.val (.ref x0), .val (.int x1), .val (.int (1 : Int32)), .val (.int (1 : Int32)), .val (.int (1 : Int32))]) ?_ X6 hx (hb hby d3_22) rfl rfl
      refine Es.iloadN (q := 25) ?_ X6 hx (hb hby d3_24) rfl rfl
      refine Es.aloadN (q := 26) ?_ X6 hx (hb hby d3_25) rfl rfl rfl
      obtain ⟨T9, X9, e9, st9⟩ := getF X6 hx hZ hown (host := "") (Or.inl (hw _ (List.mem_of_getElem? (i := 22) rfl))) Via.refl e6 F1 (g := (mkF m 26 #[.val (.ref x0), .val (.int x1), .val (.int (1 : Int32)), .val (.int (1 : Int32)), .val (.int (1 : Int32))] [(.ref x0), (.int x1)])) rfl rfl (hb hby d3_26)
      refine Ends.by ?_ st9
      show Ends p e below s _ _ _ (T9.setTop (mkF m 29 #[.val (.ref x0), .val (.int x1), .val (.int (1 : Int32)), .val (.int (1 : Int32)), .val (.int (1 : Int32))] [(.ref ya), (.int x1)]))
      refine Es.iconst (q := 30) (z := (2 : Int32)) ?_ X9 hx (hb hby d3_29) rfl rfl
      refine Es.iload (q := 32) ?_ X9 hx (hb hby d3_30) rfl rfl
      refine Es.imul (q := 33) ?_ X9 hx (hb hby d3_32) rfl
      show Ends p e below s _ _ _ (T9.setTop (mkF m 33 _ [(.int (2 : Int32)), (.ref ya), (.int x1)]))
      refine Ends.iald ?_ X9 hx hZ e9 V0 (by decide) (hb hby d3_33)
      show Ends p e below s _ _ _ (T9.setTop (mkF m 34 #[.val (.ref x0), .val (.int x1), .val (.int (1 : Int32)), .val (.int (1 : Int32)), .val (.int (1 : Int32))] [(.int (g 2)), (.int x1)]))
      by_cases hc10 : x1 < (g 2)
      · have hv11 := hv8.trans (if_pos hc10)
        refine Es.icmpNo (q := 37) ?_ X9 hx (hb hby d3_34) rfl (XT.ii_ge_f hc10)
        refine Es.iload (q := 39) ?_ X9 hx (hb hby d3_37) rfl rfl
        refine Es.iconst (q := 40) (z := (1 : Int32)) ?_ X9 hx (hb hby d3_39) rfl rfl
        refine Es.isub (q := 41) ?_ X9 hx (hb hby d3_40) rfl
        show Ends p e below s _ _ _ (T9.setTop (mkF m 41 _ [(.int (0 : Int32))]))
        refine Es.istoreN (q := 42) (l' := #[.val (.ref x0), .val (.int x1), .val (.int (1 : Int32)), .val (.int (0 : Int32)), .val (.int (1 : Int32))]) ?_ X9 hx (hb hby d3_41) rfl rfl
        refine Es.goto (q := 70) ?_ X9 hx (hb hby d3_42) (by decide) (by decide)
        refine Es.goto (q := 12) ?_ X9 hx (hb hby d3_70) (by decide) (by decide)
        refine Es.iloadN (q := 13) ?_ X9 hx (hb hby d3_12) rfl rfl
        refine Es.iloadN (q := 14) ?_ X9 hx (hb hby d3_13) rfl rfl
        refine Es.icmpYes (q := 73) ?_ X9 hx (hb hby d3_14) (XT.ii_gt_t (by decide)) (by decide) (by decide)
        refine Es.iconst (q := 74) (z := (0 : Int32)) ?_ X9 hx (hb hby d3_73) rfl rfl
        exact Ends.retN X9 hx Bd.notSynchronized Bd.returns (t := .boolean) (by simp) (hb hby d3_74) (w := (0 : Int32)) rfl ⟨by rw [hv11]; first | done | rfl, N0, e9⟩ (by decide) (by decide)
      · have hv12 := hv8.trans (if_neg hc10)
        refine Es.icmpYes (q := 45) ?_ X9 hx (hb hby d3_34) (XT.ii_ge_t hc10) (by decide) (by decide)
        refine Es.iloadN (q := 46) ?_ X9 hx (hb hby d3_45) rfl rfl
        refine Es.aloadN (q := 47) ?_ X9 hx (hb hby d3_46) rfl rfl rfl
        obtain ⟨T13, X13, e13, st13⟩ := getF X9 hx hZ hown (host := "") (Or.inl (hw _ (List.mem_of_getElem? (i := 22) rfl))) Via.refl e9 F1 (g := (mkF m 47 #[.val (.ref x0), .val (.int x1), .val (.int (1 : Int32)), .val (.int (1 : Int32)), .val (.int (1 : Int32))] [(.ref x0), (.int x1)])) rfl rfl (hb hby d3_47)
        refine Ends.by ?_ st13
        show Ends p e below s _ _ _ (T13.setTop (mkF m 50 #[.val (.ref x0), .val (.int x1), .val (.int (1 : Int32)), .val (.int (1 : Int32)), .val (.int (1 : Int32))] [(.ref ya), (.int x1)]))
        refine Es.iconst (q := 51) (z := (2 : Int32)) ?_ X13 hx (hb hby d3_50) rfl rfl
        refine Es.iload (q := 53) ?_ X13 hx (hb hby d3_51) rfl rfl
        refine Es.imul (q := 54) ?_ X13 hx (hb hby d3_53) rfl
        show Ends p e below s _ _ _ (T13.setTop (mkF m 54 _ [(.int (2 : Int32)), (.ref ya), (.int x1)]))
        refine Es.iconst (q := 55) (z := (1 : Int32)) ?_ X13 hx (hb hby d3_54) rfl rfl
        refine Es.iadd (q := 56) ?_ X13 hx (hb hby d3_55) rfl
        show Ends p e below s _ _ _ (T13.setTop (mkF m 56 _ [(.int (3 : Int32)), (.ref ya), (.int x1)]))
        refine Ends.iald ?_ X13 hx hZ e13 V0 (by decide) (hb hby d3_56)
        show Ends p e below s _ _ _ (T13.setTop (mkF m 57 #[.val (.ref x0), .val (.int x1), .val (.int (1 : Int32)), .val (.int (1 : Int32)), .val (.int (1 : Int32))] [(.int (g 3)), (.int x1)]))
        by_cases hc14 : (g 3) < x1
        · have hv15 := hv12.trans (if_pos hc14)
          refine Es.icmpNo (q := 60) ?_ X13 hx (hb hby d3_57) rfl (XT.ii_le_f hc14)
          refine Es.iload (q := 62) ?_ X13 hx (hb hby d3_60) rfl rfl
          refine Es.iconst (q := 63) (z := (1 : Int32)) ?_ X13 hx (hb hby d3_62) rfl rfl
          refine Es.iadd (q := 64) ?_ X13 hx (hb hby d3_63) rfl
          show Ends p e below s _ _ _ (T13.setTop (mkF m 64 _ [(.int (2 : Int32))]))
          refine Es.istoreN (q := 65) (l' := #[.val (.ref x0), .val (.int x1), .val (.int (2 : Int32)), .val (.int (1 : Int32)), .val (.int (1 : Int32))]) ?_ X13 hx (hb hby d3_64) rfl rfl
          refine Es.goto (q := 70) ?_ X13 hx (hb hby d3_65) (by decide) (by decide)
          refine Es.goto (q := 12) ?_ X13 hx (hb hby d3_70) (by decide) (by decide)
          refine Es.iloadN (q := 13) ?_ X13 hx (hb hby d3_12) rfl rfl
          refine Es.iloadN (q := 14) ?_ X13 hx (hb hby d3_13) rfl rfl
          refine Es.icmpYes (q := 73) ?_ X13 hx (hb hby d3_14) (XT.ii_gt_t (by decide)) (by decide) (by decide)
          refine Es.iconst (q := 74) (z := (0 : Int32)) ?_ X13 hx (hb hby d3_73) rfl rfl
          exact Ends.retN X13 hx Bd.notSynchronized Bd.returns (t := .boolean) (by simp) (hb hby d3_74) (w := (0 : Int32)) rfl ⟨by rw [hv15]; first | done | rfl, N0, e13⟩ (by decide) (by decide)
        · have hv16 := hv12.trans (if_neg hc14)
          refine Es.icmpYes (q := 68) ?_ X13 hx (hb hby d3_57) (XT.ii_le_t hc14) (by decide) (by decide)
          refine Es.iconst (q := 69) (z := (1 : Int32)) ?_ X13 hx (hb hby d3_68) rfl rfl
          exact Ends.retN X13 hx Bd.notSynchronized Bd.returns (t := .boolean) (by simp) (hb hby d3_69) (w := (1 : Int32)) rfl ⟨by rw [hv16]; first | done | rfl, N0, e13⟩ (by decide) (by decide)
    · have hv17 := hv5.trans (if_neg hc7)
      refine Es.icmpYes (q := 68) ?_ X6 hx (hb hby d3_57) (XT.ii_le_t hc7) (by decide) (by decide)
      refine Es.iconst (q := 69) (z := (1 : Int32)) ?_ X6 hx (hb hby d3_68) rfl rfl
      exact Ends.retN X6 hx Bd.notSynchronized Bd.returns (t := .boolean) (by simp) (hb hby d3_69) (w := (1 : Int32)) rfl ⟨by rw [hv17]; first | done | rfl, N0, e6⟩ (by decide) (by decide)

def fC3 (x0 : Addr) (x1 : Int32) (ya : Addr) (g : Nat → Int32) : Int32 := (if x1 < (g 2) then (if x1 < (g 0) then (0 : Int32) else (if (g 1) < x1 then (0 : Int32) else (1 : Int32))) else (if (g 3) < x1 then (if x1 < (g 4) then (0 : Int32) else (if (g 5) < x1 then (0 : Int32) else (1 : Int32))) else (1 : Int32)))
theorem ef_rmC3 (m : MethodId) (x0 : Addr) (x1 : Int32) : entryFrame m #[(.ref x0), (.int x1)] 5 = mkF m 0 #[.val (.ref x0), .val (.int x1), .unset, .unset, .unset] [] := by first | (simp [entryFrame, mkF, argsToLocals, Value.category]; done) | rfl
set_option maxRecDepth 65536 in
set_option maxHeartbeats 40000000 in
theorem rmC3 (l : Launch) (Z : State) (a0 : Array Value) (hw : ∀ d ∈ tables_1, d.before a0 Z = true) (ws : List Jvm.Cond) (x0 : Addr) (x1 : Int32) (ya : Addr) (g : Nat → Int32) (h0 : Heap) (n0 : Nat) (Z0 : n0 ≤ h0.size) (F1 : Fld Z h0 x0 "com/example/tagwright/tagwright/model/CodePointSet" "bounds" "[I" (.ref ya)) (V0 : Ary Z h0 ya .int 6 g) :
    MetFree l (⟨"com/example/tagwright/tagwright/model/CodePointSet", "contains", "(I)Z"⟩ : MethodName) (head1 (Jvm.Cond.code (⟨"com/example/tagwright/tagwright/model/CodePointSet", "contains", "(I)Z"⟩ : MethodName) prog_23_method_2_code 5 (some .boolean) :: ws) ({ frames := 0, cells := 0, slots := 0, locals := 0 } : Room)) (fun a U => a = #[(.ref x0), (.int x1)] ∧ Z.Warmed39 U.vm ∧ U.heap = h0) (fun _ _ _ _ _ => True) (fun _ U o U' => ∃ v L, o = .returned v ∧ (QP (some (.int (fC3 x0 x1 ya g))) h0 n0) v U'.heap L ∧ FrameEnd U o U' L ({ frames := 0, cells := 0, slots := 0, locals := 0 } : Room).cells ({ frames := 0, cells := 0, slots := 0, locals := 0 } : Room).slots) := by
  refine MetFree.of_bodySF (plainFor_of_name pn_0) hisR ?_
  intro p e s m args below meth c s₁ Bd hml0 hP hK
  obtain ⟨rfl, hZ, hh⟩ := hP
  have hx := Bd.exec
  have hby := Bd.bytes
  have hml : c.maxLocals = 5 := hml0
  have hown : s.vm.findClass "com/example/tagwright/tagwright/model/CodePointSet" = some m.cls := findClass_of_methodNamed Bd.named
  have hnm := (name_of_methodNamed Bd.named Bd.method).1
  have X0 : Stand p l e ({ frames := 0, cells := 0, slots := 0, locals := 0 } : Room) s m #[(.ref x0), (.int x1)] below meth c s₁ [] 0 0 := Stand.of_body Bd
  have e0 : s₁.heap = h0 := by rw [← hh, Bd.state]; rfl
  have N0 := Fr.nil n0
  show Ends p e below s (QP (some (.int (fC3 x0 x1 ya g))) h0 n0) ({ frames := 0, cells := 0, slots := 0, locals := 0 } : Room).cells ({ frames := 0, cells := 0, slots := 0, locals := 0 } : Room).slots (s₁.setTop (entryFrame m #[(.ref x0), (.int x1)] 5))
  rw [ef_rmC3 m x0 x1]
  have hv0 : fC3 x0 x1 ya g = fC3 x0 x1 ya g := rfl
  show Ends p e below s _ _ _ (s₁.setTop (mkF m 0 #[.val (.ref x0), .val (.int x1), .unset, .unset, .unset] []))
  refine Es.iconst (q := 1) (z := (0 : Int32)) ?_ X0 hx (hb hby d3_0) rfl rfl
  refine Es.istoreN (q := 2) (l' := #[.val (.ref x0), .val (.int x1), .val (.int (0 : Int32)), .unset, .unset]) ?_ X0 hx (hb hby d3_1) rfl rfl
  refine Es.aloadN (q := 3) ?_ X0 hx (hb hby d3_2) rfl rfl rfl
  obtain ⟨T1, X1, e1, st1⟩ := getF X0 hx hZ hown (host := "") (Or.inl (hw _ (List.mem_of_getElem? (i := 22) rfl))) Via.refl e0 F1 (g := (mkF m 3 #[.val (.ref x0), .val (.int x1), .val (.int (0 : Int32)), .unset, .unset] [(.ref x0)])) rfl rfl (hb hby d3_3)
  refine Ends.by ?_ st1
  show Ends p e below s _ _ _ (T1.setTop (mkF m 6 #[.val (.ref x0), .val (.int x1), .val (.int (0 : Int32)), .unset, .unset] [(.ref ya)]))
  refine Ends.alen (z := (6 : Int32)) ?_ X1 hx hZ e1 V0 (by decide) (hb hby d3_6)
  show Ends p e below s _ _ _ (T1.setTop (mkF m 7 #[.val (.ref x0), .val (.int x1), .val (.int (0 : Int32)), .unset, .unset] [(.int (6 : Int32))]))
  refine Es.iconst (q := 8) (z := (2 : Int32)) ?_ X1 hx (hb hby d3_7) rfl rfl
  refine Es.idiv (q := 9) ?_ X1 hx (hb hby d3_8) rfl (by decide)
  show Ends p e below s _ _ _ (T1.setTop (mkF m 9 _ [(.int (3 : Int32))]))
  refine Es.iconst (q := 10) (z := (1 : Int32)) ?_ X1 hx (hb hby d3_9) rfl rfl
  refine Es.isub (q := 11) ?_ X1 hx (hb hby d3_10) rfl
  show Ends p e below s _ _ _ (T1.setTop (mkF m 11 _ [(.int (2 : Int32))]))
  refine Es.istoreN (q := 12) (l' := #[.val (.ref x0), .val (.int x1), .val (.int (0 : Int32)), .val (.int (2 : Int32)), .unset]) ?_ X1 hx (hb hby d3_11) rfl rfl
  refine Es.iloadN (q := 13) ?_ X1 hx (hb hby d3_12) rfl rfl
  refine Es.iloadN (q := 14) ?_ X1 hx (hb hby d3_13) rfl rfl
  refine Es.icmpNo (q := 17) ?_ X1 hx (hb hby d3_14) rfl (XT.ii_gt_f (by decide))
  refine Es.iloadN (q := 18) ?_ X1 hx (hb hby d3_17) rfl rfl
  refine Es.iloadN (q := 19) ?_ X1 hx (hb hby d3_18) rfl rfl
  refine Es.iadd (q := 20) ?_ X1 hx (hb hby d3_19) rfl
  show Ends p e below s _ _ _ (T1.setTop (mkF m 20 _ [(.int (2 : Int32))]))
  refine Es.iconst (q := 21) (z := (1 : Int32)) ?_ X1 hx (hb hby d3_20) rfl rfl
  refine Es.iushr (q := 22) ?_ X1 hx (hb hby d3_21) rfl
  show Ends p e below s _ _ _ (T1.setTop (mkF m 22 _ [(.int (1 : Int32))]))
  refine Es.istore (q := 24) (l' := #[.val (.ref x0), .val (.int x1), .val (.int (0 : Int32)), .val (.int (2 : Int32)), .val (.int (1 : Int32))]) ?_ X1 hx (hb hby d3_22) rfl rfl
  refine Es.iloadN (q := 25) ?_ X1 hx (hb hby d3_24) rfl rfl
  refine Es.aloadN (q := 26) ?_ X1 hx (hb hby d3_25) rfl rfl rfl
  obtain ⟨T2, X2, e2, st2⟩ := getF X1 hx hZ hown (host := "") (Or.inl (hw _ (List.mem_of_getElem? (i := 22) rfl))) Via.refl e1 F1 (g := (mkF m 26 #[.val (.ref x0), .val (.int x1), .val (.int (0 : Int32)), .val (.int (2 : Int32)), .val (.int (1 : Int32))] [(.ref x0), (.int x1)])) rfl rfl (hb hby d3_26)
  refine Ends.by ?_ st2
  show Ends p e below s _ _ _ (T2.setTop (mkF m 29 #[.val (.ref x0), .val (.int x1), .val (.int (0 : Int32)), .val (.int (2 : Int32)), .val (.int (1 : Int32))] [(.ref ya), (.int x1)]))
  refine Es.iconst (q := 30) (z := (2 : Int32)) ?_ X2 hx (hb hby d3_29) rfl rfl
  refine Es.iload (q := 32) ?_ X2 hx (hb hby d3_30) rfl rfl
  refine Es.imul (q := 33) ?_ X2 hx (hb hby d3_32) rfl
  show Ends p e below s _ _ _ (T2.setTop (mkF m 33 _ [(.int (2 : Int32)), (.ref ya), (.int x1)]))
  refine Ends.iald ?_ X2 hx hZ e2 V0 (by decide) (hb hby d3_33)
  show Ends p e below s _ _ _ (T2.setTop (mkF m 34 #[.val (.ref x0), .val (.int x1), .val (.int (0 : Int32)), .val (.int (2 : Int32)), .val (.int (1 : Int32))] [(.int (g 2)), (.int x1)]))
  by_cases hc3 : x1 < (g 2)
  · have hv4 := hv0.trans (if_pos hc3)
    refine Es.icmpNo (q := 37) ?_ X2 hx (hb hby d3_34) rfl (XT.ii_ge_f hc3)
    refine Es.iload (q := 39) ?_ X2 hx (hb hby d3_37) rfl rfl
    refine Es.iconst (q := 40) (z := (1 : Int32)) ?_ X2 hx (hb hby d3_39) rfl rfl
    refine Es.isub (q := 41) ?_ X2 hx (hb hby d3_40) rfl
    show Ends p e below s _ _ _ (T2.setTop (mkF m 41 _ [(.int (0 : Int32))]))
    refine Es.istoreN (q := 42) (l' := #[.val (.ref x0), .val (.int x1), .val (.int (0 : Int32)), .val (.int (0 : Int32)), .val (.int (1 : Int32))]) ?_ X2 hx (hb hby d3_41) rfl rfl
    refine Es.goto (q := 70) ?_ X2 hx (hb hby d3_42) (by decide) (by decide)
    refine Es.goto (q := 12) ?_ X2 hx (hb hby d3_70) (by decide) (by decide)
    refine Es.iloadN (q := 13) ?_ X2 hx (hb hby d3_12) rfl rfl
    refine Es.iloadN (q := 14) ?_ X2 hx (hb hby d3_13) rfl rfl
    refine Es.icmpNo (q := 17) ?_ X2 hx (hb hby d3_14) rfl (XT.ii_gt_f (by decide))
    refine Es.iloadN (q := 18) ?_ X2 hx (hb hby d3_17) rfl rfl
    refine Es.iloadN (q := 19) ?_ X2 hx (hb hby d3_18) rfl rfl
    refine Es.iadd (q := 20) ?_ X2 hx (hb hby d3_19) rfl
    show Ends p e below s _ _ _ (T2.setTop (mkF m 20 _ [(.int (0 : Int32))]))
    refine Es.iconst (q := 21) (z := (1 : Int32)) ?_ X2 hx (hb hby d3_20) rfl rfl
    refine Es.iushr (q := 22) ?_ X2 hx (hb hby d3_21) rfl
    show Ends p e below s _ _ _ (T2.setTop (mkF m 22 _ [(.int (0 : Int32))]))
    refine Es.istore (q := 24) (l' := #[.val (.ref x0), .val (.int x1), .val (.int (0 : Int32)), .val (.int (0 : Int32)), .val (.int (0 : Int32))]) ?_ X2 hx (hb hby d3_22) rfl rfl
    refine Es.iloadN (q := 25) ?_ X2 hx (hb hby d3_24) rfl rfl
    refine Es.aloadN (q := 26) ?_ X2 hx (hb hby d3_25) rfl rfl rfl
    obtain ⟨T5, X5, e5, st5⟩ := getF X2 hx hZ hown (host := "") (Or.inl (hw _ (List.mem_of_getElem? (i := 22) rfl))) Via.refl e2 F1 (g := (mkF m 26 #[.val (.ref x0), .val (.int x1), .val (.int (0 : Int32)), .val (.int (0 : Int32)), .val (.int (0 : Int32))] [(.ref x0), (.int x1)])) rfl rfl (hb hby d3_26)
    refine Ends.by ?_ st5
    show Ends p e below s _ _ _ (T5.setTop (mkF m 29 #[.val (.ref x0), .val (.int x1), .val (.int (0 : Int32)), .val (.int (0 : Int32)), .val (.int (0 : Int32))] [(.ref ya), (.int x1)]))
    refine Es.iconst (q := 30) (z := (2 : Int32)) ?_ X5 hx (hb hby d3_29) rfl rfl
    refine Es.iload (q := 32) ?_ X5 hx (hb hby d3_30) rfl rfl
    refine Es.imul (q := 33) ?_ X5 hx (hb hby d3_32) rfl
    show Ends p e below s _ _ _ (T5.setTop (mkF m 33 _ [(.int (0 : Int32)), (.ref ya), (.int x1)]))
    refine Ends.iald ?_ X5 hx hZ e5 V0 (by decide) (hb hby d3_33)
    show Ends p e below s _ _ _ (T5.setTop (mkF m 34 #[.val (.ref x0), .val (.int x1), .val (.int (0 : Int32)), .val (.int (0 : Int32)), .val (.int (0 : Int32))] [(.int (g 0)), (.int x1)]))
    by_cases hc6 : x1 < (g 0)
    · have hv7 := hv4.trans (if_pos hc6)
      refine Es.icmpNo (q := 37) ?_ X5 hx (hb hby d3_34) rfl (XT.ii_ge_f hc6)
      refine Es.iload (q := 39) ?_ X5 hx (hb hby d3_37) rfl rfl
      refine Es.iconst (q := 40) (z := (1 : Int32)) ?_ X5 hx (hb hby d3_39) rfl rfl
      refine Es.isub (q := 41) ?_ X5 hx (hb hby d3_40) rfl
      show Ends p e below s _ _ _ (T5.setTop (mkF m 41 _ [(.int (-1 : Int32))]))
      refine Es.istoreN (q := 42) (l' := #[.val (.ref x0), .val (.int x1), .val (.int (0 : Int32)), .val (.int (-1 : Int32)), .val (.int (0 : Int32))]) ?_ X5 hx (hb hby d3_41) rfl rfl
      refine Es.goto (q := 70) ?_ X5 hx (hb hby d3_42) (by decide) (by decide)
      refine Es.goto (q := 12) ?_ X5 hx (hb hby d3_70) (by decide) (by decide)
      refine Es.iloadN (q := 13) ?_ X5 hx (hb hby d3_12) rfl rfl
      refine Es.iloadN (q := 14) ?_ X5 hx (hb hby d3_13) rfl rfl
      refine Es.icmpYes (q := 73) ?_ X5 hx (hb hby d3_14) (XT.ii_gt_t (by decide)) (by decide) (by decide)
      refine Es.iconst (q := 74) (z := (0 : Int32)) ?_ X5 hx (hb hby d3_73) rfl rfl
      exact Ends.retN X5 hx Bd.notSynchronized Bd.returns (t := .boolean) (by simp) (hb hby d3_74) (w := (0 : Int32)) rfl ⟨by rw [hv7]; first | done | rfl, N0, e5⟩ (by decide) (by decide)
    · have hv8 := hv4.trans (if_neg hc6)
      refine Es.icmpYes (q := 45) ?_ X5 hx (hb hby d3_34) (XT.ii_ge_t hc6) (by decide) (by decide)
      refine Es.iloadN (q := 46) ?_ X5 hx (hb hby d3_45) rfl rfl
      refine Es.aloadN (q := 47) ?_ X5 hx (hb hby d3_46) rfl rfl rfl
      obtain ⟨T9, X9, e9, st9⟩ := getF X5 hx hZ hown (host := "") (Or.inl (hw _ (List.mem_of_getElem? (i := 22) rfl))) Via.refl e5 F1 (g := (mkF m 47 #[.val (.ref x0), .val (.int x1), .val (.int (0 : Int32)), .val (.int (0 : Int32)), .val (.int (0 : Int32))] [(.ref x0), (.int x1)])) rfl rfl (hb hby d3_47)
      refine Ends.by ?_ st9
      show Ends p e below s _ _ _ (T9.setTop (mkF m 50 #[.val (.ref x0), .val (.int x1), .val (.int (0 : Int32)), .val (.int (0 : Int32)), .val (.int (0 : Int32))] [(.ref ya), (.int x1)]))
      refine Es.iconst (q := 51) (z := (2 : Int32)) ?_ X9 hx (hb hby d3_50) rfl rfl
      refine Es.iload (q := 53) ?_ X9 hx (hb hby d3_51) rfl rfl
      refine Es.imul (q := 54) ?_ X9 hx (hb hby d3_53) rfl
      show Ends p e below s _ _ _ (T9.setTop (mkF m 54 _ [(.int (0 : Int32)), (.ref ya), (.int x1)]))
      refine Es.iconst (q := 55) (z := (1 : Int32)) ?_ X9 hx (hb hby d3_54) rfl rfl
      refine Es.iadd (q := 56) ?_ X9 hx (hb hby d3_55) rfl
      show Ends p e below s _ _ _ (T9.setTop (mkF m 56 _ [(.int (1 : Int32)), (.ref ya), (.int x1)]))
      refine Ends.iald ?_ X9 hx hZ e9 V0 (by decide) (hb hby d3_56)
      show Ends p e below s _ _ _ (T9.setTop (mkF m 57 #[.val (.ref x0), .val (.int x1), .val (.int (0 : Int32)), .val (.int (0 : Int32)), .val (.int (0 : Int32))] [(.int (g 1)), (.int x1)]))
      by_cases hc10 : (g 1) < x1
      · have hv11 := hv8.trans (if_pos hc10)
        refine Es.icmpNo (q := 60) ?_ X9 hx (hb hby d3_57) rfl (XT.ii_le_f hc10)
        refine Es.iload (q := 62) ?_ X9 hx (hb hby d3_60) rfl rfl
        refine Es.iconst (q := 63) (z := (1 : Int32)) ?_ X9 hx (hb hby d3_62) rfl rfl
        refine Es.iadd (q := 64) ?_ X9 hx (hb hby d3_63) rfl
        show Ends p e below s _ _ _ (T9.setTop (mkF m 64 _ [(.int (1 : Int32))]))
        refine Es.istoreN (q := 65) (l' := #[.val (.ref x0), .val (.int x1), .val (.int (1 : Int32)), .val (.int (0 : Int32)), .val (.int (0 : Int32))]) ?_ X9 hx (hb hby d3_64) rfl rfl
        refine Es.goto (q := 70) ?_ X9 hx (hb hby d3_65) (by decide) (by decide)
        refine Es.goto (q := 12) ?_ X9 hx (hb hby d3_70) (by decide) (by decide)
        refine Es.iloadN (q := 13) ?_ X9 hx (hb hby d3_12) rfl rfl
        refine Es.iloadN (q := 14) ?_ X9 hx (hb hby d3_13) rfl rfl
        refine Es.icmpYes (q := 73) ?_ X9 hx (hb hby d3_14) (XT.ii_gt_t (by decide)) (by decide) (by decide)
        refine Es.iconst (q := 74) (z := (0 : Int32)) ?_ X9 hx (hb hby d3_73) rfl rfl
        exact Ends.retN X9 hx Bd.notSynchronized Bd.returns (t := .boolean) (by simp) (hb hby d3_74) (w := (0 : Int32)) rfl ⟨by rw [hv11]; first | done | rfl, N0, e9⟩ (by decide) (by decide)
      · have hv12 := hv8.trans (if_neg hc10)
        refine Es.icmpYes (q := 68) ?_ X9 hx (hb hby d3_57) (XT.ii_le_t hc10) (by decide) (by decide)
        refine Es.iconst (q := 69) (z := (1 : Int32)) ?_ X9 hx (hb hby d3_68) rfl rfl
        exact Ends.retN X9 hx Bd.notSynchronized Bd.returns (t := .boolean) (by simp) (hb hby d3_69) (w := (1 : Int32)) rfl ⟨by rw [hv12]; first | done | rfl, N0, e9⟩ (by decide) (by decide)
  · have hv13 := hv0.trans (if_neg hc3)
    refine Es.icmpYes (q := 45) ?_ X2 hx (hb hby d3_34) (XT.ii_ge_t hc3) (by decide) (by decide)
    refine Es.iloadN (q := 46) ?_ X2 hx (hb hby d3_45) rfl rfl
    refine Es.aloadN (q := 47) ?_ X2 hx (hb hby d3_46) rfl rfl rfl
    obtain ⟨T14, X14, e14, st14⟩ := getF X2 hx hZ hown (host := "") (Or.inl (hw _ (List.mem_of_getElem? (i := 22) rfl))) Via.refl e2 F1 (g := (mkF m 47 #[.val (.ref x0), .val (.int x1), .val (.int (0 : Int32)), .val (.int (2 : Int32)), .val (.int (1 : Int32))] [(.ref x0), (.int x1)])) rfl rfl (hb hby d3_47)
    refine Ends.by ?_ st14
    show Ends p e below s _ _ _ (T14.setTop (mkF m 50 #[.val (.ref x0), .val (.int x1), .val (.int (0 : Int32)), .val (.int (2 : Int32)), .val (.int (1 : Int32))] [(.ref ya), (.int x1)]))
    refine Es.iconst (q := 51) (z := (2 : Int32)) ?_ X14 hx (hb hby d3_50) rfl rfl
    refine Es.iload (q := 53) ?_ X14 hx (hb hby d3_51) rfl rfl
    refine Es.imul (q := 54) ?_ X14 hx (hb hby d3_53) rfl
    show Ends p e below s _ _ _ (T14.setTop (mkF m 54 _ [(.int (2 : Int32)), (.ref ya), (.int x1)]))
    refine Es.iconst (q := 55) (z := (1 : Int32)) ?_ X14 hx (hb hby d3_54) rfl rfl
    refine Es.iadd (q := 56) ?_ X14 hx (hb hby d3_55) rfl
    show Ends p e below s _ _ _ (T14.setTop (mkF m 56 _ [(.int (3 : Int32)), (.ref ya), (.int x1)]))
    refine Ends.iald ?_ X14 hx hZ e14 V0 (by decide) (hb hby d3_56)
    show Ends p e below s _ _ _ (T14.setTop (mkF m 57 #[.val (.ref x0), .val (.int x1), .val (.int (0 : Int32)), .val (.int (2 : Int32)), .val (.int (1 : Int32))] [(.int (g 3)), (.int x1)]))
    by_cases hc15 : (g 3) < x1
    · have hv16 := hv13.trans (if_pos hc15)
      refine Es.icmpNo (q := 60) ?_ X14 hx (hb hby d3_57) rfl (XT.ii_le_f hc15)
      refine Es.iload (q := 62) ?_ X14 hx (hb hby d3_60) rfl rfl
      refine Es.iconst (q := 63) (z := (1 : Int32)) ?_ X14 hx (hb hby d3_62) rfl rfl
      refine Es.iadd (q := 64) ?_ X14 hx (hb hby d3_63) rfl
      show Ends p e below s _ _ _ (T14.setTop (mkF m 64 _ [(.int (2 : Int32))]))
      refine Es.istoreN (q := 65) (l' := #[.val (.ref x0), .val (.int x1), .val (.int (2 : Int32)), .val (.int (2 : Int32)), .val (.int (1 : Int32))]) ?_ X14 hx (hb hby d3_64) rfl rfl
      refine Es.goto (q := 70) ?_ X14 hx (hb hby d3_65) (by decide) (by decide)
      refine Es.goto (q := 12) ?_ X14 hx (hb hby d3_70) (by decide) (by decide)
      refine Es.iloadN (q := 13) ?_ X14 hx (hb hby d3_12) rfl rfl
      refine Es.iloadN (q := 14) ?_ X14 hx (hb hby d3_13) rfl rfl
      refine Es.icmpNo (q := 17) ?_ X14 hx (hb hby d3_14) rfl (XT.ii_gt_f (by decide))
      refine Es.iloadN (q := 18) ?_ X14 hx (hb hby d3_17) rfl rfl
      refine Es.iloadN (q := 19) ?_ X14 hx (hb hby d3_18) rfl rfl
      refine Es.iadd (q := 20) ?_ X14 hx (hb hby d3_19) rfl
      show Ends p e below s _ _ _ (T14.setTop (mkF m 20 _ [(.int (4 : Int32))]))
      refine Es.iconst (q := 21) (z := (1 : Int32)) ?_ X14 hx (hb hby d3_20) rfl rfl
      refine Es.iushr (q := 22) ?_ X14 hx (hb hby d3_21) rfl
      show Ends p e below s _ _ _ (T14.setTop (mkF m 22 _ [(.int (2 : Int32))]))
      refine Es.istore (q := 24) (l' := #[.val (.ref x0), .val (.int x1), .val (.int (2 : Int32)), .val (.int (2 : Int32)), .val (.int (2 : Int32))]) ?_ X14 hx (hb hby d3_22) rfl rfl
      refine Es.iloadN (q := 25) ?_ X14 hx (hb hby d3_24) rfl rfl
      refine Es.aloadN (q := 26) ?_ X14 hx (hb hby d3_25) rfl rfl rfl
      obtain ⟨T17, X17, e17, st17⟩ := getF X14 hx hZ hown (host := "") (Or.inl (hw _ (List.mem_of_getElem? (i := 22) rfl))) Via.refl e14 F1 (g := (mkF m 26 #[.val (.ref x0), .val (.int x1), .val (.int (2 : Int32)), .val (.int (2 : Int32)), .val (.int (2 : Int32))] [(.ref x0), (.int x1)])) rfl rfl (hb hby d3_26)
      refine Ends.by ?_ st17
      show Ends p e below s _ _ _ (T17.setTop (mkF m 29 #[.val (.ref x0), .val (.int x1), .val (.int (2 : Int32)), .val (.int (2 : Int32)), .val (.int (2 : Int32))] [(.ref ya), (.int x1)]))
      refine Es.iconst (q := 30) (z := (2 : Int32)) ?_ X17 hx (hb hby d3_29) rfl rfl
      refine Es.iload (q := 32) ?_ X17 hx (hb hby d3_30) rfl rfl
      refine Es.imul (q := 33) ?_ X17 hx (hb hby d3_32) rfl
      show Ends p e below s _ _ _ (T17.setTop (mkF m 33 _ [(.int (4 : Int32)), (.ref ya), (.int x1)]))
      refine Ends.iald ?_ X17 hx hZ e17 V0 (by decide) (hb hby d3_33)
      show Ends p e below s _ _ _ (T17.setTop (mkF m 34 #[.val (.ref x0), .val (.int x1), .val (.int (2 : Int32)), .val (.int (2 : Int32)), .val (.int (2 : Int32))] [(.int (g 4)), (.int x1)]))
      by_cases hc18 : x1 < (g 4)
      · have hv19 := hv16.trans (if_pos hc18)
        refine Es.icmpNo (q := 37) ?_ X17 hx (hb hby d3_34) rfl (XT.ii_ge_f hc18)
        refine Es.iload (q := 39) ?_ X17 hx (hb hby d3_37) rfl rfl
        refine Es.iconst (q := 40) (z := (1 : Int32)) ?_ X17 hx (hb hby d3_39) rfl rfl
        refine Es.isub (q := 41) ?_ X17 hx (hb hby d3_40) rfl
        show Ends p e below s _ _ _ (T17.setTop (mkF m 41 _ [(.int (1 : Int32))]))
        refine Es.istoreN (q := 42) (l' := #[.val (.ref x0), .val (.int x1), .val (.int (2 : Int32)), .val (.int (1 : Int32)), .val (.int (2 : Int32))]) ?_ X17 hx (hb hby d3_41) rfl rfl
        refine Es.goto (q := 70) ?_ X17 hx (hb hby d3_42) (by decide) (by decide)
        refine Es.goto (q := 12) ?_ X17 hx (hb hby d3_70) (by decide) (by decide)
        refine Es.iloadN (q := 13) ?_ X17 hx (hb hby d3_12) rfl rfl
        refine Es.iloadN (q := 14) ?_ X17 hx (hb hby d3_13) rfl rfl
        refine Es.icmpYes (q := 73) ?_ X17 hx (hb hby d3_14) (XT.ii_gt_t (by decide)) (by decide) (by decide)
        refine Es.iconst (q := 74) (z := (0 : Int32)) ?_ X17 hx (hb hby d3_73) rfl rfl
        exact Ends.retN X17 hx Bd.notSynchronized Bd.returns (t := .boolean) (by simp) (hb hby d3_74) (w := (0 : Int32)) rfl ⟨by rw [hv19]; first | done | rfl, N0, e17⟩ (by decide) (by decide)
      · have hv20 := hv16.trans (if_neg hc18)
        refine Es.icmpYes (q := 45) ?_ X17 hx (hb hby d3_34) (XT.ii_ge_t hc18) (by decide) (by decide)
        refine Es.iloadN (q := 46) ?_ X17 hx (hb hby d3_45) rfl rfl
        refine Es.aloadN (q := 47) ?_ X17 hx (hb hby d3_46) rfl rfl rfl
        obtain ⟨T21, X21, e21, st21⟩ := getF X17 hx hZ hown (host := "") (Or.inl (hw _ (List.mem_of_getElem? (i := 22) rfl))) Via.refl e17 F1 (g := (mkF m 47 #[.val (.ref x0), .val (.int x1), .val (.int (2 : Int32)), .val (.int (2 : Int32)), .val (.int (2 : Int32))] [(.ref x0), (.int x1)])) rfl rfl (hb hby d3_47)
        refine Ends.by ?_ st21
        show Ends p e below s _ _ _ (T21.setTop (mkF m 50 #[.val (.ref x0), .val (.int x1), .val (.int (2 : Int32)), .val (.int (2 : Int32)), .val (.int (2 : Int32))] [(.ref ya), (.int x1)]))
        refine Es.iconst (q := 51) (z := (2 : Int32)) ?_ X21 hx (hb hby d3_50) rfl rfl
        refine Es.iload (q := 53) ?_ X21 hx (hb hby d3_51) rfl rfl
        refine Es.imul (q := 54) ?_ X21 hx (hb hby d3_53) rfl
        show Ends p e below s _ _ _ (T21.setTop (mkF m 54 _ [(.int (4 : Int32)), (.ref ya), (.int x1)]))
        refine Es.iconst (q := 55) (z := (1 : Int32)) ?_ X21 hx (hb hby d3_54) rfl rfl
        refine Es.iadd (q := 56) ?_ X21 hx (hb hby d3_55) rfl
        show Ends p e below s _ _ _ (T21.setTop (mkF m 56 _ [(.int (5 : Int32)), (.ref ya), (.int x1)]))
        refine Ends.iald ?_ X21 hx hZ e21 V0 (by decide) (hb hby d3_56)
        show Ends p e below s _ _ _ (T21.setTop (mkF m 57 #[.val (.ref x0), .val (.int x1), .val (.int (2 : Int32)), .val (.int (2 : Int32)), .val (.int (2 : Int32))] [(.int (g 5)), (.int x1)]))
        by_cases hc22 : (g 5) < x1
        · have hv23 := hv20.trans (if_pos hc22)
          refine Es.icmpNo (q := 60) ?_ X21 hx (hb hby d3_57) rfl (XT.ii_le_f hc22)
          refine Es.iload (q := 62) ?_ X21 hx (hb hby d3_60) rfl rfl
          refine Es.iconst (q := 63) (z := (1 : Int32)) ?_ X21 hx (hb hby d3_62) rfl rfl
          refine Es.iadd (q := 64) ?_ X21 hx (hb hby d3_63) rfl
          show Ends p e below s _ _ _ (T21.setTop (mkF m 64 _ [(.int (3 : Int32))]))
          refine Es.istoreN (q := 65) (l' := #[.val (.ref x0), .val (.int x1), .val (.int (3 : Int32)), .val (.int (2 : Int32)), .val (.int (2 : Int32))]) ?_ X21 hx (hb hby d3_64) rfl rfl
          refine Es.goto (q := 70) ?_ X21 hx (hb hby d3_65) (by decide) (by decide)
          refine Es.goto (q := 12) ?_ X21 hx (hb hby d3_70) (by decide) (by decide)
          refine Es.iloadN (q := 13) ?_ X21 hx (hb hby d3_12) rfl rfl
          refine Es.iloadN (q := 14) ?_ X21 hx (hb hby d3_13) rfl rfl
          refine Es.icmpYes (q := 73) ?_ X21 hx (hb hby d3_14) (XT.ii_gt_t (by decide)) (by decide) (by decide)
          refine Es.iconst (q := 74) (z := (0 : Int32)) ?_ X21 hx (hb hby d3_73) rfl rfl
          exact Ends.retN X21 hx Bd.notSynchronized Bd.returns (t := .boolean) (by simp) (hb hby d3_74) (w := (0 : Int32)) rfl ⟨by rw [hv23]; first | done | rfl, N0, e21⟩ (by decide) (by decide)
        · have hv24 := hv20.trans (if_neg hc22)
          refine Es.icmpYes (q := 68) ?_ X21 hx (hb hby d3_57) (XT.ii_le_t hc22) (by decide) (by decide)
          refine Es.iconst (q := 69) (z := (1 : Int32)) ?_ X21 hx (hb hby d3_68) rfl rfl
          exact Ends.retN X21 hx Bd.notSynchronized Bd.returns (t := .boolean) (by simp) (hb hby d3_69) (w := (1 : Int32)) rfl ⟨by rw [hv24]; first | done | rfl, N0, e21⟩ (by decide) (by decide)
    · have hv25 := hv13.trans (if_neg hc15)
      refine Es.icmpYes (q := 68) ?_ X14 hx (hb hby d3_57) (XT.ii_le_t hc15) (by decide) (by decide)
      refine Es.iconst (q := 69) (z := (1 : Int32)) ?_ X14 hx (hb hby d3_68) rfl rfl
      exact Ends.retN X14 hx Bd.notSynchronized Bd.returns (t := .boolean) (by simp) (hb hby d3_69) (w := (1 : Int32)) rfl ⟨by rw [hv25]; first | done | rfl, N0, e14⟩ (by decide) (by decide)

def fC4 (x0 : Addr) (x1 : Int32) (ya : Addr) (g : Nat → Int32) : Int32 := (if x1 < (g 2) then (if x1 < (g 0) then (0 : Int32) else (if (g 1) < x1 then (0 : Int32) else (1 : Int32))) else (if (g 3) < x1 then (if x1 < (g 4) then (0 : Int32) else (if (g 5) < x1 then (if x1 < (g 6) then (0 : Int32) else (if (g 7) < x1 then (0 : Int32) else (1 : Int32))) else (1 : Int32))) else (1 : Int32)))
theorem ef_rmC4 (m : MethodId) (x0 : Addr) (x1 : Int32) : entryFrame m #[(.ref x0), (.int x1)] 5 = mkF m 0 #[.val (.ref x0), .val (.int x1), .unset, .unset, .unset] [] := by first | (simp [entryFrame, mkF, argsToLocals, Value.category]; done) | rfl
set_option maxRecDepth 65536 in
set_option maxHeartbeats 40000000 in
theorem rmC4 (l : Launch) (Z : State) (a0 : Array Value) (hw : ∀ d ∈ tables_1, d.before a0 Z = true) (ws : List Jvm.Cond) (x0 : Addr) (x1 : Int32) (ya : Addr) (g : Nat → Int32) (h0 : Heap) (n0 : Nat) (Z0 : n0 ≤ h0.size) (F1 : Fld Z h0 x0 "com/example/tagwright/tagwright/model/CodePointSet" "bounds" "[I" (.ref ya)) (V0 : Ary Z h0 ya .int 8 g) :
    MetFree l (⟨"com/example/tagwright/tagwright/model/CodePointSet", "contains", "(I)Z"⟩ : MethodName) (head1 (Jvm.Cond.code (⟨"com/example/tagwright/tagwright/model/CodePointSet", "contains", "(I)Z"⟩ : MethodName) prog_23_method_2_code 5 (some .boolean) :: ws) ({ frames := 0, cells := 0, slots := 0, locals := 0 } : Room)) (fun a U => a = #[(.ref x0), (.int x1)] ∧ Z.Warmed39 U.vm ∧ U.heap = h0) (fun _ _ _ _ _ => True) (fun _ U o U' => ∃ v L, o = .returned v ∧ (QP (some (.int (fC4 x0 x1 ya g))) h0 n0) v U'.heap L ∧ FrameEnd U o U' L ({ frames := 0, cells := 0, slots := 0, locals := 0 } : Room).cells ({ frames := 0, cells := 0, slots := 0, locals := 0 } : Room).slots) := by
  refine MetFree.of_bodySF (plainFor_of_name pn_0) hisR ?_
  intro p e s m args below meth c s₁ Bd hml0 hP hK
  obtain ⟨rfl, hZ, hh⟩ := hP
  have hx := Bd.exec
  have hby := Bd.bytes
  have hml : c.maxLocals = 5 := hml0
  have hown : s.vm.findClass "com/example/tagwright/tagwright/model/CodePointSet" = some m.cls := findClass_of_methodNamed Bd.named
  have hnm := (name_of_methodNamed Bd.named Bd.method).1
  have X0 : Stand p l e ({ frames := 0, cells := 0, slots := 0, locals := 0 } : Room) s m #[(.ref x0), (.int x1)] below meth c s₁ [] 0 0 := Stand.of_body Bd
  have e0 : s₁.heap = h0 := by rw [← hh, Bd.state]; rfl
  have N0 := Fr.nil n0
  show Ends p e below s (QP (some (.int (fC4 x0 x1 ya g))) h0 n0) ({ frames := 0, cells := 0, slots := 0, locals := 0 } : Room).cells ({ frames := 0, cells := 0, slots := 0, locals := 0 } : Room).slots (s₁.setTop (entryFrame m #[(.ref x0), (.int x1)] 5))
  rw [ef_rmC4 m x0 x1]
  have hv0 : fC4 x0 x1 ya g = fC4 x0 x1 ya g := rfl
  show Ends p e below s _ _ _ (s₁.setTop (mkF m 0 #[.val (.ref x0), .val (.int x1), .unset, .unset, .unset] []))
  refine Es.iconst (q := 1) (z := (0 : Int32)) ?_ X0 hx (hb hby d3_0) rfl rfl
  refine Es.istoreN (q := 2) (l' := #[.val (.ref x0), .val (.int x1), .val (.int (0 : Int32)), .unset, .unset]) ?_ X0 hx (hb hby d3_1) rfl rfl
  refine Es.aloadN (q := 3) ?_ X0 hx (hb hby d3_2) rfl rfl rfl
  obtain ⟨T1, X1, e1, st1⟩ := getF X0 hx hZ hown (host := "") (Or.inl (hw _ (List.mem_of_getElem? (i := 22) rfl))) Via.refl e0 F1 (g := (mkF m 3 #[.val (.ref x0), .val (.int x1), .val (.int (0 : Int32)), .unset, .unset] [(.ref x0)])) rfl rfl (hb hby d3_3)
  refine Ends.by ?_ st1
  show Ends p e below s _ _ _ (T1.setTop (mkF m 6 #[.val (.ref x0), .val (.int x1), .val (.int (0 : Int32)), .unset, .unset] [(.ref ya)]))
  refine Ends.alen (z := (8 : Int32)) ?_ X1 hx hZ e1 V0 (by decide) (hb hby d3_6)
  show Ends p e below s _ _ _ (T1.setTop (mkF m 7 #[.val (.ref x0), .val (.int x1), .val (.int (0 : Int32)), .unset, .unset] [(.int (8 : Int32))]))
  refine Es.iconst (q := 8) (z := (2 : Int32)) ?_ X1 hx (hb hby d3_7) rfl rfl
  refine Es.idiv (q := 9) ?_ X1 hx (hb hby d3_8) rfl (by decide)
  show Ends p e below s _ _ _ (T1.setTop (mkF m 9 _ [(.int (4 : Int32))]))
  refine Es.iconst (q := 10) (z := (1 : Int32)) ?_ X1 hx (hb hby d3_9) rfl rfl
  refine Es.isub (q := 11) ?_ X1 hx (hb hby d3_10) rfl
  show Ends p e below s _ _ _ (T1.setTop (mkF m 11 _ [(.int (3 : Int32))]))
  refine Es.istoreN (q := 12) (l' := #[.val (.ref x0), .val (.int x1), .val (.int (0 : Int32)), .val (.int (3 : Int32)), .unset]) ?_ X1 hx (hb hby d3_11) rfl rfl
  refine Es.iloadN (q := 13) ?_ X1 hx (hb hby d3_12) rfl rfl
  refine Es.iloadN (q := 14) ?_ X1 hx (hb hby d3_13) rfl rfl
  refine Es.icmpNo (q := 17) ?_ X1 hx (hb hby d3_14) rfl (XT.ii_gt_f (by decide))
  refine Es.iloadN (q := 18) ?_ X1 hx (hb hby d3_17) rfl rfl
  refine Es.iloadN (q := 19) ?_ X1 hx (hb hby d3_18) rfl rfl
  refine Es.iadd (q := 20) ?_ X1 hx (hb hby d3_19) rfl
  show Ends p e below s _ _ _ (T1.setTop (mkF m 20 _ [(.int (3 : Int32))]))
  refine Es.iconst (q := 21) (z := (1 : Int32)) ?_ X1 hx (hb hby d3_20) rfl rfl
  refine Es.iushr (q := 22) ?_ X1 hx (hb hby d3_21) rfl
  show Ends p e below s _ _ _ (T1.setTop (mkF m 22 _ [(.int (1 : Int32))]))
  refine Es.istore (q := 24) (l' := #[.val (.ref x0), .val (.int x1), .val (.int (0 : Int32)), .val (.int (3 : Int32)), .val (.int (1 : Int32))]) ?_ X1 hx (hb hby d3_22) rfl rfl
  refine Es.iloadN (q := 25) ?_ X1 hx (hb hby d3_24) rfl rfl
  refine Es.aloadN (q := 26) ?_ X1 hx (hb hby d3_25) rfl rfl rfl
  obtain ⟨T2, X2, e2, st2⟩ := getF X1 hx hZ hown (host := "") (Or.inl (hw _ (List.mem_of_getElem? (i := 22) rfl))) Via.refl e1 F1 (g := (mkF m 26 #[.val (.ref x0), .val (.int x1), .val (.int (0 : Int32)), .val (.int (3 : Int32)), .val (.int (1 : Int32))] [(.ref x0), (.int x1)])) rfl rfl (hb hby d3_26)
  refine Ends.by ?_ st2
  show Ends p e below s _ _ _ (T2.setTop (mkF m 29 #[.val (.ref x0), .val (.int x1), .val (.int (0 : Int32)), .val (.int (3 : Int32)), .val (.int (1 : Int32))] [(.ref ya), (.int x1)]))
  refine Es.iconst (q := 30) (z := (2 : Int32)) ?_ X2 hx (hb hby d3_29) rfl rfl
  refine Es.iload (q := 32) ?_ X2 hx (hb hby d3_30) rfl rfl
  refine Es.imul (q := 33) ?_ X2 hx (hb hby d3_32) rfl
  show Ends p e below s _ _ _ (T2.setTop (mkF m 33 _ [(.int (2 : Int32)), (.ref ya), (.int x1)]))
  refine Ends.iald ?_ X2 hx hZ e2 V0 (by decide) (hb hby d3_33)
  show Ends p e below s _ _ _ (T2.setTop (mkF m 34 #[.val (.ref x0), .val (.int x1), .val (.int (0 : Int32)), .val (.int (3 : Int32)), .val (.int (1 : Int32))] [(.int (g 2)), (.int x1)]))
  by_cases hc3 : x1 < (g 2)
  · have hv4 := hv0.trans (if_pos hc3)
    refine Es.icmpNo (q := 37) ?_ X2 hx (hb hby d3_34) rfl (XT.ii_ge_f hc3)
    refine Es.iload (q := 39) ?_ X2 hx (hb hby d3_37) rfl rfl
    refine Es.iconst (q := 40) (z := (1 : Int32)) ?_ X2 hx (hb hby d3_39) rfl rfl
    refine Es.isub (q := 41) ?_ X2 hx (hb hby d3_40) rfl
    show Ends p e below s _ _ _ (T2.setTop (mkF m 41 _ [(.int (0 : Int32))]))
    refine Es.istoreN (q := 42) (l' := #[.val (.ref x0), .val (.int x1), .val (.int (0 : Int32)), .val (.int (0 : Int32)), .val (.int (1 : Int32))]) ?_ X2 hx (hb hby d3_41) rfl rfl
    refine Es.goto (q := 70) ?_ X2 hx (hb hby d3_42) (by decide) (by decide)
    refine Es.goto (q := 12) ?_ X2 hx (hb hby d3_70) (by decide) (by decide)
    refine Es.iloadN (q := 13) ?_ X2 hx (hb hby d3_12) rfl rfl
    refine Es.iloadN (q := 14) ?_ X2 hx (hb hby d3_13) rfl rfl
    refine Es.icmpNo (q := 17) ?_ X2 hx (hb hby d3_14) rfl (XT.ii_gt_f (by decide))
    refine Es.iloadN (q := 18) ?_ X2 hx (hb hby d3_17) rfl rfl
    refine Es.iloadN (q := 19) ?_ X2 hx (hb hby d3_18) rfl rfl
    refine Es.iadd (q := 20) ?_ X2 hx (hb hby d3_19) rfl
    show Ends p e below s _ _ _ (T2.setTop (mkF m 20 _ [(.int (0 : Int32))]))
    refine Es.iconst (q := 21) (z := (1 : Int32)) ?_ X2 hx (hb hby d3_20) rfl rfl
    refine Es.iushr (q := 22) ?_ X2 hx (hb hby d3_21) rfl
    show Ends p e below s _ _ _ (T2.setTop (mkF m 22 _ [(.int (0 : Int32))]))
    refine Es.istore (q := 24) (l' := #[.val (.ref x0), .val (.int x1), .val (.int (0 : Int32)), .val (.int (0 : Int32)), .val (.int (0 : Int32))]) ?_ X2 hx (hb hby d3_22) rfl rfl
    refine Es.iloadN (q := 25) ?_ X2 hx (hb hby d3_24) rfl rfl
    refine Es.aloadN (q := 26) ?_ X2 hx (hb hby d3_25) rfl rfl rfl
    obtain ⟨T5, X5, e5, st5⟩ := getF X2 hx hZ hown (host := "") (Or.inl (hw _ (List.mem_of_getElem? (i := 22) rfl))) Via.refl e2 F1 (g := (mkF m 26 #[.val (.ref x0), .val (.int x1), .val (.int (0 : Int32)), .val (.int (0 : Int32)), .val (.int (0 : Int32))] [(.ref x0), (.int x1)])) rfl rfl (hb hby d3_26)
    refine Ends.by ?_ st5
    show Ends p e below s _ _ _ (T5.setTop (mkF m 29 #[.val (.ref x0), .val (.int x1), .val (.int (0 : Int32)), .val (.int (0 : Int32)), .val (.int (0 : Int32))] [(.ref ya), (.int x1)]))
    refine Es.iconst (q := 30) (z := (2 : Int32)) ?_ X5 hx (hb hby d3_29) rfl rfl
    refine Es.iload (q := 32) ?_ X5 hx (hb hby d3_30) rfl rfl
    refine Es.imul (q := 33) ?_ X5 hx (hb hby d3_32) rfl
    show Ends p e below s _ _ _ (T5.setTop (mkF m 33 _ [(.int (0 : Int32)), (.ref ya), (.int x1)]))
    refine Ends.iald ?_ X5 hx hZ e5 V0 (by decide) (hb hby d3_33)
    show Ends p e below s _ _ _ (T5.setTop (mkF m 34 #[.val (.ref x0), .val (.int x1), .val (.int (0 : Int32)), .val (.int (0 : Int32)), .val (.int (0 : Int32))] [(.int (g 0)), (.int x1)]))
    by_cases hc6 : x1 < (g 0)
    · have hv7 := hv4.trans (if_pos hc6)
      refine Es.icmpNo (q := 37) ?_ X5 hx (hb hby d3_34) rfl (XT.ii_ge_f hc6)
      refine Es.iload (q := 39) ?_ X5 hx (hb hby d3_37) rfl rfl
      refine Es.iconst (q := 40) (z := (1 : Int32)) ?_ X5 hx (hb hby d3_39) rfl rfl
      refine Es.isub (q := 41) ?_ X5 hx (hb hby d3_40) rfl
      show Ends p e below s _ _ _ (T5.setTop (mkF m 41 _ [(.int (-1 : Int32))]))
      refine Es.istoreN (q := 42) (l' := #[.val (.ref x0), .val (.int x1), .val (.int (0 : Int32)), .val (.int (-1 : Int32)), .val (.int (0 : Int32))]) ?_ X5 hx (hb hby d3_41) rfl rfl
      refine Es.goto (q := 70) ?_ X5 hx (hb hby d3_42) (by decide) (by decide)
      refine Es.goto (q := 12) ?_ X5 hx (hb hby d3_70) (by decide) (by decide)
      refine Es.iloadN (q := 13) ?_ X5 hx (hb hby d3_12) rfl rfl
      refine Es.iloadN (q := 14) ?_ X5 hx (hb hby d3_13) rfl rfl
      refine Es.icmpYes (q := 73) ?_ X5 hx (hb hby d3_14) (XT.ii_gt_t (by decide)) (by decide) (by decide)
      refine Es.iconst (q := 74) (z := (0 : Int32)) ?_ X5 hx (hb hby d3_73) rfl rfl
      exact Ends.retN X5 hx Bd.notSynchronized Bd.returns (t := .boolean) (by simp) (hb hby d3_74) (w := (0 : Int32)) rfl ⟨by rw [hv7]; first | done | rfl, N0, e5⟩ (by decide) (by decide)
    · have hv8 := hv4.trans (if_neg hc6)
      refine Es.icmpYes (q := 45) ?_ X5 hx (hb hby d3_34) (XT.ii_ge_t hc6) (by decide) (by decide)
      refine Es.iloadN (q := 46) ?_ X5 hx (hb hby d3_45) rfl rfl
      refine Es.aloadN (q := 47) ?_ X5 hx (hb hby d3_46) rfl rfl rfl
      obtain ⟨T9, X9, e9, st9⟩ := getF X5 hx hZ hown (host := "") (Or.inl (hw _ (List.mem_of_getElem? (i := 22) rfl))) Via.refl e5 F1 (g := (mkF m 47 #[.val (.ref x0), .val (.int x1), .val (.int (0 : Int32)), .val (.int (0 : Int32)), .val (.int (0 : Int32))] [(.ref x0), (.int x1)])) rfl rfl (hb hby d3_47)
      refine Ends.by ?_ st9
      show Ends p e below s _ _ _ (T9.setTop (mkF m 50 #[.val (.ref x0), .val (.int x1), .val (.int (0 : Int32)), .val (.int (0 : Int32)), .val (.int (0 : Int32))] [(.ref ya), (.int x1)]))
      refine Es.iconst (q := 51) (z := (2 : Int32)) ?_ X9 hx (hb hby d3_50) rfl rfl
      refine Es.iload (q := 53) ?_ X9 hx (hb hby d3_51) rfl rfl
      refine Es.imul (q := 54) ?_ X9 hx (hb hby d3_53) rfl
      show Ends p e below s _ _ _ (T9.setTop (mkF m 54 _ [(.int (0 : Int32)), (.ref ya), (.int x1)]))
      refine Es.iconst (q := 55) (z := (1 : Int32)) ?_ X9 hx (hb hby d3_54) rfl rfl
      refine Es.iadd (q := 56) ?_ X9 hx (hb hby d3_55) rfl
      show Ends p e below s _ _ _ (T9.setTop (mkF m 56 _ [(.int (1 : Int32)), (.ref ya), (.int x1)]))
      refine Ends.iald ?_ X9 hx hZ e9 V0 (by decide) (hb hby d3_56)
      show Ends p e below s _ _ _ (T9.setTop (mkF m 57 #[.val (.ref x0), .val (.int x1), .val (.int (0 : Int32)), .val (.int (0 : Int32)), .val (.int (0 : Int32))] [(.int (g 1)), (.int x1)]))
      by_cases hc10 : (g 1) < x1
      · have hv11 := hv8.trans (if_pos hc10)
        refine Es.icmpNo (q := 60) ?_ X9 hx (hb hby d3_57) rfl (XT.ii_le_f hc10)
        refine Es.iload (q := 62) ?_ X9 hx (hb hby d3_60) rfl rfl
        refine Es.iconst (q := 63) (z := (1 : Int32)) ?_ X9 hx (hb hby d3_62) rfl rfl
        refine Es.iadd (q := 64) ?_ X9 hx (hb hby d3_63) rfl
        show Ends p e below s _ _ _ (T9.setTop (mkF m 64 _ [(.int (1 : Int32))]))
        refine Es.istoreN (q := 65) (l' := #[.val (.ref x0), .val (.int x1), .val (.int (1 : Int32)), .val (.int (0 : Int32)), .val (.int (0 : Int32))]) ?_ X9 hx (hb hby d3_64) rfl rfl
        refine Es.goto (q := 70) ?_ X9 hx (hb hby d3_65) (by decide) (by decide)
        refine Es.goto (q := 12) ?_ X9 hx (hb hby d3_70) (by decide) (by decide)
        refine Es.iloadN (q := 13) ?_ X9 hx (hb hby d3_12) rfl rfl
        refine Es.iloadN (q := 14) ?_ X9 hx (hb hby d3_13) rfl rfl
        refine Es.icmpYes (q := 73) ?_ X9 hx (hb hby d3_14) (XT.ii_gt_t (by decide)) (by decide) (by decide)
        refine Es.iconst (q := 74) (z := (0 : Int32)) ?_ X9 hx (hb hby d3_73) rfl rfl
        exact Ends.retN X9 hx Bd.notSynchronized Bd.returns (t := .boolean) (by simp) (hb hby d3_74) (w := (0 : Int32)) rfl ⟨by rw [hv11]; first | done | rfl, N0, e9⟩ (by decide) (by decide)
      · have hv12 := hv8.trans (if_neg hc10)
        refine Es.icmpYes (q := 68) ?_ X9 hx (hb hby d3_57) (XT.ii_le_t hc10) (by decide) (by decide)
        refine Es.iconst (q := 69) (z := (1 : Int32)) ?_ X9 hx (hb hby d3_68) rfl rfl
        exact Ends.retN X9 hx Bd.notSynchronized Bd.returns (t := .boolean) (by simp) (hb hby d3_69) (w := (1 : Int32)) rfl ⟨by rw [hv12]; first | done | rfl, N0, e9⟩ (by decide) (by decide)
  · have hv13 := hv0.trans (if_neg hc3)
    refine Es.icmpYes (q := 45) ?_ X2 hx (hb hby d3_34) (XT.ii_ge_t hc3) (by decide) (by decide)
    refine Es.iloadN (q := 46) ?_ X2 hx (hb hby d3_45) rfl rfl
    refine Es.aloadN (q := 47) ?_ X2 hx (hb hby d3_46) rfl rfl rfl
    obtain ⟨T14, X14, e14, st14⟩ := getF X2 hx hZ hown (host := "") (Or.inl (hw _ (List.mem_of_getElem? (i := 22) rfl))) Via.refl e2 F1 (g := (mkF m 47 #[.val (.ref x0), .val (.int x1), .val (.int (0 : Int32)), .val (.int (3 : Int32)), .val (.int (1 : Int32))] [(.ref x0), (.int x1)])) rfl rfl (hb hby d3_47)
    refine Ends.by ?_ st14
    show Ends p e below s _ _ _ (T14.setTop (mkF m 50 #[.val (.ref x0), .val (.int x1), .val (.int (0 : Int32)), .val (.int (3 : Int32)), .val (.int (1 : Int32))] [(.ref ya), (.int x1)]))
    refine Es.iconst (q := 51) (z := (2 : Int32)) ?_ X14 hx (hb hby d3_50) rfl rfl
    refine Es.iload (q := 53) ?_ X14 hx (hb hby d3_51) rfl rfl
    refine Es.imul (q := 54) ?_ X14 hx (hb hby d3_53) rfl
    show Ends p e below s _ _ _ (T14.setTop (mkF m 54 _ [(.int (2 : Int32)), (.ref ya), (.int x1)]))
    refine Es.iconst (q := 55) (z := (1 : Int32)) ?_ X14 hx (hb hby d3_54) rfl rfl
    refine Es.iadd (q := 56) ?_ X14 hx (hb hby d3_55) rfl
    show Ends p e below s _ _ _ (T14.setTop (mkF m 56 _ [(.int (3 : Int32)), (.ref ya), (.int x1)]))
    refine Ends.iald ?_ X14 hx hZ e14 V0 (by decide) (hb hby d3_56)
    show Ends p e below s _ _ _ (T14.setTop (mkF m 57 #[.val (.ref x0), .val (.int x1), .val (.int (0 : Int32)), .val (.int (3 : Int32)), .val (.int (1 : Int32))] [(.int (g 3)), (.int x1)]))
    by_cases hc15 : (g 3) < x1
    · have hv16 := hv13.trans (if_pos hc15)
      refine Es.icmpNo (q := 60) ?_ X14 hx (hb hby d3_57) rfl (XT.ii_le_f hc15)
      refine Es.iload (q := 62) ?_ X14 hx (hb hby d3_60) rfl rfl
      refine Es.iconst (q := 63) (z := (1 : Int32)) ?_ X14 hx (hb hby d3_62) rfl rfl
      refine Es.iadd (q := 64) ?_ X14 hx (hb hby d3_63) rfl
      show Ends p e below s _ _ _ (T14.setTop (mkF m 64 _ [(.int (2 : Int32))]))
      refine Es.istoreN (q := 65) (l' := #[.val (.ref x0), .val (.int x1), .val (.int (2 : Int32)), .val (.int (3 : Int32)), .val (.int (1 : Int32))]) ?_ X14 hx (hb hby d3_64) rfl rfl
      refine Es.goto (q := 70) ?_ X14 hx (hb hby d3_65) (by decide) (by decide)
      refine Es.goto (q := 12) ?_ X14 hx (hb hby d3_70) (by decide) (by decide)
      refine Es.iloadN (q := 13) ?_ X14 hx (hb hby d3_12) rfl rfl
      refine Es.iloadN (q := 14) ?_ X14 hx (hb hby d3_13) rfl rfl
      refine Es.icmpNo (q := 17) ?_ X14 hx (hb hby d3_14) rfl (XT.ii_gt_f (by decide))
      refine Es.iloadN (q := 18) ?_ X14 hx (hb hby d3_17) rfl rfl
      refine Es.iloadN (q := 19) ?_ X14 hx (hb hby d3_18) rfl rfl
      refine Es.iadd (q := 20) ?_ X14 hx (hb hby d3_19) rfl
      show Ends p e below s _ _ _ (T14.setTop (mkF m 20 _ [(.int (5 : Int32))]))
      refine Es.iconst (q := 21) (z := (1 : Int32)) ?_ X14 hx (hb hby d3_20) rfl rfl
      refine Es.iushr (q := 22) ?_ X14 hx (hb hby d3_21) rfl
      show Ends p e below s _ _ _ (T14.setTop (mkF m 22 _ [(.int (2 : Int32))]))
      refine Es.istore (q := 24) (l' := #[.val (.ref x0), .val (.int x1), .val (.int (2 : Int32)), .val (.int (3 : Int32)), .val (.int (2 : Int32))]) ?_ X14 hx (hb hby d3_22) rfl rfl
      refine Es.iloadN (q := 25) ?_ X14 hx (hb hby d3_24) rfl rfl
      refine Es.aloadN (q := 26) ?_ X14 hx (hb hby d3_25) rfl rfl rfl
      obtain ⟨T17, X17, e17, st17⟩ := getF X14 hx hZ hown (host := "") (Or.inl (hw _ (List.mem_of_getElem? (i := 22) rfl))) Via.refl e14 F1 (g := (mkF m 26 #[.val (.ref x0), .val (.int x1), .val (.int (2 : Int32)), .val (.int (3 : Int32)), .val (.int (2 : Int32))] [(.ref x0), (.int x1)])) rfl rfl (hb hby d3_26)
      refine Ends.by ?_ st17
      show Ends p e below s _ _ _ (T17.setTop (mkF m 29 #[.val (.ref x0), .val (.int x1), .val (.int (2 : Int32)), .val (.int (3 : Int32)), .val (.int (2 : Int32))] [(.ref ya), (.int x1)]))
      refine Es.iconst (q := 30) (z := (2 : Int32)) ?_ X17 hx (hb hby d3_29) rfl rfl
      refine Es.iload (q := 32) ?_ X17 hx (hb hby d3_30) rfl rfl
      refine Es.imul (q := 33) ?_ X17 hx (hb hby d3_32) rfl
      show Ends p e below s _ _ _ (T17.setTop (mkF m 33 _ [(.int (4 : Int32)), (.ref ya), (.int x1)]))
      refine Ends.iald ?_ X17 hx hZ e17 V0 (by decide) (hb hby d3_33)
      show Ends p e below s _ _ _ (T17.setTop (mkF m 34 #[.val (.ref x0), .val (.int x1), .val (.int (2 : Int32)), .val (.int (3 : Int32)), .val (.int (2 : Int32))] [(.int (g 4)), (.int x1)]))
      by_cases hc18 : x1 < (g 4)
      · have hv19 := hv16.trans (if_pos hc18)
        refine Es.icmpNo (q := 37) ?_ X17 hx (hb hby d3_34) rfl (XT.ii_ge_f hc18)
        refine Es.iload (q := 39) ?_ X17 hx (hb hby d3_37) rfl rfl
        refine Es.iconst (q := 40) (z := (1 : Int32)) ?_ X17 hx (hb hby d3_39) rfl rfl
        refine Es.isub (q := 41) ?_ X17 hx (hb hby d3_40) rfl
        show Ends p e below s _ _ _ (T17.setTop (mkF m 41 _ [(.int (1 : Int32))]))
        refine Es.istoreN (q := 42) (l' := #[.val (.ref x0), .val (.int x1), .val (.int (2 : Int32)), .val (.int (1 : Int32)), .val (.int (2 : Int32))]) ?_ X17 hx (hb hby d3_41) rfl rfl
        refine Es.goto (q := 70) ?_ X17 hx (hb hby d3_42) (by decide) (by decide)
        refine Es.goto (q := 12) ?_ X17 hx (hb hby d3_70) (by decide) (by decide)
        refine Es.iloadN (q := 13) ?_ X17 hx (hb hby d3_12) rfl rfl
        refine Es.iloadN (q := 14) ?_ X17 hx (hb hby d3_13) rfl rfl
        refine Es.icmpYes (q := 73) ?_ X17 hx (hb hby d3_14) (XT.ii_gt_t (by decide)) (by decide) (by decide)
        refine Es.iconst (q := 74) (z := (0 : Int32)) ?_ X17 hx (hb hby d3_73) rfl rfl
        exact Ends.retN X17 hx Bd.notSynchronized Bd.returns (t := .boolean) (by simp) (hb hby d3_74) (w := (0 : Int32)) rfl ⟨by rw [hv19]; first | done | rfl, N0, e17⟩ (by decide) (by decide)
      · have hv20 := hv16.trans (if_neg hc18)
        refine Es.icmpYes (q := 45) ?_ X17 hx (hb hby d3_34) (XT.ii_ge_t hc18) (by decide) (by decide)
        refine Es.iloadN (q := 46) ?_ X17 hx (hb hby d3_45) rfl rfl
        refine Es.aloadN (q := 47) ?_ X17 hx (hb hby d3_46) rfl rfl rfl
        obtain ⟨T21, X21, e21, st21⟩ := getF X17 hx hZ hown (host := "") (Or.inl (hw _ (List.mem_of_getElem? (i := 22) rfl))) Via.refl e17 F1 (g := (mkF m 47 #[.val (.ref x0), .val (.int x1), .val (.int (2 : Int32)), .val (.int (3 : Int32)), .val (.int (2 : Int32))] [(.ref x0), (.int x1)])) rfl rfl (hb hby d3_47)
        refine Ends.by ?_ st21
        show Ends p e below s _ _ _ (T21.setTop (mkF m 50 #[.val (.ref x0), .val (.int x1), .val (.int (2 : Int32)), .val (.int (3 : Int32)), .val (.int (2 : Int32))] [(.ref ya), (.int x1)]))
        refine Es.iconst (q := 51) (z := (2 : Int32)) ?_ X21 hx (hb hby d3_50) rfl rfl
        refine Es.iload (q := 53) ?_ X21 hx (hb hby d3_51) rfl rfl
        refine Es.imul (q := 54) ?_ X21 hx (hb hby d3_53) rfl
        show Ends p e below s _ _ _ (T21.setTop (mkF m 54 _ [(.int (4 : Int32)), (.ref ya), (.int x1)]))
        refine Es.iconst (q := 55) (z := (1 : Int32)) ?_ X21 hx (hb hby d3_54) rfl rfl
        refine Es.iadd (q := 56) ?_ X21 hx (hb hby d3_55) rfl
        show Ends p e below s _ _ _ (T21.setTop (mkF m 56 _ [(.int (5 : Int32)), (.ref ya), (.int x1)]))
        refine Ends.iald ?_ X21 hx hZ e21 V0 (by decide) (hb hby d3_56)
        show Ends p e below s _ _ _ (T21.setTop (mkF m 57 #[.val (.ref x0), .val (.int x1), .val (.int (2 : Int32)), .val (.int (3 : Int32)), .val (.int (2 : Int32))] [(.int (g 5)), (.int x1)]))
        by_cases hc22 : (g 5) < x1
        · have hv23 := hv20.trans (if_pos hc22)
          refine Es.icmpNo (q := 60) ?_ X21 hx (hb hby d3_57) rfl (XT.ii_le_f hc22)
          refine Es.iload (q := 62) ?_ X21 hx (hb hby d3_60) rfl rfl
          refine Es.iconst (q := 63) (z := (1 : Int32)) ?_ X21 hx (hb hby d3_62) rfl rfl
          refine Es.iadd (q := 64) ?_ X21 hx (hb hby d3_63) rfl
          show Ends p e below s _ _ _ (T21.setTop (mkF m 64 _ [(.int (3 : Int32))]))
          refine Es.istoreN (q := 65) (l' := #[.val (.ref x0), .val (.int x1), .val (.int (3 : Int32)), .val (.int (3 : Int32)), .val (.int (2 : Int32))]) ?_ X21 hx (hb hby d3_64) rfl rfl
          refine Es.goto (q := 70) ?_ X21 hx (hb hby d3_65) (by decide) (by decide)
          refine Es.goto (q := 12) ?_ X21 hx (hb hby d3_70) (by decide) (by decide)
          refine Es.iloadN (q := 13) ?_ X21 hx (hb hby d3_12) rfl rfl
          refine Es.iloadN (q := 14) ?_ X21 hx (hb hby d3_13) rfl rfl
          refine Es.icmpNo (q := 17) ?_ X21 hx (hb hby d3_14) rfl (XT.ii_gt_f (by decide))
          refine Es.iloadN (q := 18) ?_ X21 hx (hb hby d3_17) rfl rfl
          refine Es.iloadN (q := 19) ?_ X21 hx (hb hby d3_18) rfl rfl
          refine Es.iadd (q := 20) ?_ X21 hx (hb hby d3_19) rfl
          show Ends p e below s _ _ _ (T21.setTop (mkF m 20 _ [(.int (6 : Int32))]))
          refine Es.iconst (q := 21) (z := (1 : Int32)) ?_ X21 hx (hb hby d3_20) rfl rfl
          refine Es.iushr (q := 22) ?_ X21 hx (hb hby d3_21) rfl
          show Ends p e below s _ _ _ (T21.setTop (mkF m 22 _ [(.int (3 : Int32))]))
          refine Es.istore (q := 24) (l' := #[.val (.ref x0), .val (.int x1), .val (.int (3 : Int32)), .val (.int (3 : Int32)), .val (.int (3 : Int32))]) ?_ X21 hx (hb hby d3_22) rfl rfl
          refine Es.iloadN (q := 25) ?_ X21 hx (hb hby d3_24) rfl rfl
          refine Es.aloadN (q := 26) ?_ X21 hx (hb hby d3_25) rfl rfl rfl
          obtain ⟨T24, X24, e24, st24⟩ := getF X21 hx hZ hown (host := "") (Or.inl (hw _ (List.mem_of_getElem? (i := 22) rfl))) Via.refl e21 F1 (g := (mkF m 26 #[.val (.ref x0), .val (.int x1), .val (.int (3 : Int32)), .val (.int (3 : Int32)), .val (.int (3 : Int32))] [(.ref x0), (.int x1)])) rfl rfl (hb hby d3_26)
          refine Ends.by ?_ st24
          show Ends p e below s _ _ _ (T24.setTop (mkF m 29 #[.val (.ref x0), .val (.int x1), .val (.int (3 : Int32)), .val (.int (3 : Int32)), .val (.int (3 : Int32))] [(.ref ya), (.int x1)]))
          refine Es.iconst (q := 30) (z := (2 : Int32)) ?_ X24 hx (hb hby d3_29) rfl rfl
          refine Es.iload (q := 32) ?_ X24 hx (hb hby d3_30) rfl rfl
          refine Es.imul (q := 33) ?_ X24 hx (hb hby d3_32) rfl
          show Ends p e below s _ _ _ (T24.setTop (mkF m 33 _ [(.int (6 : Int32)), (.ref ya), (.int x1)]))
          refine Ends.iald ?_ X24 hx hZ e24 V0 (by decide) (hb hby d3_33)
          show Ends p e below s _ _ _ (T24.setTop (mkF m 34 #[.val (.ref x0), .val (.int x1), .val (.int (3 : Int32)), .val (.int (3 : Int32)), .val (.int (3 : Int32))] [(.int (g 6)), (.int x1)]))
          by_cases hc25 : x1 < (g 6)
          · have hv26 := hv23.trans (if_pos hc25)
            refine Es.icmpNo (q := 37) ?_ X24 hx (hb hby d3_34) rfl (XT.ii_ge_f hc25)
            refine Es.iload (q := 39) ?_ X24 hx (hb hby d3_37) rfl rfl
            refine Es.iconst (q := 40) (z := (1 : Int32)) ?_ X24 hx (hb hby d3_39) rfl rfl
            refine Es.isub (q := 41) ?_ X24 hx (hb hby d3_40) rfl
            show Ends p e below s _ _ _ (T24.setTop (mkF m 41 _ [(.int (2 : Int32))]))
            refine Es.istoreN (q := 42) (l' := #[.val (.ref x0), .val (.int x1), .val (.int (3 : Int32)), .val (.int (2 : Int32)), .val (.int (3 : Int32))]) ?_ X24 hx (hb hby d3_41) rfl rfl
            refine Es.goto (q := 70) ?_ X24 hx (hb hby d3_42) (by decide) (by decide)
            refine Es.goto (q := 12) ?_ X24 hx (hb hby d3_70) (by decide) (by decide)
            refine Es.iloadN (q := 13) ?_ X24 hx (hb hby d3_12) rfl rfl
            refine Es.iloadN (q := 14) ?_ X24 hx (hb hby d3_13) rfl rfl
            refine Es.icmpYes (q := 73) ?_ X24 hx (hb hby d3_14) (XT.ii_gt_t (by decide)) (by decide) (by decide)
            refine Es.iconst (q := 74) (z := (0 : Int32)) ?_ X24 hx (hb hby d3_73) rfl rfl
            exact Ends.retN X24 hx Bd.notSynchronized Bd.returns (t := .boolean) (by simp) (hb hby d3_74) (w := (0 : Int32)) rfl ⟨by rw [hv26]; first | done | rfl, N0, e24⟩ (by decide) (by decide)
          · have hv27 := hv23.trans (if_neg hc25)
            refine Es.icmpYes (q := 45) ?_ X24 hx (hb hby d3_34) (XT.ii_ge_t hc25) (by decide) (by decide)
            refine Es.iloadN (q := 46) ?_ X24 hx (hb hby d3_45) rfl rfl
            refine Es.aloadN (q := 47) ?_ X24 hx (hb hby d3_46) rfl rfl rfl
            obtain ⟨T28, X28, e28, st28⟩ := getF X24 hx hZ hown (host := "") (Or.inl (hw _ (List.mem_of_getElem? (i := 22) rfl))) Via.refl e24 F1 (g := (mkF m 47 #[.val (.ref x0), .val (.int x1), .val (.int (3 : Int32)), .val (.int (3 : Int32)), .val (.int (3 : Int32))] [(.ref x0), (.int x1)])) rfl rfl (hb hby d3_47)
            refine Ends.by ?_ st28
            show Ends p e below s _ _ _ (T28.setTop (mkF m 50 #[.val (.ref x0), .val (.int x1), .val (.int (3 : Int32)), .val (.int (3 : Int32)), .val (.int (3 : Int32))] [(.ref ya), (.int x1)]))
            refine Es.iconst (q := 51) (z := (2 : Int32)) ?_ X28 hx (hb hby d3_50) rfl rfl
            refine Es.iload (q := 53) ?_ X28 hx (hb hby d3_51) rfl rfl
            refine Es.imul (q := 54) ?_ X28 hx (hb hby d3_53) rfl
            show Ends p e below s _ _ _ (T28.setTop (mkF m 54 _ [(.int (6 : Int32)), (.ref ya), (.int x1)]))
            refine Es.iconst (q := 55) (z := (1 : Int32)) ?_ X28 hx (hb hby d3_54) rfl rfl
            refine Es.iadd (q := 56) ?_ X28 hx (hb hby d3_55) rfl
            show Ends p e below s _ _ _ (T28.setTop (mkF m 56 _ [(.int (7 : Int32)), (.ref ya), (.int x1)]))
            refine Ends.iald ?_ X28 hx hZ e28 V0 (by decide) (hb hby d3_56)
            show Ends p e below s _ _ _ (T28.setTop (mkF m 57 #[.val (.ref x0), .val (.int x1), .val (.int (3 : Int32)), .val (.int (3 : Int32)), .val (.int (3 : Int32))] [(.int (g 7)), (.int x1)]))
            by_cases hc29 : (g 7) < x1
            · have hv30 := hv27.trans (if_pos hc29)
              refine Es.icmpNo (q := 60) ?_ X28 hx (hb hby d3_57) rfl (XT.ii_le_f hc29)
              refine Es.iload (q := 62) ?_ X28 hx (hb hby d3_60) rfl rfl
              refine Es.iconst (q := 63) (z := (1 : Int32)) ?_ X28 hx (hb hby d3_62) rfl rfl
              refine Es.iadd (q := 64) ?_ X28 hx (hb hby d3_63) rfl
              show Ends p e below s _ _ _ (T28.setTop (mkF m 64 _ [(.int (4 : Int32))]))
              refine Es.istoreN (q := 65) (l' := #[.val (.ref x0), .val (.int x1), .val (.int (4 : Int32)), .val (.int (3 : Int32)), .val (.int (3 : Int32))]) ?_ X28 hx (hb hby d3_64) rfl rfl
              refine Es.goto (q := 70) ?_ X28 hx (hb hby d3_65) (by decide) (by decide)
              refine Es.goto (q := 12) ?_ X28 hx (hb hby d3_70) (by decide) (by decide)
              refine Es.iloadN (q := 13) ?_ X28 hx (hb hby d3_12) rfl rfl
              refine Es.iloadN (q := 14) ?_ X28 hx (hb hby d3_13) rfl rfl
              refine Es.icmpYes (q := 73) ?_ X28 hx (hb hby d3_14) (XT.ii_gt_t (by decide)) (by decide) (by decide)
              refine Es.iconst (q := 74) (z := (0 : Int32)) ?_ X28 hx (hb hby d3_73) rfl rfl
              exact Ends.retN X28 hx Bd.notSynchronized Bd.returns (t := .boolean) (by simp) (hb hby d3_74) (w := (0 : Int32)) rfl ⟨by rw [hv30]; first | done | rfl, N0, e28⟩ (by decide) (by decide)
            · have hv31 := hv27.trans (if_neg hc29)
              refine Es.icmpYes (q := 68) ?_ X28 hx (hb hby d3_57) (XT.ii_le_t hc29) (by decide) (by decide)
              refine Es.iconst (q := 69) (z := (1 : Int32)) ?_ X28 hx (hb hby d3_68) rfl rfl
              exact Ends.retN X28 hx Bd.notSynchronized Bd.returns (t := .boolean) (by simp) (hb hby d3_69) (w := (1 : Int32)) rfl ⟨by rw [hv31]; first | done | rfl, N0, e28⟩ (by decide) (by decide)
        · have hv32 := hv20.trans (if_neg hc22)
          refine Es.icmpYes (q := 68) ?_ X21 hx (hb hby d3_57) (XT.ii_le_t hc22) (by decide) (by decide)
          refine Es.iconst (q := 69) (z := (1 : Int32)) ?_ X21 hx (hb hby d3_68) rfl rfl
          exact Ends.retN X21 hx Bd.notSynchronized Bd.returns (t := .boolean) (by simp) (hb hby d3_69) (w := (1 : Int32)) rfl ⟨by rw [hv32]; first | done | rfl, N0, e21⟩ (by decide) (by decide)
    · have hv33 := hv13.trans (if_neg hc15)
      refine Es.icmpYes (q := 68) ?_ X14 hx (hb hby d3_57) (XT.ii_le_t hc15) (by decide) (by decide)
      refine Es.iconst (q := 69) (z := (1 : Int32)) ?_ X14 hx (hb hby d3_68) rfl rfl
      exact Ends.retN X14 hx Bd.notSynchronized Bd.returns (t := .boolean) (by simp) (hb hby d3_69) (w := (1 : Int32)) rfl ⟨by rw [hv33]; first | done | rfl, N0, e14⟩ (by decide) (by decide)

theorem own_c0 {x ya : Addr} {cp : Int32} {g : Nat → Int32} : fC0 x cp ya g = if False then 1 else 0 := by
  rfl
theorem own_c1 {x ya : Addr} {cp : Int32} {g : Nat → Int32} {la ua : Int64} (e0 : g 0 = la.toInt32) (e1 : g 1 = ua.toInt32) (o0 : la.toInt ≤ ua.toInt) (r0 : -2147483648 ≤ la.toInt) (r1 : ua.toInt ≤ 2147483647) : fC1 x cp ya g = if (la.toInt ≤ cp.toInt ∧ cp.toInt ≤ ua.toInt) then 1 else 0 := by
  have k0 : (g 0).toInt = la.toInt := by rw [e0]; exact XT.narrowInt ⟨by omega, by omega⟩
  have k1 : (g 1).toInt = ua.toInt := by rw [e1]; exact XT.narrowInt ⟨by omega, by omega⟩
  unfold fC1
  simp only [Int32.lt_iff_toInt_lt, k0, k1]
  (repeat' split) <;> first | rfl | omega
theorem own_c2 {x ya : Addr} {cp : Int32} {g : Nat → Int32} {la ua lb ub : Int64} (e0 : g 0 = la.toInt32) (e1 : g 1 = ua.toInt32) (e2 : g 2 = lb.toInt32) (e3 : g 3 = ub.toInt32) (o0 : la.toInt ≤ ua.toInt) (o1 : lb.toInt ≤ ub.toInt) (p0 : ua.toInt < lb.toInt) (r0 : -2147483648 ≤ la.toInt) (r1 : ub.toInt ≤ 2147483647) : fC2 x cp ya g = if (la.toInt ≤ cp.toInt ∧ cp.toInt ≤ ua.toInt) ∨ (lb.toInt ≤ cp.toInt ∧ cp.toInt ≤ ub.toInt) then 1 else 0 := by
  have k0 : (g 0).toInt = la.toInt := by rw [e0]; exact XT.narrowInt ⟨by omega, by omega⟩
  have k1 : (g 1).toInt = ua.toInt := by rw [e1]; exact XT.narrowInt ⟨by omega, by omega⟩
  have k2 : (g 2).toInt = lb.toInt := by rw [e2]; exact XT.narrowInt ⟨by omega, by omega⟩
  have k3 : (g 3).toInt = ub.toInt := by rw [e3]; exact XT.narrowInt ⟨by omega, by omega⟩
  unfold fC2
  simp only [Int32.lt_iff_toInt_lt, k0, k1, k2, k3]
  (repeat' split) <;> first | rfl | omega
theorem own_c3 {x ya : Addr} {cp : Int32} {g : Nat → Int32} {la ua lb ub lc uc : Int64} (e0 : g 0 = la.toInt32) (e1 : g 1 = ua.toInt32) (e2 : g 2 = lb.toInt32) (e3 : g 3 = ub.toInt32) (e4 : g 4 = lc.toInt32) (e5 : g 5 = uc.toInt32) (o0 : la.toInt ≤ ua.toInt) (o1 : lb.toInt ≤ ub.toInt) (o2 : lc.toInt ≤ uc.toInt) (p0 : ua.toInt < lb.toInt) (p1 : ub.toInt < lc.toInt) (r0 : -2147483648 ≤ la.toInt) (r1 : uc.toInt ≤ 2147483647) : fC3 x cp ya g = if (la.toInt ≤ cp.toInt ∧ cp.toInt ≤ ua.toInt) ∨ (lb.toInt ≤ cp.toInt ∧ cp.toInt ≤ ub.toInt) ∨ (lc.toInt ≤ cp.toInt ∧ cp.toInt ≤ uc.toInt) then 1 else 0 := by
  have k0 : (g 0).toInt = la.toInt := by rw [e0]; exact XT.narrowInt ⟨by omega, by omega⟩
  have k1 : (g 1).toInt = ua.toInt := by rw [e1]; exact XT.narrowInt ⟨by omega, by omega⟩
  have k2 : (g 2).toInt = lb.toInt := by rw [e2]; exact XT.narrowInt ⟨by omega, by omega⟩
  have k3 : (g 3).toInt = ub.toInt := by rw [e3]; exact XT.narrowInt ⟨by omega, by omega⟩
  have k4 : (g 4).toInt = lc.toInt := by rw [e4]; exact XT.narrowInt ⟨by omega, by omega⟩
  have k5 : (g 5).toInt = uc.toInt := by rw [e5]; exact XT.narrowInt ⟨by omega, by omega⟩
  unfold fC3
  simp only [Int32.lt_iff_toInt_lt, k0, k1, k2, k3, k4, k5]
  (repeat' split) <;> first | rfl | omega
theorem own_c4 {x ya : Addr} {cp : Int32} {g : Nat → Int32} {la ua lb ub lc uc ld ud : Int64} (e0 : g 0 = la.toInt32) (e1 : g 1 = ua.toInt32) (e2 : g 2 = lb.toInt32) (e3 : g 3 = ub.toInt32) (e4 : g 4 = lc.toInt32) (e5 : g 5 = uc.toInt32) (e6 : g 6 = ld.toInt32) (e7 : g 7 = ud.toInt32) (o0 : la.toInt ≤ ua.toInt) (o1 : lb.toInt ≤ ub.toInt) (o2 : lc.toInt ≤ uc.toInt) (o3 : ld.toInt ≤ ud.toInt) (p0 : ua.toInt < lb.toInt) (p1 : ub.toInt < lc.toInt) (p2 : uc.toInt < ld.toInt) (r0 : -2147483648 ≤ la.toInt) (r1 : ud.toInt ≤ 2147483647) : fC4 x cp ya g = if (la.toInt ≤ cp.toInt ∧ cp.toInt ≤ ua.toInt) ∨ (lb.toInt ≤ cp.toInt ∧ cp.toInt ≤ ub.toInt) ∨ (lc.toInt ≤ cp.toInt ∧ cp.toInt ≤ uc.toInt) ∨ (ld.toInt ≤ cp.toInt ∧ cp.toInt ≤ ud.toInt) then 1 else 0 := by
  have k0 : (g 0).toInt = la.toInt := by rw [e0]; exact XT.narrowInt ⟨by omega, by omega⟩
  have k1 : (g 1).toInt = ua.toInt := by rw [e1]; exact XT.narrowInt ⟨by omega, by omega⟩
  have k2 : (g 2).toInt = lb.toInt := by rw [e2]; exact XT.narrowInt ⟨by omega, by omega⟩
  have k3 : (g 3).toInt = ub.toInt := by rw [e3]; exact XT.narrowInt ⟨by omega, by omega⟩
  have k4 : (g 4).toInt = lc.toInt := by rw [e4]; exact XT.narrowInt ⟨by omega, by omega⟩
  have k5 : (g 5).toInt = uc.toInt := by rw [e5]; exact XT.narrowInt ⟨by omega, by omega⟩
  have k6 : (g 6).toInt = ld.toInt := by rw [e6]; exact XT.narrowInt ⟨by omega, by omega⟩
  have k7 : (g 7).toInt = ud.toInt := by rw [e7]; exact XT.narrowInt ⟨by omega, by omega⟩
  unfold fC4
  simp only [Int32.lt_iff_toInt_lt, k0, k1, k2, k3, k4, k5, k6, k7]
  (repeat' split) <;> first | rfl | omega
theorem own_hi (a q : Int64) (h1 : -3000000000 ≤ a.toInt) (h2 : a.toInt ≤ 3000000000) : a.toInt ≤ (a + (q &&& (255 : Int64))).toInt ∧ (a + (q &&& (255 : Int64))).toInt ≤ a.toInt + 255 := by
  have h := c_maskL q 255 8 (by decide) (by decide)
  have q1 := c_ladd a (q &&& (255 : Int64))
  have q2 := rng64 (a + (q &&& (255 : Int64)))
  omega
theorem own_lo (a q : Int64) (h1 : -3000000000 ≤ a.toInt) (h2 : a.toInt ≤ 3000000000) : a.toInt < (a + (1 : Int64) + (q &&& (255 : Int64))).toInt ∧ (a + (1 : Int64) + (q &&& (255 : Int64))).toInt ≤ a.toInt + 256 := by
  have h := c_maskL q 255 8 (by decide) (by decide)
  have q1 := c_ladd (a + 1) (q &&& (255 : Int64))
  have q2 := rng64 (a + 1 + (q &&& (255 : Int64)))
  have q3 := c_ladd a 1
  have q4 := rng64 (a + 1)
  have e1 : (1 : Int64).toInt = 1 := rfl
  omega
theorem own_n (x : Int32) : ∃ a : Int32, a = (x &&& (7 : Int32)) % (5 : Int32) ∧ (a = 0 ∨ a = 1 ∨ a = 2 ∨ a = 3 ∨ a = 4) := by
  refine ⟨_, rfl, ?_⟩
  have h := c_mask x 7 3 (by decide) (by decide)
  have h2 := (c_irem (x &&& (7 : Int32)) 5 5 (by decide)).1 (by omega)
  simp only [← Int32.toInt_inj]
  have e0 : (0 : Int32).toInt = 0 := rfl
  have e1 : (1 : Int32).toInt = 1 := rfl
  have e2 : (2 : Int32).toInt = 2 := rfl
  have e3 : (3 : Int32).toInt = 3 := rfl
  have e4 : (4 : Int32).toInt = 4 := rfl
  omega
theorem pd_0 : parseMethodDescriptor "([I)V" = some ⟨[(.array .int)], none⟩ := by decide +kernel
theorem pd_1 : parseMethodDescriptor "(I)Z" = some ⟨[.int], some .boolean⟩ := by decide +kernel
set_option maxRecDepth 65536 in
set_option maxHeartbeats 40000000 in
theorem sgP0 {p : Program} {l : Launch} {e : Env} {s : State} {m : MethodId} {args : Array Value} {below : List Frame} {meth : Method} {c : Code} {Z : State} {a0 : Array Value} (hx : p.tables.exec = Jvm.exec) (hZ : Z.Warmed39 s.vm) (hw : ∀ d ∈ tables_1, d.before a0 Z = true) (hby : c.code = code) (hml : c.maxLocals = 32) (hown : s.vm.findClass "com/example/tagwright/tagwright/model/CodePointSetContainsPinLaw" = some m.cls) (hlk : meth.locks = false) (hret : meth.sig.returnType = some .boolean) {T : State} {locs : List Loc} {h : Heap} {n0 : Nat} (x0 : Int32) (x1 : Int64) (x2 : Int32) (x3 : Int32) (la : Int64) (ua : Int64) (lb : Int64) (ub : Int64) (lc : Int64) (uc : Int64) (ld : Int64) (ud : Int64) (cp : Int32) (X : Stand p l e room_1 s m args below meth c T locs 0 0) (eT : T.heap = h) (N : Fr n0 locs) (Zs : n0 ≤ h.size) (r0 : -2147483648 ≤ la.toInt) (o0 : la.toInt ≤ ua.toInt) (p0 : ua.toInt < lb.toInt) (o1 : lb.toInt ≤ ub.toInt) (p1 : ub.toInt < lc.toInt) (o2 : lc.toInt ≤ uc.toInt) (p2 : uc.toInt < ld.toInt) (o3 : ld.toInt ≤ ud.toInt) (r1 : la.toInt ≤ 2147483647) :
    Ends p e below s (QL n0) room_1.cells room_1.slots (T.setTop (mkF m 214 #[.val (.int x0), .val (.long x1), .second, .val (.int x2), .val (.int x3), .val (.int (0 : Int32)), .val (.long la), .second, .val (.long ua), .second, .val (.long lb), .second, .val (.long ub), .second, .val (.long lc), .second, .val (.long uc), .second, .val (.long ld), .second, .val (.long ud), .second, .val (.long la), .second, .val (.long ((la - (256 : Int64)) + ((x3 &&& (4095 : Int32)).toInt64))), .second, .val (.int cp), .unset, .unset, .unset, .unset, .unset] [])) := by
  show Ends p e below s _ _ _ (T.setTop (mkF m 214 #[.val (.int x0), .val (.long x1), .second, .val (.int x2), .val (.int x3), .val (.int (0 : Int32)), .val (.long la), .second, .val (.long ua), .second, .val (.long lb), .second, .val (.long ub), .second, .val (.long lc), .second, .val (.long uc), .second, .val (.long ld), .second, .val (.long ud), .second, .val (.long la), .second, .val (.long ((la - (256 : Int64)) + ((x3 &&& (4095 : Int32)).toInt64))), .second, .val (.int cp), .unset, .unset, .unset, .unset, .unset] []))
  refine Es.iload (q := 216) ?_ X hx (hb hby at_214) rfl rfl
  refine Es.ifNo (q := 219) ?_ X hx (hb hby at_216) rfl (XT.i0_ne_f (by decide))
  refine Es.iconst (q := 220) (z := (0 : Int32)) ?_ X hx (hb hby at_219) rfl rfl
  obtain ⟨T3, h3, X3, e3, E3, V3, Ax3, st3⟩ := newArE X hx hZ (C := "[I") rfl (hw _ (List.mem_of_getElem? (i := 3) rfl)) rfl eT (n := 0) (z := (0 : Int32)) (cap := 0) (by decide) (by decide) (by decide) (by decide) (by decide) (Ls := #[.val (.int x0), .val (.long x1), .second, .val (.int x2), .val (.int x3), .val (.int (0 : Int32)), .val (.long la), .second, .val (.long ua), .second, .val (.long lb), .second, .val (.long ub), .second, .val (.long lc), .second, .val (.long uc), .second, .val (.long ld), .second, .val (.long ud), .second, .val (.long la), .second, .val (.long ((la - (256 : Int64)) + ((x3 &&& (4095 : Int32)).toInt64))), .second, .val (.int cp), .unset, .unset, .unset, .unset, .unset]) (S := []) (hb hby at_220)
  obtain ⟨b3, g3⟩ : ∃ z, z = h.size := ⟨_, rfl⟩
  rw [← g3] at V3 Ax3 st3
  have gn3 : n0 ≤ b3 := Nat.le_trans Zs (Nat.le_of_eq g3.symm)
  have Zs4 : n0 ≤ h3.size := Nat.le_trans Zs E3.1
  refine Ends.by ?_ st3
  show Ends p e below s _ _ _ (T3.setTop (mkF m 222 #[.val (.int x0), .val (.long x1), .second, .val (.int x2), .val (.int x3), .val (.int (0 : Int32)), .val (.long la), .second, .val (.long ua), .second, .val (.long lb), .second, .val (.long ub), .second, .val (.long lc), .second, .val (.long uc), .second, .val (.long ld), .second, .val (.long ud), .second, .val (.long la), .second, .val (.long ((la - (256 : Int64)) + ((x3 &&& (4095 : Int32)).toInt64))), .second, .val (.int cp), .unset, .unset, .unset, .unset, .unset] [(.ref b3)]))
  refine Es.astore (q := 224) (l' := #[.val (.int x0), .val (.long x1), .second, .val (.int x2), .val (.int x3), .val (.int (0 : Int32)), .val (.long la), .second, .val (.long ua), .second, .val (.long lb), .second, .val (.long ub), .second, .val (.long lc), .second, .val (.long uc), .second, .val (.long ld), .second, .val (.long ud), .second, .val (.long la), .second, .val (.long ((la - (256 : Int64)) + ((x3 &&& (4095 : Int32)).toInt64))), .second, .val (.int cp), .val (.ref b3), .unset, .unset, .unset, .unset]) ?_ X3 hx (hb hby at_222) rfl rfl rfl
  refine Es.goto (q := 398) ?_ X3 hx (hb hby at_224) (by decide) (by decide)
  obtain ⟨T5, h5, X5, e5, E5, A5, D5, -, st5⟩ := newO X3 hx hZ hown (hw _ (List.mem_of_getElem? (i := 4) rfl)) (hw _ (List.mem_of_getElem? (i := 5) rfl)) (hw _ (List.mem_of_getElem? (i := 6) rfl)) e3 (g := (mkF m 398 #[.val (.int x0), .val (.long x1), .second, .val (.int x2), .val (.int x3), .val (.int (0 : Int32)), .val (.long la), .second, .val (.long ua), .second, .val (.long lb), .second, .val (.long ub), .second, .val (.long lc), .second, .val (.long uc), .second, .val (.long ld), .second, .val (.long ud), .second, .val (.long la), .second, .val (.long ((la - (256 : Int64)) + ((x3 &&& (4095 : Int32)).toInt64))), .second, .val (.int cp), .val (.ref b3), .unset, .unset, .unset, .unset] [])) rfl (hb hby at_398) (by decide) (by decide)
  obtain ⟨b5, g5⟩ : ∃ z, z = h3.size := ⟨_, rfl⟩
  rw [← g5] at A5 D5 st5
  have ne6 : b3 ≠ b5 := Nat.ne_of_lt (Nat.lt_of_lt_of_le V3.lt (Nat.le_of_eq g5.symm))
  have gn5 : n0 ≤ b5 := Nat.le_trans Zs4 (Nat.le_of_eq g5.symm)
  have f7 := V3.ext E5
  have f8 := Exa.ext E5 Ax3
  have F5_bounds : Fld Z h5 b5 "com/example/tagwright/tagwright/model/CodePointSet" "bounds" "[I" .null := D5 (Or.inr (hw _ (List.mem_of_getElem? (i := 23) rfl))) (ty := (.array .int)) (by decide)
  have Zs9 : n0 ≤ h5.size := Nat.le_trans Zs4 E5.1
  refine Ends.by ?_ st5
  show Ends p e below s _ _ _ (T5.setTop (mkF m 401 #[.val (.int x0), .val (.long x1), .second, .val (.int x2), .val (.int x3), .val (.int (0 : Int32)), .val (.long la), .second, .val (.long ua), .second, .val (.long lb), .second, .val (.long ub), .second, .val (.long lc), .second, .val (.long uc), .second, .val (.long ld), .second, .val (.long ud), .second, .val (.long la), .second, .val (.long ((la - (256 : Int64)) + ((x3 &&& (4095 : Int32)).toInt64))), .second, .val (.int cp), .val (.ref b3), .unset, .unset, .unset, .unset] [(.ref b5)]))
  refine Es.dup (q := 402) ?_ X5 hx (hb hby at_401) rfl rfl
  refine Es.aload (q := 404) ?_ X5 hx (hb hby at_402) rfl rfl rfl
  obtain ⟨v10, _, ⟨T10, L10, k10, n10⟩, -, X10, ⟨Lc10, hQ10, l10, y10, z10⟩, st10⟩ := X5.specialBack hx (y := (⟨"com/example/tagwright/tagwright/model/CodePointSet", "<init>", "([I)V"⟩ : MethodName)) rfl hown (mvT hZ (hw _ (List.mem_of_getElem? (i := 7) rfl))) (mvT hZ (hw _ (List.mem_of_getElem? (i := 8) rfl))) (mvT hZ (hw _ (List.mem_of_getElem? (i := 9) rfl))) (by decide) (backOf (W := 1) (rm1 l Z a0 hw [] b5 b3 0 (fun _ => (0 : Int32)) h5 n0 Zs9 A5 F5_bounds f7 f8 ne6 gn5 (by decide)) hZ (hw _ (List.mem_of_getElem? (i := 9) rfl)) (hw _ (List.mem_of_getElem? (i := 6) rfl)) (by decide) (by decide)) (g := (mkF m 404 #[.val (.int x0), .val (.long x1), .second, .val (.int x2), .val (.int x3), .val (.int (0 : Int32)), .val (.long la), .second, .val (.long ua), .second, .val (.long lb), .second, .val (.long ub), .second, .val (.long lc), .second, .val (.long uc), .second, .val (.long ld), .second, .val (.long ud), .second, .val (.long la), .second, .val (.long ((la - (256 : Int64)) + ((x3 &&& (4095 : Int32)).toInt64))), .second, .val (.int cp), .val (.ref b3), .unset, .unset, .unset, .unset] [(.ref b3), (.ref b5), (.ref b5)])) rfl (by rw [hml]; rfl) (Steps.refl _) (a := b5) (argsL := [(.ref b3)]) (rest := [(.ref b5)]) (lenOf pd_0 rfl) rfl (by show 2 * 0 + _ ≤ _; exact Nat.le_of_eq rfl) (hb hby at_404) (fun _ _ => ⟨rfl, e5, (by decide : 2 + 1 ≤ _), (by decide : 1 + 8 ≤ _)⟩)
  dsimp only [Pt.U, Pt.locs, Pt.cells, Pt.slots] at X10 l10 y10 z10 st10 hQ10
  subst l10 y10 z10
  obtain ⟨rfl, N10q, K10, Ex10, bb, Fa10, Va10⟩ := hQ10
  have N10 := Fr.app N N10q
  have f11 := A5.keep K10
  have Zs13 : n0 ≤ T10.heap.size := Nat.le_trans Zs9 K10.1
  refine Ends.go st10 ?_
  show Ends p e below s _ _ _ (T10.setTop (mkF m 407 #[.val (.int x0), .val (.long x1), .second, .val (.int x2), .val (.int x3), .val (.int (0 : Int32)), .val (.long la), .second, .val (.long ua), .second, .val (.long lb), .second, .val (.long ub), .second, .val (.long lc), .second, .val (.long uc), .second, .val (.long ld), .second, .val (.long ud), .second, .val (.long la), .second, .val (.long ((la - (256 : Int64)) + ((x3 &&& (4095 : Int32)).toInt64))), .second, .val (.int cp), .val (.ref b3), .unset, .unset, .unset, .unset] [(.ref b5)]))
  refine Es.astore (q := 409) (l' := #[.val (.int x0), .val (.long x1), .second, .val (.int x2), .val (.int x3), .val (.int (0 : Int32)), .val (.long la), .second, .val (.long ua), .second, .val (.long lb), .second, .val (.long ub), .second, .val (.long lc), .second, .val (.long uc), .second, .val (.long ld), .second, .val (.long ud), .second, .val (.long la), .second, .val (.long ((la - (256 : Int64)) + ((x3 &&& (4095 : Int32)).toInt64))), .second, .val (.int cp), .val (.ref b3), .val (.ref b5), .unset, .unset, .unset]) ?_ X10 hx (hb hby at_407) rfl rfl rfl
  refine Es.iload (q := 411) ?_ X10 hx (hb hby at_409) rfl rfl
  refine Es.i2l (q := 412) ?_ X10 hx (hb hby at_411) rfl
  refine Es.lstore (q := 414) (l' := #[.val (.int x0), .val (.long x1), .second, .val (.int x2), .val (.int x3), .val (.int (0 : Int32)), .val (.long la), .second, .val (.long ua), .second, .val (.long lb), .second, .val (.long ub), .second, .val (.long lc), .second, .val (.long uc), .second, .val (.long ld), .second, .val (.long ud), .second, .val (.long la), .second, .val (.long ((la - (256 : Int64)) + ((x3 &&& (4095 : Int32)).toInt64))), .second, .val (.int cp), .val (.ref b3), .val (.ref b5), .val (.long (cp.toInt64)), .second, .unset]) ?_ X10 hx (hb hby at_412) rfl rfl
  refine Es.iload (q := 416) ?_ X10 hx (hb hby at_414) rfl rfl
  refine Es.iconst (q := 417) (z := (1 : Int32)) ?_ X10 hx (hb hby at_416) rfl rfl
  refine Es.icmpYes (q := 436) ?_ X10 hx (hb hby at_417) (XT.ii_lt_t (by decide)) (by decide) (by decide)
  refine Es.iload (q := 438) ?_ X10 hx (hb hby at_436) rfl rfl
  refine Es.iconst (q := 439) (z := (2 : Int32)) ?_ X10 hx (hb hby at_438) rfl rfl
  refine Es.icmpYes (q := 458) ?_ X10 hx (hb hby at_439) (XT.ii_lt_t (by decide)) (by decide) (by decide)
  refine Es.iload (q := 460) ?_ X10 hx (hb hby at_458) rfl rfl
  refine Es.iconst (q := 461) (z := (3 : Int32)) ?_ X10 hx (hb hby at_460) rfl rfl
  refine Es.icmpYes (q := 480) ?_ X10 hx (hb hby at_461) (XT.ii_lt_t (by decide)) (by decide) (by decide)
  refine Es.iload (q := 482) ?_ X10 hx (hb hby at_480) rfl rfl
  refine Es.iconst (q := 483) (z := (4 : Int32)) ?_ X10 hx (hb hby at_482) rfl rfl
  refine Es.icmpYes (q := 506) ?_ X10 hx (hb hby at_483) (XT.ii_lt_t (by decide)) (by decide) (by decide)
  refine Es.iconst (q := 507) (z := (0 : Int32)) ?_ X10 hx (hb hby at_506) rfl rfl
  refine Es.istore (q := 509) (l' := #[.val (.int x0), .val (.long x1), .second, .val (.int x2), .val (.int x3), .val (.int (0 : Int32)), .val (.long la), .second, .val (.long ua), .second, .val (.long lb), .second, .val (.long ub), .second, .val (.long lc), .second, .val (.long uc), .second, .val (.long ld), .second, .val (.long ud), .second, .val (.long la), .second, .val (.long ((la - (256 : Int64)) + ((x3 &&& (4095 : Int32)).toInt64))), .second, .val (.int cp), .val (.ref b3), .val (.ref b5), .val (.long (cp.toInt64)), .second, .val (.int (0 : Int32))]) ?_ X10 hx (hb hby at_507) rfl rfl
  refine Es.aload (q := 511) ?_ X10 hx (hb hby at_509) rfl rfl rfl
  refine Es.iload (q := 513) ?_ X10 hx (hb hby at_511) rfl rfl
  obtain ⟨cq14, kq14, q14a, q14b, q14c⟩ := isOf hZ rfl Ex10
  obtain ⟨v14, _, ⟨T14, L14, k14, n14⟩, -, X14, ⟨Lc14, hQ14, l14, y14, z14⟩, st14⟩ := X10.virtualBack hx (y := (⟨"com/example/tagwright/tagwright/model/CodePointSet", "contains", "(I)Z"⟩ : MethodName)) (z := (⟨"com/example/tagwright/tagwright/model/CodePointSet", "contains", "(I)Z"⟩ : MethodName)) hown (mvT hZ (hw _ (List.mem_of_getElem? (i := 24) rfl))) (mvT hZ (hw _ (List.mem_of_getElem? (i := 25) rfl))) (notFace_of_selects (args := #[]) (mvT hZ (hw _ (List.mem_of_getElem? (i := 27) rfl)))) (mvT hZ (hw _ (List.mem_of_getElem? (i := 27) rfl))) (mvT hZ (hw _ (List.mem_of_getElem? (i := 26) rfl))) (by decide) (backOf (W := 0) (rmC0 l Z a0 hw [] b5 cp bb (fun _ => (0 : Int32)) T10.heap n0 Zs13 Fa10 Va10) hZ (hw _ (List.mem_of_getElem? (i := 28) rfl)) (hw _ (List.mem_of_getElem? (i := 6) rfl)) (by decide) (by decide)) q14a q14c (g := (mkF m 513 #[.val (.int x0), .val (.long x1), .second, .val (.int x2), .val (.int x3), .val (.int (0 : Int32)), .val (.long la), .second, .val (.long ua), .second, .val (.long lb), .second, .val (.long ub), .second, .val (.long lc), .second, .val (.long uc), .second, .val (.long ld), .second, .val (.long ud), .second, .val (.long la), .second, .val (.long ((la - (256 : Int64)) + ((x3 &&& (4095 : Int32)).toInt64))), .second, .val (.int cp), .val (.ref b3), .val (.ref b5), .val (.long (cp.toInt64)), .second, .val (.int (0 : Int32))] [(.int cp), (.ref b5)])) rfl (by rw [hml]; rfl) (Steps.refl _) (argsL := [(.int cp)]) (rest := []) (lenOf pd_1 rfl) rfl (by show 2 * 0 + _ ≤ _; exact Nat.le_of_eq rfl) (hb hby at_513) (fun _ _ => ⟨rfl, rfl, (by decide : 3 + 0 ≤ _), (by decide : 9 + 0 ≤ _)⟩)
  dsimp only [Pt.U, Pt.locs, Pt.cells, Pt.slots] at X14 l14 y14 z14 st14 hQ14
  subst l14 y14 z14
  obtain ⟨rfl, N14q, e14⟩ := hQ14
  have N14 := Fr.app N10 N14q
  refine Ends.go st14 ?_
  show Ends p e below s _ _ _ (T14.setTop (mkF m 516 #[.val (.int x0), .val (.long x1), .second, .val (.int x2), .val (.int x3), .val (.int (0 : Int32)), .val (.long la), .second, .val (.long ua), .second, .val (.long lb), .second, .val (.long ub), .second, .val (.long lc), .second, .val (.long uc), .second, .val (.long ld), .second, .val (.long ud), .second, .val (.long la), .second, .val (.long ((la - (256 : Int64)) + ((x3 &&& (4095 : Int32)).toInt64))), .second, .val (.int cp), .val (.ref b3), .val (.ref b5), .val (.long (cp.toInt64)), .second, .val (.int (0 : Int32))] [(.int (fC0 b5 cp bb (fun _ => (0 : Int32))))]))
  refine Es.iload (q := 518) ?_ X14 hx (hb hby at_516) rfl rfl
  refine Es.icmpNo (q := 521) ?_ X14 hx (hb hby at_518) rfl (XT.ii_ne_f ((own_c0   ).trans (if_neg (by exact id)) : (fC0 b5 cp bb (fun _ => (0 : Int32))) = (0 : Int32)))
  refine Es.iconst (q := 522) (z := (1 : Int32)) ?_ X14 hx (hb hby at_521) rfl rfl
  refine Es.goto (q := 526) ?_ X14 hx (hb hby at_522) (by decide) (by decide)
  exact Ends.retN X14 hx hlk hret (t := .boolean) (by simp) (hb hby at_526) (w := 1) rfl ⟨rfl, N14⟩ (by decide) (by decide)

set_option maxRecDepth 65536 in
set_option maxHeartbeats 40000000 in
theorem sgN0 {p : Program} {l : Launch} {e : Env} {s : State} {m : MethodId} {args : Array Value} {below : List Frame} {meth : Method} {c : Code} {Z : State} {a0 : Array Value} (hx : p.tables.exec = Jvm.exec) (hZ : Z.Warmed39 s.vm) (hw : ∀ d ∈ tables_1, d.before a0 Z = true) (hby : c.code = code) (hml : c.maxLocals = 32) (hown : s.vm.findClass "com/example/tagwright/tagwright/model/CodePointSetContainsPinLaw" = some m.cls) (hlk : meth.locks = false) (hret : meth.sig.returnType = some .boolean) {T : State} {locs : List Loc} {h : Heap} {n0 : Nat} (x0 : Int32) (x1 : Int64) (x2 : Int32) (x3 : Int32) (la : Int64) (ua : Int64) (lb : Int64) (ub : Int64) (lc : Int64) (uc : Int64) (ld : Int64) (ud : Int64) (X : Stand p l e room_1 s m args below meth c T locs 0 0) (eT : T.heap = h) (N : Fr n0 locs) (Zs : n0 ≤ h.size) (r0 : -2147483648 ≤ la.toInt) (o0 : la.toInt ≤ ua.toInt) (p0 : ua.toInt < lb.toInt) (o1 : lb.toInt ≤ ub.toInt) (p1 : ub.toInt < lc.toInt) (o2 : lc.toInt ≤ uc.toInt) (p2 : uc.toInt < ld.toInt) (o3 : ld.toInt ≤ ud.toInt) :
    Ends p e below s (QL n0) room_1.cells room_1.slots (T.setTop (mkF m 106 #[.val (.int x0), .val (.long x1), .second, .val (.int x2), .val (.int x3), .val (.int (0 : Int32)), .val (.long la), .second, .val (.long ua), .second, .val (.long lb), .second, .val (.long ub), .second, .val (.long lc), .second, .val (.long uc), .second, .val (.long ld), .second, .val (.long ud), .second, .unset, .unset, .unset, .unset, .unset, .unset, .unset, .unset, .unset, .unset] [])) := by
  show Ends p e below s _ _ _ (T.setTop (mkF m 106 #[.val (.int x0), .val (.long x1), .second, .val (.int x2), .val (.int x3), .val (.int (0 : Int32)), .val (.long la), .second, .val (.long ua), .second, .val (.long lb), .second, .val (.long ub), .second, .val (.long lc), .second, .val (.long uc), .second, .val (.long ld), .second, .val (.long ud), .second, .unset, .unset, .unset, .unset, .unset, .unset, .unset, .unset, .unset, .unset] []))
  refine Es.iload (q := 108) ?_ X hx (hb hby at_106) rfl rfl
  refine Es.ifNo (q := 111) ?_ X hx (hb hby at_108) rfl (XT.i0_ne_f (by decide))
  refine Es.lload (q := 113) ?_ X hx (hb hby at_111) rfl rfl
  refine Es.goto (q := 151) ?_ X hx (hb hby at_113) (by decide) (by decide)
  refine Es.lstore (q := 153) (l' := #[.val (.int x0), .val (.long x1), .second, .val (.int x2), .val (.int x3), .val (.int (0 : Int32)), .val (.long la), .second, .val (.long ua), .second, .val (.long lb), .second, .val (.long ub), .second, .val (.long lc), .second, .val (.long uc), .second, .val (.long ld), .second, .val (.long ud), .second, .val (.long la), .second, .unset, .unset, .unset, .unset, .unset, .unset, .unset, .unset]) ?_ X hx (hb hby at_151) rfl rfl
  refine Es.lload (q := 155) ?_ X hx (hb hby at_153) rfl rfl
  refine Es.ldc2 (q := 158) ?_ X hx hown (mvT hZ (hw _ (List.mem_of_getElem? (i := 1) rfl))) (hb hby at_155) rfl
  refine Es.lcmp (q := 159) ?_ X hx (hb hby at_158) rfl
  by_cases hc1 : (2147483647 : Int64) < la
  · refine Es.ifNo (q := 162) ?_ X hx (hb hby at_159) rfl (XT.ll_le_f hc1)
    refine Es.iconst (q := 163) (z := (1 : Int32)) ?_ X hx (hb hby at_162) rfl rfl
    exact Ends.retN X hx hlk hret (t := .boolean) (by simp) (hb hby at_163) (w := 1) rfl ⟨rfl, N⟩ (by decide) (by decide)
  · refine Es.ifYes (q := 164) ?_ X hx (hb hby at_159) (XT.ll_le_t hc1) (by decide) (by decide)
    refine Es.lload (q := 166) ?_ X hx (hb hby at_164) rfl rfl
    refine Es.ldc2 (q := 169) ?_ X hx hown (mvT hZ (hw _ (List.mem_of_getElem? (i := 2) rfl))) (hb hby at_166) rfl
    refine Es.lsub (q := 170) ?_ X hx (hb hby at_169) rfl
    refine Es.iload (q := 172) ?_ X hx (hb hby at_170) rfl rfl
    refine Es.sipush (q := 175) (z := (4095 : Int32)) ?_ X hx (hb hby at_172) rfl rfl
    refine Es.iand (q := 176) ?_ X hx (hb hby at_175) rfl
    refine Es.i2l (q := 177) ?_ X hx (hb hby at_176) rfl
    refine Es.ladd (q := 178) ?_ X hx (hb hby at_177) rfl
    refine Es.lstore (q := 180) (l' := #[.val (.int x0), .val (.long x1), .second, .val (.int x2), .val (.int x3), .val (.int (0 : Int32)), .val (.long la), .second, .val (.long ua), .second, .val (.long lb), .second, .val (.long ub), .second, .val (.long lc), .second, .val (.long uc), .second, .val (.long ld), .second, .val (.long ud), .second, .val (.long la), .second, .val (.long ((la - (256 : Int64)) + ((x3 &&& (4095 : Int32)).toInt64))), .second, .unset, .unset, .unset, .unset, .unset, .unset]) ?_ X hx (hb hby at_178) rfl rfl
    refine Es.iload (q := 182) ?_ X hx (hb hby at_180) rfl rfl
    refine Es.istore (q := 184) (l' := #[.val (.int x0), .val (.long x1), .second, .val (.int x2), .val (.int x3), .val (.int (0 : Int32)), .val (.long la), .second, .val (.long ua), .second, .val (.long lb), .second, .val (.long ub), .second, .val (.long lc), .second, .val (.long uc), .second, .val (.long ld), .second, .val (.long ud), .second, .val (.long la), .second, .val (.long ((la - (256 : Int64)) + ((x3 &&& (4095 : Int32)).toInt64))), .second, .val (.int x3), .unset, .unset, .unset, .unset, .unset]) ?_ X hx (hb hby at_182) rfl rfl
    refine Es.iloadN (q := 185) ?_ X hx (hb hby at_184) rfl rfl
    refine Es.bipush (q := 187) (z := (8 : Int32)) ?_ X hx (hb hby at_185) rfl rfl
    refine Es.iand (q := 188) ?_ X hx (hb hby at_187) rfl
    by_cases hc2 : (x2 &&& (8 : Int32)) = (0 : Int32)
    · refine Es.ifYes (q := 214) ?_ X hx (hb hby at_188) (XT.i0_eq_t hc2) (by decide) (by decide)
      have r1 : la.toInt ≤ 2147483647 := by have q := hc1; rw [Int64.lt_iff_toInt_lt] at q; have e1 : (2147483647 : Int64).toInt = 2147483647 := rfl; omega
      exact sgP0 hx hZ hw hby hml hown hlk hret (x0) (x1) (x2) (x3) (la) (ua) (lb) (ub) (lc) (uc) (ld) (ud) (x3) X eT N Zs r0 o0 p0 o1 p1 o2 p2 o3 r1
    · refine Es.ifNo (q := 191) ?_ X hx (hb hby at_188) rfl (XT.i0_eq_f hc2)
      refine Es.lload (q := 193) ?_ X hx (hb hby at_191) rfl rfl
      refine Es.ldc2 (q := 196) ?_ X hx hown (mvT hZ (hw _ (List.mem_of_getElem? (i := 29) rfl))) (hb hby at_193) rfl
      refine Es.lcmp (q := 197) ?_ X hx (hb hby at_196) rfl
      by_cases hc15 : ((la - (256 : Int64)) + ((x3 &&& (4095 : Int32)).toInt64)) < (-2147483648 : Int64)
      · refine Es.ifYes (q := 214) ?_ X hx (hb hby at_197) (XT.ll_lt_t hc15) (by decide) (by decide)
        have r1 : la.toInt ≤ 2147483647 := by have q := hc1; rw [Int64.lt_iff_toInt_lt] at q; have e1 : (2147483647 : Int64).toInt = 2147483647 := rfl; omega
        exact sgP0 hx hZ hw hby hml hown hlk hret (x0) (x1) (x2) (x3) (la) (ua) (lb) (ub) (lc) (uc) (ld) (ud) (x3) X eT N Zs r0 o0 p0 o1 p1 o2 p2 o3 r1
      · refine Es.ifNo (q := 200) ?_ X hx (hb hby at_197) rfl (XT.ll_lt_f hc15)
        refine Es.lload (q := 202) ?_ X hx (hb hby at_200) rfl rfl
        refine Es.ldc2 (q := 205) ?_ X hx hown (mvT hZ (hw _ (List.mem_of_getElem? (i := 1) rfl))) (hb hby at_202) rfl
        refine Es.lcmp (q := 206) ?_ X hx (hb hby at_205) rfl
        by_cases hc16 : (2147483647 : Int64) < ((la - (256 : Int64)) + ((x3 &&& (4095 : Int32)).toInt64))
        · refine Es.ifYes (q := 214) ?_ X hx (hb hby at_206) (XT.ll_gt_t hc16) (by decide) (by decide)
          have r1 : la.toInt ≤ 2147483647 := by have q := hc1; rw [Int64.lt_iff_toInt_lt] at q; have e1 : (2147483647 : Int64).toInt = 2147483647 := rfl; omega
          exact sgP0 hx hZ hw hby hml hown hlk hret (x0) (x1) (x2) (x3) (la) (ua) (lb) (ub) (lc) (uc) (ld) (ud) (x3) X eT N Zs r0 o0 p0 o1 p1 o2 p2 o3 r1
        · refine Es.ifNo (q := 209) ?_ X hx (hb hby at_206) rfl (XT.ll_gt_f hc16)
          refine Es.lload (q := 211) ?_ X hx (hb hby at_209) rfl rfl
          refine Es.l2i (q := 212) ?_ X hx (hb hby at_211) rfl
          refine Es.istore (q := 214) (l' := #[.val (.int x0), .val (.long x1), .second, .val (.int x2), .val (.int x3), .val (.int (0 : Int32)), .val (.long la), .second, .val (.long ua), .second, .val (.long lb), .second, .val (.long ub), .second, .val (.long lc), .second, .val (.long uc), .second, .val (.long ld), .second, .val (.long ud), .second, .val (.long la), .second, .val (.long ((la - (256 : Int64)) + ((x3 &&& (4095 : Int32)).toInt64))), .second, .val (.int (((la - (256 : Int64)) + ((x3 &&& (4095 : Int32)).toInt64)).toInt32)), .unset, .unset, .unset, .unset, .unset]) ?_ X hx (hb hby at_212) rfl rfl
          have r1 : la.toInt ≤ 2147483647 := by have q := hc1; rw [Int64.lt_iff_toInt_lt] at q; have e1 : (2147483647 : Int64).toInt = 2147483647 := rfl; omega
          exact sgP0 hx hZ hw hby hml hown hlk hret (x0) (x1) (x2) (x3) (la) (ua) (lb) (ub) (lc) (uc) (ld) (ud) ((((la - (256 : Int64)) + ((x3 &&& (4095 : Int32)).toInt64)).toInt32)) X eT N Zs r0 o0 p0 o1 p1 o2 p2 o3 r1

set_option maxRecDepth 65536 in
set_option maxHeartbeats 40000000 in
theorem sgP1 {p : Program} {l : Launch} {e : Env} {s : State} {m : MethodId} {args : Array Value} {below : List Frame} {meth : Method} {c : Code} {Z : State} {a0 : Array Value} (hx : p.tables.exec = Jvm.exec) (hZ : Z.Warmed39 s.vm) (hw : ∀ d ∈ tables_1, d.before a0 Z = true) (hby : c.code = code) (hml : c.maxLocals = 32) (hown : s.vm.findClass "com/example/tagwright/tagwright/model/CodePointSetContainsPinLaw" = some m.cls) (hlk : meth.locks = false) (hret : meth.sig.returnType = some .boolean) {T : State} {locs : List Loc} {h : Heap} {n0 : Nat} (x0 : Int32) (x1 : Int64) (x2 : Int32) (x3 : Int32) (la : Int64) (ua : Int64) (lb : Int64) (ub : Int64) (lc : Int64) (uc : Int64) (ld : Int64) (ud : Int64) (cp : Int32) (X : Stand p l e room_1 s m args below meth c T locs 0 0) (eT : T.heap = h) (N : Fr n0 locs) (Zs : n0 ≤ h.size) (r0 : -2147483648 ≤ la.toInt) (o0 : la.toInt ≤ ua.toInt) (p0 : ua.toInt < lb.toInt) (o1 : lb.toInt ≤ ub.toInt) (p1 : ub.toInt < lc.toInt) (o2 : lc.toInt ≤ uc.toInt) (p2 : uc.toInt < ld.toInt) (o3 : ld.toInt ≤ ud.toInt) (r1 : ua.toInt ≤ 2147483647) :
    Ends p e below s (QL n0) room_1.cells room_1.slots (T.setTop (mkF m 214 #[.val (.int x0), .val (.long x1), .second, .val (.int x2), .val (.int x3), .val (.int (1 : Int32)), .val (.long la), .second, .val (.long ua), .second, .val (.long lb), .second, .val (.long ub), .second, .val (.long lc), .second, .val (.long uc), .second, .val (.long ld), .second, .val (.long ud), .second, .val (.long ua), .second, .val (.long ((la - (256 : Int64)) + ((x3 &&& (4095 : Int32)).toInt64))), .second, .val (.int cp), .unset, .unset, .unset, .unset, .unset] [])) := by
  show Ends p e below s _ _ _ (T.setTop (mkF m 214 #[.val (.int x0), .val (.long x1), .second, .val (.int x2), .val (.int x3), .val (.int (1 : Int32)), .val (.long la), .second, .val (.long ua), .second, .val (.long lb), .second, .val (.long ub), .second, .val (.long lc), .second, .val (.long uc), .second, .val (.long ld), .second, .val (.long ud), .second, .val (.long ua), .second, .val (.long ((la - (256 : Int64)) + ((x3 &&& (4095 : Int32)).toInt64))), .second, .val (.int cp), .unset, .unset, .unset, .unset, .unset] []))
  refine Es.iload (q := 216) ?_ X hx (hb hby at_214) rfl rfl
  refine Es.ifYes (q := 227) ?_ X hx (hb hby at_216) (XT.i0_ne_t (by decide)) (by decide) (by decide)
  refine Es.iload (q := 229) ?_ X hx (hb hby at_227) rfl rfl
  refine Es.iconst (q := 230) (z := (1 : Int32)) ?_ X hx (hb hby at_229) rfl rfl
  refine Es.icmpNo (q := 233) ?_ X hx (hb hby at_230) rfl (XT.ii_ne_f (by decide))
  refine Es.iconst (q := 234) (z := (2 : Int32)) ?_ X hx (hb hby at_233) rfl rfl
  obtain ⟨T19, h19, X19, e19, E19, V19, Ax19, st19⟩ := newArE X hx hZ (C := "[I") rfl (hw _ (List.mem_of_getElem? (i := 3) rfl)) rfl eT (n := 2) (z := (2 : Int32)) (cap := 2) (by decide) (by decide) (by decide) (by decide) (by decide) (Ls := #[.val (.int x0), .val (.long x1), .second, .val (.int x2), .val (.int x3), .val (.int (1 : Int32)), .val (.long la), .second, .val (.long ua), .second, .val (.long lb), .second, .val (.long ub), .second, .val (.long lc), .second, .val (.long uc), .second, .val (.long ld), .second, .val (.long ud), .second, .val (.long ua), .second, .val (.long ((la - (256 : Int64)) + ((x3 &&& (4095 : Int32)).toInt64))), .second, .val (.int cp), .unset, .unset, .unset, .unset, .unset]) (S := []) (hb hby at_234)
  obtain ⟨b19, g19⟩ : ∃ z, z = h.size := ⟨_, rfl⟩
  rw [← g19] at V19 Ax19 st19
  have gn19 : n0 ≤ b19 := Nat.le_trans Zs (Nat.le_of_eq g19.symm)
  have Zs20 : n0 ≤ h19.size := Nat.le_trans Zs E19.1
  refine Ends.by ?_ st19
  show Ends p e below s _ _ _ (T19.setTop (mkF m 236 #[.val (.int x0), .val (.long x1), .second, .val (.int x2), .val (.int x3), .val (.int (1 : Int32)), .val (.long la), .second, .val (.long ua), .second, .val (.long lb), .second, .val (.long ub), .second, .val (.long lc), .second, .val (.long uc), .second, .val (.long ld), .second, .val (.long ud), .second, .val (.long ua), .second, .val (.long ((la - (256 : Int64)) + ((x3 &&& (4095 : Int32)).toInt64))), .second, .val (.int cp), .unset, .unset, .unset, .unset, .unset] [(.ref b19)]))
  refine Es.dup (q := 237) ?_ X19 hx (hb hby at_236) rfl rfl
  refine Es.iconst (q := 238) (z := (0 : Int32)) ?_ X19 hx (hb hby at_237) rfl rfl
  refine Es.lload (q := 240) ?_ X19 hx (hb hby at_238) rfl rfl
  refine Es.l2i (q := 241) ?_ X19 hx (hb hby at_240) rfl
  obtain ⟨T21, h21, X21, e21, W21, V21, st21⟩ := stIA X19 hx hZ e19 V19 (j := (0 : Int32)) (x := (la.toInt32)) (by decide) (Ls := #[.val (.int x0), .val (.long x1), .second, .val (.int x2), .val (.int x3), .val (.int (1 : Int32)), .val (.long la), .second, .val (.long ua), .second, .val (.long lb), .second, .val (.long ub), .second, .val (.long lc), .second, .val (.long uc), .second, .val (.long ld), .second, .val (.long ud), .second, .val (.long ua), .second, .val (.long ((la - (256 : Int64)) + ((x3 &&& (4095 : Int32)).toInt64))), .second, .val (.int cp), .unset, .unset, .unset, .unset, .unset]) (S := [(.ref b19)]) (hb hby at_241)
  have f23 := Exa.wr W21 Ax19
  have N21 := Fr.snoc X21 N gn19
  have Zs24 : n0 ≤ h21.size := Nat.le_trans Zs20 (Keep.of_wr W21).1
  refine Ends.by ?_ st21
  show Ends p e below s _ _ _ (T21.setTop (mkF m 242 #[.val (.int x0), .val (.long x1), .second, .val (.int x2), .val (.int x3), .val (.int (1 : Int32)), .val (.long la), .second, .val (.long ua), .second, .val (.long lb), .second, .val (.long ub), .second, .val (.long lc), .second, .val (.long uc), .second, .val (.long ld), .second, .val (.long ud), .second, .val (.long ua), .second, .val (.long ((la - (256 : Int64)) + ((x3 &&& (4095 : Int32)).toInt64))), .second, .val (.int cp), .unset, .unset, .unset, .unset, .unset] [(.ref b19)]))
  refine Es.dup (q := 243) ?_ X21 hx (hb hby at_242) rfl rfl
  refine Es.iconst (q := 244) (z := (1 : Int32)) ?_ X21 hx (hb hby at_243) rfl rfl
  refine Es.lload (q := 246) ?_ X21 hx (hb hby at_244) rfl rfl
  refine Es.l2i (q := 247) ?_ X21 hx (hb hby at_246) rfl
  obtain ⟨T25, h25, X25, e25, W25, V25, st25⟩ := stIA X21 hx hZ e21 V21 (j := (1 : Int32)) (x := (ua.toInt32)) (by decide) (Ls := #[.val (.int x0), .val (.long x1), .second, .val (.int x2), .val (.int x3), .val (.int (1 : Int32)), .val (.long la), .second, .val (.long ua), .second, .val (.long lb), .second, .val (.long ub), .second, .val (.long lc), .second, .val (.long uc), .second, .val (.long ld), .second, .val (.long ud), .second, .val (.long ua), .second, .val (.long ((la - (256 : Int64)) + ((x3 &&& (4095 : Int32)).toInt64))), .second, .val (.int cp), .unset, .unset, .unset, .unset, .unset]) (S := [(.ref b19)]) (hb hby at_247)
  have f27 := Exa.wr W25 f23
  have N25 := Fr.snoc X25 N21 gn19
  have Zs28 : n0 ≤ h25.size := Nat.le_trans Zs24 (Keep.of_wr W25).1
  refine Ends.by ?_ st25
  show Ends p e below s _ _ _ (T25.setTop (mkF m 248 #[.val (.int x0), .val (.long x1), .second, .val (.int x2), .val (.int x3), .val (.int (1 : Int32)), .val (.long la), .second, .val (.long ua), .second, .val (.long lb), .second, .val (.long ub), .second, .val (.long lc), .second, .val (.long uc), .second, .val (.long ld), .second, .val (.long ud), .second, .val (.long ua), .second, .val (.long ((la - (256 : Int64)) + ((x3 &&& (4095 : Int32)).toInt64))), .second, .val (.int cp), .unset, .unset, .unset, .unset, .unset] [(.ref b19)]))
  refine Es.astore (q := 250) (l' := #[.val (.int x0), .val (.long x1), .second, .val (.int x2), .val (.int x3), .val (.int (1 : Int32)), .val (.long la), .second, .val (.long ua), .second, .val (.long lb), .second, .val (.long ub), .second, .val (.long lc), .second, .val (.long uc), .second, .val (.long ld), .second, .val (.long ud), .second, .val (.long ua), .second, .val (.long ((la - (256 : Int64)) + ((x3 &&& (4095 : Int32)).toInt64))), .second, .val (.int cp), .val (.ref b19), .unset, .unset, .unset, .unset]) ?_ X25 hx (hb hby at_248) rfl rfl rfl
  refine Es.goto (q := 398) ?_ X25 hx (hb hby at_250) (by decide) (by decide)
  obtain ⟨T29, h29, X29, e29, E29, A29, D29, -, st29⟩ := newO X25 hx hZ hown (hw _ (List.mem_of_getElem? (i := 4) rfl)) (hw _ (List.mem_of_getElem? (i := 5) rfl)) (hw _ (List.mem_of_getElem? (i := 6) rfl)) e25 (g := (mkF m 398 #[.val (.int x0), .val (.long x1), .second, .val (.int x2), .val (.int x3), .val (.int (1 : Int32)), .val (.long la), .second, .val (.long ua), .second, .val (.long lb), .second, .val (.long ub), .second, .val (.long lc), .second, .val (.long uc), .second, .val (.long ld), .second, .val (.long ud), .second, .val (.long ua), .second, .val (.long ((la - (256 : Int64)) + ((x3 &&& (4095 : Int32)).toInt64))), .second, .val (.int cp), .val (.ref b19), .unset, .unset, .unset, .unset] [])) rfl (hb hby at_398) (by decide) (by decide)
  obtain ⟨b29, g29⟩ : ∃ z, z = h25.size := ⟨_, rfl⟩
  rw [← g29] at A29 D29 st29
  have ne30 : b19 ≠ b29 := Nat.ne_of_lt (Nat.lt_of_lt_of_le V25.lt (Nat.le_of_eq g29.symm))
  have gn29 : n0 ≤ b29 := Nat.le_trans Zs28 (Nat.le_of_eq g29.symm)
  have f31 := V25.ext E29
  have f32 := Exa.ext E29 f27
  have F29_bounds : Fld Z h29 b29 "com/example/tagwright/tagwright/model/CodePointSet" "bounds" "[I" .null := D29 (Or.inr (hw _ (List.mem_of_getElem? (i := 23) rfl))) (ty := (.array .int)) (by decide)
  have Zs33 : n0 ≤ h29.size := Nat.le_trans Zs28 E29.1
  refine Ends.by ?_ st29
  show Ends p e below s _ _ _ (T29.setTop (mkF m 401 #[.val (.int x0), .val (.long x1), .second, .val (.int x2), .val (.int x3), .val (.int (1 : Int32)), .val (.long la), .second, .val (.long ua), .second, .val (.long lb), .second, .val (.long ub), .second, .val (.long lc), .second, .val (.long uc), .second, .val (.long ld), .second, .val (.long ud), .second, .val (.long ua), .second, .val (.long ((la - (256 : Int64)) + ((x3 &&& (4095 : Int32)).toInt64))), .second, .val (.int cp), .val (.ref b19), .unset, .unset, .unset, .unset] [(.ref b29)]))
  refine Es.dup (q := 402) ?_ X29 hx (hb hby at_401) rfl rfl
  refine Es.aload (q := 404) ?_ X29 hx (hb hby at_402) rfl rfl rfl
  obtain ⟨v34, _, ⟨T34, L34, k34, n34⟩, -, X34, ⟨Lc34, hQ34, l34, y34, z34⟩, st34⟩ := X29.specialBack hx (y := (⟨"com/example/tagwright/tagwright/model/CodePointSet", "<init>", "([I)V"⟩ : MethodName)) rfl hown (mvT hZ (hw _ (List.mem_of_getElem? (i := 7) rfl))) (mvT hZ (hw _ (List.mem_of_getElem? (i := 8) rfl))) (mvT hZ (hw _ (List.mem_of_getElem? (i := 9) rfl))) (by decide) (backOf (W := 1) (rm1 l Z a0 hw [] b29 b19 2 (upd (upd (fun _ => (0 : Int32)) 0 (la.toInt32)) 1 (ua.toInt32)) h29 n0 Zs33 A29 F29_bounds f31 f32 ne30 gn29 (by decide)) hZ (hw _ (List.mem_of_getElem? (i := 9) rfl)) (hw _ (List.mem_of_getElem? (i := 6) rfl)) (by decide) (by decide)) (g := (mkF m 404 #[.val (.int x0), .val (.long x1), .second, .val (.int x2), .val (.int x3), .val (.int (1 : Int32)), .val (.long la), .second, .val (.long ua), .second, .val (.long lb), .second, .val (.long ub), .second, .val (.long lc), .second, .val (.long uc), .second, .val (.long ld), .second, .val (.long ud), .second, .val (.long ua), .second, .val (.long ((la - (256 : Int64)) + ((x3 &&& (4095 : Int32)).toInt64))), .second, .val (.int cp), .val (.ref b19), .unset, .unset, .unset, .unset] [(.ref b19), (.ref b29), (.ref b29)])) rfl (by rw [hml]; rfl) (Steps.refl _) (a := b29) (argsL := [(.ref b19)]) (rest := [(.ref b29)]) (lenOf pd_0 rfl) rfl (by show 2 * 0 + _ ≤ _; exact Nat.le_of_eq rfl) (hb hby at_404) (fun _ _ => ⟨rfl, e29, (by decide : 2 + 1 ≤ _), (by decide : 3 + 8 ≤ _)⟩)
  dsimp only [Pt.U, Pt.locs, Pt.cells, Pt.slots] at X34 l34 y34 z34 st34 hQ34
  subst l34 y34 z34
  obtain ⟨rfl, N34q, K34, Ex34, bb, Fa34, Va34⟩ := hQ34
  have N34 := Fr.app N25 N34q
  have f35 := A29.keep K34
  have Zs37 : n0 ≤ T34.heap.size := Nat.le_trans Zs33 K34.1
  refine Ends.go st34 ?_
  show Ends p e below s _ _ _ (T34.setTop (mkF m 407 #[.val (.int x0), .val (.long x1), .second, .val (.int x2), .val (.int x3), .val (.int (1 : Int32)), .val (.long la), .second, .val (.long ua), .second, .val (.long lb), .second, .val (.long ub), .second, .val (.long lc), .second, .val (.long uc), .second, .val (.long ld), .second, .val (.long ud), .second, .val (.long ua), .second, .val (.long ((la - (256 : Int64)) + ((x3 &&& (4095 : Int32)).toInt64))), .second, .val (.int cp), .val (.ref b19), .unset, .unset, .unset, .unset] [(.ref b29)]))
  refine Es.astore (q := 409) (l' := #[.val (.int x0), .val (.long x1), .second, .val (.int x2), .val (.int x3), .val (.int (1 : Int32)), .val (.long la), .second, .val (.long ua), .second, .val (.long lb), .second, .val (.long ub), .second, .val (.long lc), .second, .val (.long uc), .second, .val (.long ld), .second, .val (.long ud), .second, .val (.long ua), .second, .val (.long ((la - (256 : Int64)) + ((x3 &&& (4095 : Int32)).toInt64))), .second, .val (.int cp), .val (.ref b19), .val (.ref b29), .unset, .unset, .unset]) ?_ X34 hx (hb hby at_407) rfl rfl rfl
  refine Es.iload (q := 411) ?_ X34 hx (hb hby at_409) rfl rfl
  refine Es.i2l (q := 412) ?_ X34 hx (hb hby at_411) rfl
  refine Es.lstore (q := 414) (l' := #[.val (.int x0), .val (.long x1), .second, .val (.int x2), .val (.int x3), .val (.int (1 : Int32)), .val (.long la), .second, .val (.long ua), .second, .val (.long lb), .second, .val (.long ub), .second, .val (.long lc), .second, .val (.long uc), .second, .val (.long ld), .second, .val (.long ud), .second, .val (.long ua), .second, .val (.long ((la - (256 : Int64)) + ((x3 &&& (4095 : Int32)).toInt64))), .second, .val (.int cp), .val (.ref b19), .val (.ref b29), .val (.long (cp.toInt64)), .second, .unset]) ?_ X34 hx (hb hby at_412) rfl rfl
  refine Es.iload (q := 416) ?_ X34 hx (hb hby at_414) rfl rfl
  refine Es.iconst (q := 417) (z := (1 : Int32)) ?_ X34 hx (hb hby at_416) rfl rfl
  refine Es.icmpNo (q := 420) ?_ X34 hx (hb hby at_417) rfl (XT.ii_lt_f (by decide))
  refine Es.lload (q := 422) ?_ X34 hx (hb hby at_420) rfl rfl
  refine Es.lload (q := 424) ?_ X34 hx (hb hby at_422) rfl rfl
  refine Es.lcmp (q := 425) ?_ X34 hx (hb hby at_424) rfl
  by_cases hc38 : (cp.toInt64) < la
  · refine Es.ifYes (q := 436) ?_ X34 hx (hb hby at_425) (XT.ll_gt_t hc38) (by decide) (by decide)
    refine Es.iload (q := 438) ?_ X34 hx (hb hby at_436) rfl rfl
    refine Es.iconst (q := 439) (z := (2 : Int32)) ?_ X34 hx (hb hby at_438) rfl rfl
    refine Es.icmpYes (q := 458) ?_ X34 hx (hb hby at_439) (XT.ii_lt_t (by decide)) (by decide) (by decide)
    refine Es.iload (q := 460) ?_ X34 hx (hb hby at_458) rfl rfl
    refine Es.iconst (q := 461) (z := (3 : Int32)) ?_ X34 hx (hb hby at_460) rfl rfl
    refine Es.icmpYes (q := 480) ?_ X34 hx (hb hby at_461) (XT.ii_lt_t (by decide)) (by decide) (by decide)
    refine Es.iload (q := 482) ?_ X34 hx (hb hby at_480) rfl rfl
    refine Es.iconst (q := 483) (z := (4 : Int32)) ?_ X34 hx (hb hby at_482) rfl rfl
    refine Es.icmpYes (q := 506) ?_ X34 hx (hb hby at_483) (XT.ii_lt_t (by decide)) (by decide) (by decide)
    refine Es.iconst (q := 507) (z := (0 : Int32)) ?_ X34 hx (hb hby at_506) rfl rfl
    refine Es.istore (q := 509) (l' := #[.val (.int x0), .val (.long x1), .second, .val (.int x2), .val (.int x3), .val (.int (1 : Int32)), .val (.long la), .second, .val (.long ua), .second, .val (.long lb), .second, .val (.long ub), .second, .val (.long lc), .second, .val (.long uc), .second, .val (.long ld), .second, .val (.long ud), .second, .val (.long ua), .second, .val (.long ((la - (256 : Int64)) + ((x3 &&& (4095 : Int32)).toInt64))), .second, .val (.int cp), .val (.ref b19), .val (.ref b29), .val (.long (cp.toInt64)), .second, .val (.int (0 : Int32))]) ?_ X34 hx (hb hby at_507) rfl rfl
    refine Es.aload (q := 511) ?_ X34 hx (hb hby at_509) rfl rfl rfl
    refine Es.iload (q := 513) ?_ X34 hx (hb hby at_511) rfl rfl
    obtain ⟨cq39, kq39, q39a, q39b, q39c⟩ := isOf hZ rfl Ex34
    obtain ⟨v39, _, ⟨T39, L39, k39, n39⟩, -, X39, ⟨Lc39, hQ39, l39, y39, z39⟩, st39⟩ := X34.virtualBack hx (y := (⟨"com/example/tagwright/tagwright/model/CodePointSet", "contains", "(I)Z"⟩ : MethodName)) (z := (⟨"com/example/tagwright/tagwright/model/CodePointSet", "contains", "(I)Z"⟩ : MethodName)) hown (mvT hZ (hw _ (List.mem_of_getElem? (i := 24) rfl))) (mvT hZ (hw _ (List.mem_of_getElem? (i := 25) rfl))) (notFace_of_selects (args := #[]) (mvT hZ (hw _ (List.mem_of_getElem? (i := 27) rfl)))) (mvT hZ (hw _ (List.mem_of_getElem? (i := 27) rfl))) (mvT hZ (hw _ (List.mem_of_getElem? (i := 26) rfl))) (by decide) (backOf (W := 0) (rmC1 l Z a0 hw [] b29 cp bb (upd (upd (fun _ => (0 : Int32)) 0 (la.toInt32)) 1 (ua.toInt32)) T34.heap n0 Zs37 Fa34 Va34) hZ (hw _ (List.mem_of_getElem? (i := 28) rfl)) (hw _ (List.mem_of_getElem? (i := 6) rfl)) (by decide) (by decide)) q39a q39c (g := (mkF m 513 #[.val (.int x0), .val (.long x1), .second, .val (.int x2), .val (.int x3), .val (.int (1 : Int32)), .val (.long la), .second, .val (.long ua), .second, .val (.long lb), .second, .val (.long ub), .second, .val (.long lc), .second, .val (.long uc), .second, .val (.long ld), .second, .val (.long ud), .second, .val (.long ua), .second, .val (.long ((la - (256 : Int64)) + ((x3 &&& (4095 : Int32)).toInt64))), .second, .val (.int cp), .val (.ref b19), .val (.ref b29), .val (.long (cp.toInt64)), .second, .val (.int (0 : Int32))] [(.int cp), (.ref b29)])) rfl (by rw [hml]; rfl) (Steps.refl _) (argsL := [(.int cp)]) (rest := []) (lenOf pd_1 rfl) rfl (by show 2 * 0 + _ ≤ _; exact Nat.le_of_eq rfl) (hb hby at_513) (fun _ _ => ⟨rfl, rfl, (by decide : 3 + 0 ≤ _), (by decide : 11 + 0 ≤ _)⟩)
    dsimp only [Pt.U, Pt.locs, Pt.cells, Pt.slots] at X39 l39 y39 z39 st39 hQ39
    subst l39 y39 z39
    obtain ⟨rfl, N39q, e39⟩ := hQ39
    have N39 := Fr.app N34 N39q
    refine Ends.go st39 ?_
    show Ends p e below s _ _ _ (T39.setTop (mkF m 516 #[.val (.int x0), .val (.long x1), .second, .val (.int x2), .val (.int x3), .val (.int (1 : Int32)), .val (.long la), .second, .val (.long ua), .second, .val (.long lb), .second, .val (.long ub), .second, .val (.long lc), .second, .val (.long uc), .second, .val (.long ld), .second, .val (.long ud), .second, .val (.long ua), .second, .val (.long ((la - (256 : Int64)) + ((x3 &&& (4095 : Int32)).toInt64))), .second, .val (.int cp), .val (.ref b19), .val (.ref b29), .val (.long (cp.toInt64)), .second, .val (.int (0 : Int32))] [(.int (fC1 b29 cp bb (upd (upd (fun _ => (0 : Int32)) 0 (la.toInt32)) 1 (ua.toInt32))))]))
    refine Es.iload (q := 518) ?_ X39 hx (hb hby at_516) rfl rfl
    refine Es.icmpNo (q := 521) ?_ X39 hx (hb hby at_518) rfl (XT.ii_ne_f ((own_c1 (la := la) (ua := ua) rfl rfl o0 r0 r1).trans (if_neg (by have t0 := hc38; rw [Int64.lt_iff_toInt_lt, c_i2l] at t0; omega)) : (fC1 b29 cp bb (upd (upd (fun _ => (0 : Int32)) 0 (la.toInt32)) 1 (ua.toInt32))) = (0 : Int32)))
    refine Es.iconst (q := 522) (z := (1 : Int32)) ?_ X39 hx (hb hby at_521) rfl rfl
    refine Es.goto (q := 526) ?_ X39 hx (hb hby at_522) (by decide) (by decide)
    exact Ends.retN X39 hx hlk hret (t := .boolean) (by simp) (hb hby at_526) (w := 1) rfl ⟨rfl, N39⟩ (by decide) (by decide)
  · refine Es.ifNo (q := 428) ?_ X34 hx (hb hby at_425) rfl (XT.ll_gt_f hc38)
    refine Es.lload (q := 430) ?_ X34 hx (hb hby at_428) rfl rfl
    refine Es.lload (q := 432) ?_ X34 hx (hb hby at_430) rfl rfl
    refine Es.lcmp (q := 433) ?_ X34 hx (hb hby at_432) rfl
    by_cases hc40 : ua < (cp.toInt64)
    · refine Es.ifNo (q := 436) ?_ X34 hx (hb hby at_433) rfl (XT.ll_le_f hc40)
      refine Es.iload (q := 438) ?_ X34 hx (hb hby at_436) rfl rfl
      refine Es.iconst (q := 439) (z := (2 : Int32)) ?_ X34 hx (hb hby at_438) rfl rfl
      refine Es.icmpYes (q := 458) ?_ X34 hx (hb hby at_439) (XT.ii_lt_t (by decide)) (by decide) (by decide)
      refine Es.iload (q := 460) ?_ X34 hx (hb hby at_458) rfl rfl
      refine Es.iconst (q := 461) (z := (3 : Int32)) ?_ X34 hx (hb hby at_460) rfl rfl
      refine Es.icmpYes (q := 480) ?_ X34 hx (hb hby at_461) (XT.ii_lt_t (by decide)) (by decide) (by decide)
      refine Es.iload (q := 482) ?_ X34 hx (hb hby at_480) rfl rfl
      refine Es.iconst (q := 483) (z := (4 : Int32)) ?_ X34 hx (hb hby at_482) rfl rfl
      refine Es.icmpYes (q := 506) ?_ X34 hx (hb hby at_483) (XT.ii_lt_t (by decide)) (by decide) (by decide)
      refine Es.iconst (q := 507) (z := (0 : Int32)) ?_ X34 hx (hb hby at_506) rfl rfl
      refine Es.istore (q := 509) (l' := #[.val (.int x0), .val (.long x1), .second, .val (.int x2), .val (.int x3), .val (.int (1 : Int32)), .val (.long la), .second, .val (.long ua), .second, .val (.long lb), .second, .val (.long ub), .second, .val (.long lc), .second, .val (.long uc), .second, .val (.long ld), .second, .val (.long ud), .second, .val (.long ua), .second, .val (.long ((la - (256 : Int64)) + ((x3 &&& (4095 : Int32)).toInt64))), .second, .val (.int cp), .val (.ref b19), .val (.ref b29), .val (.long (cp.toInt64)), .second, .val (.int (0 : Int32))]) ?_ X34 hx (hb hby at_507) rfl rfl
      refine Es.aload (q := 511) ?_ X34 hx (hb hby at_509) rfl rfl rfl
      refine Es.iload (q := 513) ?_ X34 hx (hb hby at_511) rfl rfl
      obtain ⟨cq41, kq41, q41a, q41b, q41c⟩ := isOf hZ rfl Ex34
      obtain ⟨v41, _, ⟨T41, L41, k41, n41⟩, -, X41, ⟨Lc41, hQ41, l41, y41, z41⟩, st41⟩ := X34.virtualBack hx (y := (⟨"com/example/tagwright/tagwright/model/CodePointSet", "contains", "(I)Z"⟩ : MethodName)) (z := (⟨"com/example/tagwright/tagwright/model/CodePointSet", "contains", "(I)Z"⟩ : MethodName)) hown (mvT hZ (hw _ (List.mem_of_getElem? (i := 24) rfl))) (mvT hZ (hw _ (List.mem_of_getElem? (i := 25) rfl))) (notFace_of_selects (args := #[]) (mvT hZ (hw _ (List.mem_of_getElem? (i := 27) rfl)))) (mvT hZ (hw _ (List.mem_of_getElem? (i := 27) rfl))) (mvT hZ (hw _ (List.mem_of_getElem? (i := 26) rfl))) (by decide) (backOf (W := 0) (rmC1 l Z a0 hw [] b29 cp bb (upd (upd (fun _ => (0 : Int32)) 0 (la.toInt32)) 1 (ua.toInt32)) T34.heap n0 Zs37 Fa34 Va34) hZ (hw _ (List.mem_of_getElem? (i := 28) rfl)) (hw _ (List.mem_of_getElem? (i := 6) rfl)) (by decide) (by decide)) q41a q41c (g := (mkF m 513 #[.val (.int x0), .val (.long x1), .second, .val (.int x2), .val (.int x3), .val (.int (1 : Int32)), .val (.long la), .second, .val (.long ua), .second, .val (.long lb), .second, .val (.long ub), .second, .val (.long lc), .second, .val (.long uc), .second, .val (.long ld), .second, .val (.long ud), .second, .val (.long ua), .second, .val (.long ((la - (256 : Int64)) + ((x3 &&& (4095 : Int32)).toInt64))), .second, .val (.int cp), .val (.ref b19), .val (.ref b29), .val (.long (cp.toInt64)), .second, .val (.int (0 : Int32))] [(.int cp), (.ref b29)])) rfl (by rw [hml]; rfl) (Steps.refl _) (argsL := [(.int cp)]) (rest := []) (lenOf pd_1 rfl) rfl (by show 2 * 0 + _ ≤ _; exact Nat.le_of_eq rfl) (hb hby at_513) (fun _ _ => ⟨rfl, rfl, (by decide : 3 + 0 ≤ _), (by decide : 11 + 0 ≤ _)⟩)
      dsimp only [Pt.U, Pt.locs, Pt.cells, Pt.slots] at X41 l41 y41 z41 st41 hQ41
      subst l41 y41 z41
      obtain ⟨rfl, N41q, e41⟩ := hQ41
      have N41 := Fr.app N34 N41q
      refine Ends.go st41 ?_
      show Ends p e below s _ _ _ (T41.setTop (mkF m 516 #[.val (.int x0), .val (.long x1), .second, .val (.int x2), .val (.int x3), .val (.int (1 : Int32)), .val (.long la), .second, .val (.long ua), .second, .val (.long lb), .second, .val (.long ub), .second, .val (.long lc), .second, .val (.long uc), .second, .val (.long ld), .second, .val (.long ud), .second, .val (.long ua), .second, .val (.long ((la - (256 : Int64)) + ((x3 &&& (4095 : Int32)).toInt64))), .second, .val (.int cp), .val (.ref b19), .val (.ref b29), .val (.long (cp.toInt64)), .second, .val (.int (0 : Int32))] [(.int (fC1 b29 cp bb (upd (upd (fun _ => (0 : Int32)) 0 (la.toInt32)) 1 (ua.toInt32))))]))
      refine Es.iload (q := 518) ?_ X41 hx (hb hby at_516) rfl rfl
      refine Es.icmpNo (q := 521) ?_ X41 hx (hb hby at_518) rfl (XT.ii_ne_f ((own_c1 (la := la) (ua := ua) rfl rfl o0 r0 r1).trans (if_neg (by have t0 := hc38; rw [Int64.lt_iff_toInt_lt, c_i2l] at t0; have t1 := hc40; rw [Int64.lt_iff_toInt_lt, c_i2l] at t1; omega)) : (fC1 b29 cp bb (upd (upd (fun _ => (0 : Int32)) 0 (la.toInt32)) 1 (ua.toInt32))) = (0 : Int32)))
      refine Es.iconst (q := 522) (z := (1 : Int32)) ?_ X41 hx (hb hby at_521) rfl rfl
      refine Es.goto (q := 526) ?_ X41 hx (hb hby at_522) (by decide) (by decide)
      exact Ends.retN X41 hx hlk hret (t := .boolean) (by simp) (hb hby at_526) (w := 1) rfl ⟨rfl, N41⟩ (by decide) (by decide)
    · refine Es.ifYes (q := 502) ?_ X34 hx (hb hby at_433) (XT.ll_le_t hc40) (by decide) (by decide)
      refine Es.iconst (q := 503) (z := (1 : Int32)) ?_ X34 hx (hb hby at_502) rfl rfl
      refine Es.goto (q := 507) ?_ X34 hx (hb hby at_503) (by decide) (by decide)
      refine Es.istore (q := 509) (l' := #[.val (.int x0), .val (.long x1), .second, .val (.int x2), .val (.int x3), .val (.int (1 : Int32)), .val (.long la), .second, .val (.long ua), .second, .val (.long lb), .second, .val (.long ub), .second, .val (.long lc), .second, .val (.long uc), .second, .val (.long ld), .second, .val (.long ud), .second, .val (.long ua), .second, .val (.long ((la - (256 : Int64)) + ((x3 &&& (4095 : Int32)).toInt64))), .second, .val (.int cp), .val (.ref b19), .val (.ref b29), .val (.long (cp.toInt64)), .second, .val (.int (1 : Int32))]) ?_ X34 hx (hb hby at_507) rfl rfl
      refine Es.aload (q := 511) ?_ X34 hx (hb hby at_509) rfl rfl rfl
      refine Es.iload (q := 513) ?_ X34 hx (hb hby at_511) rfl rfl
      obtain ⟨cq42, kq42, q42a, q42b, q42c⟩ := isOf hZ rfl Ex34
      obtain ⟨v42, _, ⟨T42, L42, k42, n42⟩, -, X42, ⟨Lc42, hQ42, l42, y42, z42⟩, st42⟩ := X34.virtualBack hx (y := (⟨"com/example/tagwright/tagwright/model/CodePointSet", "contains", "(I)Z"⟩ : MethodName)) (z := (⟨"com/example/tagwright/tagwright/model/CodePointSet", "contains", "(I)Z"⟩ : MethodName)) hown (mvT hZ (hw _ (List.mem_of_getElem? (i := 24) rfl))) (mvT hZ (hw _ (List.mem_of_getElem? (i := 25) rfl))) (notFace_of_selects (args := #[]) (mvT hZ (hw _ (List.mem_of_getElem? (i := 27) rfl)))) (mvT hZ (hw _ (List.mem_of_getElem? (i := 27) rfl))) (mvT hZ (hw _ (List.mem_of_getElem? (i := 26) rfl))) (by decide) (backOf (W := 0) (rmC1 l Z a0 hw [] b29 cp bb (upd (upd (fun _ => (0 : Int32)) 0 (la.toInt32)) 1 (ua.toInt32)) T34.heap n0 Zs37 Fa34 Va34) hZ (hw _ (List.mem_of_getElem? (i := 28) rfl)) (hw _ (List.mem_of_getElem? (i := 6) rfl)) (by decide) (by decide)) q42a q42c (g := (mkF m 513 #[.val (.int x0), .val (.long x1), .second, .val (.int x2), .val (.int x3), .val (.int (1 : Int32)), .val (.long la), .second, .val (.long ua), .second, .val (.long lb), .second, .val (.long ub), .second, .val (.long lc), .second, .val (.long uc), .second, .val (.long ld), .second, .val (.long ud), .second, .val (.long ua), .second, .val (.long ((la - (256 : Int64)) + ((x3 &&& (4095 : Int32)).toInt64))), .second, .val (.int cp), .val (.ref b19), .val (.ref b29), .val (.long (cp.toInt64)), .second, .val (.int (1 : Int32))] [(.int cp), (.ref b29)])) rfl (by rw [hml]; rfl) (Steps.refl _) (argsL := [(.int cp)]) (rest := []) (lenOf pd_1 rfl) rfl (by show 2 * 0 + _ ≤ _; exact Nat.le_of_eq rfl) (hb hby at_513) (fun _ _ => ⟨rfl, rfl, (by decide : 3 + 0 ≤ _), (by decide : 11 + 0 ≤ _)⟩)
      dsimp only [Pt.U, Pt.locs, Pt.cells, Pt.slots] at X42 l42 y42 z42 st42 hQ42
      subst l42 y42 z42
      obtain ⟨rfl, N42q, e42⟩ := hQ42
      have N42 := Fr.app N34 N42q
      refine Ends.go st42 ?_
      show Ends p e below s _ _ _ (T42.setTop (mkF m 516 #[.val (.int x0), .val (.long x1), .second, .val (.int x2), .val (.int x3), .val (.int (1 : Int32)), .val (.long la), .second, .val (.long ua), .second, .val (.long lb), .second, .val (.long ub), .second, .val (.long lc), .second, .val (.long uc), .second, .val (.long ld), .second, .val (.long ud), .second, .val (.long ua), .second, .val (.long ((la - (256 : Int64)) + ((x3 &&& (4095 : Int32)).toInt64))), .second, .val (.int cp), .val (.ref b19), .val (.ref b29), .val (.long (cp.toInt64)), .second, .val (.int (1 : Int32))] [(.int (fC1 b29 cp bb (upd (upd (fun _ => (0 : Int32)) 0 (la.toInt32)) 1 (ua.toInt32))))]))
      refine Es.iload (q := 518) ?_ X42 hx (hb hby at_516) rfl rfl
      refine Es.icmpNo (q := 521) ?_ X42 hx (hb hby at_518) rfl (XT.ii_ne_f ((own_c1 (la := la) (ua := ua) rfl rfl o0 r0 r1).trans (if_pos (by have t0 := hc38; rw [Int64.lt_iff_toInt_lt, c_i2l] at t0; have t1 := hc40; rw [Int64.lt_iff_toInt_lt, c_i2l] at t1; omega)) : (fC1 b29 cp bb (upd (upd (fun _ => (0 : Int32)) 0 (la.toInt32)) 1 (ua.toInt32))) = (1 : Int32)))
      refine Es.iconst (q := 522) (z := (1 : Int32)) ?_ X42 hx (hb hby at_521) rfl rfl
      refine Es.goto (q := 526) ?_ X42 hx (hb hby at_522) (by decide) (by decide)
      exact Ends.retN X42 hx hlk hret (t := .boolean) (by simp) (hb hby at_526) (w := 1) rfl ⟨rfl, N42⟩ (by decide) (by decide)

set_option maxRecDepth 65536 in
set_option maxHeartbeats 40000000 in
theorem sgN1 {p : Program} {l : Launch} {e : Env} {s : State} {m : MethodId} {args : Array Value} {below : List Frame} {meth : Method} {c : Code} {Z : State} {a0 : Array Value} (hx : p.tables.exec = Jvm.exec) (hZ : Z.Warmed39 s.vm) (hw : ∀ d ∈ tables_1, d.before a0 Z = true) (hby : c.code = code) (hml : c.maxLocals = 32) (hown : s.vm.findClass "com/example/tagwright/tagwright/model/CodePointSetContainsPinLaw" = some m.cls) (hlk : meth.locks = false) (hret : meth.sig.returnType = some .boolean) {T : State} {locs : List Loc} {h : Heap} {n0 : Nat} (x0 : Int32) (x1 : Int64) (x2 : Int32) (x3 : Int32) (la : Int64) (ua : Int64) (lb : Int64) (ub : Int64) (lc : Int64) (uc : Int64) (ld : Int64) (ud : Int64) (X : Stand p l e room_1 s m args below meth c T locs 0 0) (eT : T.heap = h) (N : Fr n0 locs) (Zs : n0 ≤ h.size) (r0 : -2147483648 ≤ la.toInt) (o0 : la.toInt ≤ ua.toInt) (p0 : ua.toInt < lb.toInt) (o1 : lb.toInt ≤ ub.toInt) (p1 : ub.toInt < lc.toInt) (o2 : lc.toInt ≤ uc.toInt) (p2 : uc.toInt < ld.toInt) (o3 : ld.toInt ≤ ud.toInt) :
    Ends p e below s (QL n0) room_1.cells room_1.slots (T.setTop (mkF m 106 #[.val (.int x0), .val (.long x1), .second, .val (.int x2), .val (.int x3), .val (.int (1 : Int32)), .val (.long la), .second, .val (.long ua), .second, .val (.long lb), .second, .val (.long ub), .second, .val (.long lc), .second, .val (.long uc), .second, .val (.long ld), .second, .val (.long ud), .second, .unset, .unset, .unset, .unset, .unset, .unset, .unset, .unset, .unset, .unset] [])) := by
  show Ends p e below s _ _ _ (T.setTop (mkF m 106 #[.val (.int x0), .val (.long x1), .second, .val (.int x2), .val (.int x3), .val (.int (1 : Int32)), .val (.long la), .second, .val (.long ua), .second, .val (.long lb), .second, .val (.long ub), .second, .val (.long lc), .second, .val (.long uc), .second, .val (.long ld), .second, .val (.long ud), .second, .unset, .unset, .unset, .unset, .unset, .unset, .unset, .unset, .unset, .unset] []))
  refine Es.iload (q := 108) ?_ X hx (hb hby at_106) rfl rfl
  refine Es.ifYes (q := 116) ?_ X hx (hb hby at_108) (XT.i0_ne_t (by decide)) (by decide) (by decide)
  refine Es.iload (q := 118) ?_ X hx (hb hby at_116) rfl rfl
  refine Es.iconst (q := 119) (z := (1 : Int32)) ?_ X hx (hb hby at_118) rfl rfl
  refine Es.icmpNo (q := 122) ?_ X hx (hb hby at_119) rfl (XT.ii_ne_f (by decide))
  refine Es.lload (q := 124) ?_ X hx (hb hby at_122) rfl rfl
  refine Es.goto (q := 151) ?_ X hx (hb hby at_124) (by decide) (by decide)
  refine Es.lstore (q := 153) (l' := #[.val (.int x0), .val (.long x1), .second, .val (.int x2), .val (.int x3), .val (.int (1 : Int32)), .val (.long la), .second, .val (.long ua), .second, .val (.long lb), .second, .val (.long ub), .second, .val (.long lc), .second, .val (.long uc), .second, .val (.long ld), .second, .val (.long ud), .second, .val (.long ua), .second, .unset, .unset, .unset, .unset, .unset, .unset, .unset, .unset]) ?_ X hx (hb hby at_151) rfl rfl
  refine Es.lload (q := 155) ?_ X hx (hb hby at_153) rfl rfl
  refine Es.ldc2 (q := 158) ?_ X hx hown (mvT hZ (hw _ (List.mem_of_getElem? (i := 1) rfl))) (hb hby at_155) rfl
  refine Es.lcmp (q := 159) ?_ X hx (hb hby at_158) rfl
  by_cases hc17 : (2147483647 : Int64) < ua
  · refine Es.ifNo (q := 162) ?_ X hx (hb hby at_159) rfl (XT.ll_le_f hc17)
    refine Es.iconst (q := 163) (z := (1 : Int32)) ?_ X hx (hb hby at_162) rfl rfl
    exact Ends.retN X hx hlk hret (t := .boolean) (by simp) (hb hby at_163) (w := 1) rfl ⟨rfl, N⟩ (by decide) (by decide)
  · refine Es.ifYes (q := 164) ?_ X hx (hb hby at_159) (XT.ll_le_t hc17) (by decide) (by decide)
    refine Es.lload (q := 166) ?_ X hx (hb hby at_164) rfl rfl
    refine Es.ldc2 (q := 169) ?_ X hx hown (mvT hZ (hw _ (List.mem_of_getElem? (i := 2) rfl))) (hb hby at_166) rfl
    refine Es.lsub (q := 170) ?_ X hx (hb hby at_169) rfl
    refine Es.iload (q := 172) ?_ X hx (hb hby at_170) rfl rfl
    refine Es.sipush (q := 175) (z := (4095 : Int32)) ?_ X hx (hb hby at_172) rfl rfl
    refine Es.iand (q := 176) ?_ X hx (hb hby at_175) rfl
    refine Es.i2l (q := 177) ?_ X hx (hb hby at_176) rfl
    refine Es.ladd (q := 178) ?_ X hx (hb hby at_177) rfl
    refine Es.lstore (q := 180) (l' := #[.val (.int x0), .val (.long x1), .second, .val (.int x2), .val (.int x3), .val (.int (1 : Int32)), .val (.long la), .second, .val (.long ua), .second, .val (.long lb), .second, .val (.long ub), .second, .val (.long lc), .second, .val (.long uc), .second, .val (.long ld), .second, .val (.long ud), .second, .val (.long ua), .second, .val (.long ((la - (256 : Int64)) + ((x3 &&& (4095 : Int32)).toInt64))), .second, .unset, .unset, .unset, .unset, .unset, .unset]) ?_ X hx (hb hby at_178) rfl rfl
    refine Es.iload (q := 182) ?_ X hx (hb hby at_180) rfl rfl
    refine Es.istore (q := 184) (l' := #[.val (.int x0), .val (.long x1), .second, .val (.int x2), .val (.int x3), .val (.int (1 : Int32)), .val (.long la), .second, .val (.long ua), .second, .val (.long lb), .second, .val (.long ub), .second, .val (.long lc), .second, .val (.long uc), .second, .val (.long ld), .second, .val (.long ud), .second, .val (.long ua), .second, .val (.long ((la - (256 : Int64)) + ((x3 &&& (4095 : Int32)).toInt64))), .second, .val (.int x3), .unset, .unset, .unset, .unset, .unset]) ?_ X hx (hb hby at_182) rfl rfl
    refine Es.iloadN (q := 185) ?_ X hx (hb hby at_184) rfl rfl
    refine Es.bipush (q := 187) (z := (8 : Int32)) ?_ X hx (hb hby at_185) rfl rfl
    refine Es.iand (q := 188) ?_ X hx (hb hby at_187) rfl
    by_cases hc18 : (x2 &&& (8 : Int32)) = (0 : Int32)
    · refine Es.ifYes (q := 214) ?_ X hx (hb hby at_188) (XT.i0_eq_t hc18) (by decide) (by decide)
      have r1 : ua.toInt ≤ 2147483647 := by have q := hc17; rw [Int64.lt_iff_toInt_lt] at q; have e1 : (2147483647 : Int64).toInt = 2147483647 := rfl; omega
      exact sgP1 hx hZ hw hby hml hown hlk hret (x0) (x1) (x2) (x3) (la) (ua) (lb) (ub) (lc) (uc) (ld) (ud) (x3) X eT N Zs r0 o0 p0 o1 p1 o2 p2 o3 r1
    · refine Es.ifNo (q := 191) ?_ X hx (hb hby at_188) rfl (XT.i0_eq_f hc18)
      refine Es.lload (q := 193) ?_ X hx (hb hby at_191) rfl rfl
      refine Es.ldc2 (q := 196) ?_ X hx hown (mvT hZ (hw _ (List.mem_of_getElem? (i := 29) rfl))) (hb hby at_193) rfl
      refine Es.lcmp (q := 197) ?_ X hx (hb hby at_196) rfl
      by_cases hc43 : ((la - (256 : Int64)) + ((x3 &&& (4095 : Int32)).toInt64)) < (-2147483648 : Int64)
      · refine Es.ifYes (q := 214) ?_ X hx (hb hby at_197) (XT.ll_lt_t hc43) (by decide) (by decide)
        have r1 : ua.toInt ≤ 2147483647 := by have q := hc17; rw [Int64.lt_iff_toInt_lt] at q; have e1 : (2147483647 : Int64).toInt = 2147483647 := rfl; omega
        exact sgP1 hx hZ hw hby hml hown hlk hret (x0) (x1) (x2) (x3) (la) (ua) (lb) (ub) (lc) (uc) (ld) (ud) (x3) X eT N Zs r0 o0 p0 o1 p1 o2 p2 o3 r1
      · refine Es.ifNo (q := 200) ?_ X hx (hb hby at_197) rfl (XT.ll_lt_f hc43)
        refine Es.lload (q := 202) ?_ X hx (hb hby at_200) rfl rfl
        refine Es.ldc2 (q := 205) ?_ X hx hown (mvT hZ (hw _ (List.mem_of_getElem? (i := 1) rfl))) (hb hby at_202) rfl
        refine Es.lcmp (q := 206) ?_ X hx (hb hby at_205) rfl
        by_cases hc44 : (2147483647 : Int64) < ((la - (256 : Int64)) + ((x3 &&& (4095 : Int32)).toInt64))
        · refine Es.ifYes (q := 214) ?_ X hx (hb hby at_206) (XT.ll_gt_t hc44) (by decide) (by decide)
          have r1 : ua.toInt ≤ 2147483647 := by have q := hc17; rw [Int64.lt_iff_toInt_lt] at q; have e1 : (2147483647 : Int64).toInt = 2147483647 := rfl; omega
          exact sgP1 hx hZ hw hby hml hown hlk hret (x0) (x1) (x2) (x3) (la) (ua) (lb) (ub) (lc) (uc) (ld) (ud) (x3) X eT N Zs r0 o0 p0 o1 p1 o2 p2 o3 r1
        · refine Es.ifNo (q := 209) ?_ X hx (hb hby at_206) rfl (XT.ll_gt_f hc44)
          refine Es.lload (q := 211) ?_ X hx (hb hby at_209) rfl rfl
          refine Es.l2i (q := 212) ?_ X hx (hb hby at_211) rfl
          refine Es.istore (q := 214) (l' := #[.val (.int x0), .val (.long x1), .second, .val (.int x2), .val (.int x3), .val (.int (1 : Int32)), .val (.long la), .second, .val (.long ua), .second, .val (.long lb), .second, .val (.long ub), .second, .val (.long lc), .second, .val (.long uc), .second, .val (.long ld), .second, .val (.long ud), .second, .val (.long ua), .second, .val (.long ((la - (256 : Int64)) + ((x3 &&& (4095 : Int32)).toInt64))), .second, .val (.int (((la - (256 : Int64)) + ((x3 &&& (4095 : Int32)).toInt64)).toInt32)), .unset, .unset, .unset, .unset, .unset]) ?_ X hx (hb hby at_212) rfl rfl
          have r1 : ua.toInt ≤ 2147483647 := by have q := hc17; rw [Int64.lt_iff_toInt_lt] at q; have e1 : (2147483647 : Int64).toInt = 2147483647 := rfl; omega
          exact sgP1 hx hZ hw hby hml hown hlk hret (x0) (x1) (x2) (x3) (la) (ua) (lb) (ub) (lc) (uc) (ld) (ud) ((((la - (256 : Int64)) + ((x3 &&& (4095 : Int32)).toInt64)).toInt32)) X eT N Zs r0 o0 p0 o1 p1 o2 p2 o3 r1

set_option maxRecDepth 65536 in
set_option maxHeartbeats 40000000 in
theorem sgP2 {p : Program} {l : Launch} {e : Env} {s : State} {m : MethodId} {args : Array Value} {below : List Frame} {meth : Method} {c : Code} {Z : State} {a0 : Array Value} (hx : p.tables.exec = Jvm.exec) (hZ : Z.Warmed39 s.vm) (hw : ∀ d ∈ tables_1, d.before a0 Z = true) (hby : c.code = code) (hml : c.maxLocals = 32) (hown : s.vm.findClass "com/example/tagwright/tagwright/model/CodePointSetContainsPinLaw" = some m.cls) (hlk : meth.locks = false) (hret : meth.sig.returnType = some .boolean) {T : State} {locs : List Loc} {h : Heap} {n0 : Nat} (x0 : Int32) (x1 : Int64) (x2 : Int32) (x3 : Int32) (la : Int64) (ua : Int64) (lb : Int64) (ub : Int64) (lc : Int64) (uc : Int64) (ld : Int64) (ud : Int64) (cp : Int32) (X : Stand p l e room_1 s m args below meth c T locs 0 0) (eT : T.heap = h) (N : Fr n0 locs) (Zs : n0 ≤ h.size) (r0 : -2147483648 ≤ la.toInt) (o0 : la.toInt ≤ ua.toInt) (p0 : ua.toInt < lb.toInt) (o1 : lb.toInt ≤ ub.toInt) (p1 : ub.toInt < lc.toInt) (o2 : lc.toInt ≤ uc.toInt) (p2 : uc.toInt < ld.toInt) (o3 : ld.toInt ≤ ud.toInt) (r1 : ub.toInt ≤ 2147483647) :
    Ends p e below s (QL n0) room_1.cells room_1.slots (T.setTop (mkF m 214 #[.val (.int x0), .val (.long x1), .second, .val (.int x2), .val (.int x3), .val (.int (2 : Int32)), .val (.long la), .second, .val (.long ua), .second, .val (.long lb), .second, .val (.long ub), .second, .val (.long lc), .second, .val (.long uc), .second, .val (.long ld), .second, .val (.long ud), .second, .val (.long ub), .second, .val (.long ((la - (256 : Int64)) + ((x3 &&& (4095 : Int32)).toInt64))), .second, .val (.int cp), .unset, .unset, .unset, .unset, .unset] [])) := by
  show Ends p e below s _ _ _ (T.setTop (mkF m 214 #[.val (.int x0), .val (.long x1), .second, .val (.int x2), .val (.int x3), .val (.int (2 : Int32)), .val (.long la), .second, .val (.long ua), .second, .val (.long lb), .second, .val (.long ub), .second, .val (.long lc), .second, .val (.long uc), .second, .val (.long ld), .second, .val (.long ud), .second, .val (.long ub), .second, .val (.long ((la - (256 : Int64)) + ((x3 &&& (4095 : Int32)).toInt64))), .second, .val (.int cp), .unset, .unset, .unset, .unset, .unset] []))
  refine Es.iload (q := 216) ?_ X hx (hb hby at_214) rfl rfl
  refine Es.ifYes (q := 227) ?_ X hx (hb hby at_216) (XT.i0_ne_t (by decide)) (by decide) (by decide)
  refine Es.iload (q := 229) ?_ X hx (hb hby at_227) rfl rfl
  refine Es.iconst (q := 230) (z := (1 : Int32)) ?_ X hx (hb hby at_229) rfl rfl
  refine Es.icmpYes (q := 253) ?_ X hx (hb hby at_230) (XT.ii_ne_t (by decide)) (by decide) (by decide)
  refine Es.iload (q := 255) ?_ X hx (hb hby at_253) rfl rfl
  refine Es.iconst (q := 256) (z := (2 : Int32)) ?_ X hx (hb hby at_255) rfl rfl
  refine Es.icmpNo (q := 259) ?_ X hx (hb hby at_256) rfl (XT.ii_ne_f (by decide))
  refine Es.iconst (q := 260) (z := (4 : Int32)) ?_ X hx (hb hby at_259) rfl rfl
  obtain ⟨T47, h47, X47, e47, E47, V47, Ax47, st47⟩ := newArE X hx hZ (C := "[I") rfl (hw _ (List.mem_of_getElem? (i := 3) rfl)) rfl eT (n := 4) (z := (4 : Int32)) (cap := 4) (by decide) (by decide) (by decide) (by decide) (by decide) (Ls := #[.val (.int x0), .val (.long x1), .second, .val (.int x2), .val (.int x3), .val (.int (2 : Int32)), .val (.long la), .second, .val (.long ua), .second, .val (.long lb), .second, .val (.long ub), .second, .val (.long lc), .second, .val (.long uc), .second, .val (.long ld), .second, .val (.long ud), .second, .val (.long ub), .second, .val (.long ((la - (256 : Int64)) + ((x3 &&& (4095 : Int32)).toInt64))), .second, .val (.int cp), .unset, .unset, .unset, .unset, .unset]) (S := []) (hb hby at_260)
  obtain ⟨b47, g47⟩ : ∃ z, z = h.size := ⟨_, rfl⟩
  rw [← g47] at V47 Ax47 st47
  have gn47 : n0 ≤ b47 := Nat.le_trans Zs (Nat.le_of_eq g47.symm)
  have Zs48 : n0 ≤ h47.size := Nat.le_trans Zs E47.1
  refine Ends.by ?_ st47
  show Ends p e below s _ _ _ (T47.setTop (mkF m 262 #[.val (.int x0), .val (.long x1), .second, .val (.int x2), .val (.int x3), .val (.int (2 : Int32)), .val (.long la), .second, .val (.long ua), .second, .val (.long lb), .second, .val (.long ub), .second, .val (.long lc), .second, .val (.long uc), .second, .val (.long ld), .second, .val (.long ud), .second, .val (.long ub), .second, .val (.long ((la - (256 : Int64)) + ((x3 &&& (4095 : Int32)).toInt64))), .second, .val (.int cp), .unset, .unset, .unset, .unset, .unset] [(.ref b47)]))
  refine Es.dup (q := 263) ?_ X47 hx (hb hby at_262) rfl rfl
  refine Es.iconst (q := 264) (z := (0 : Int32)) ?_ X47 hx (hb hby at_263) rfl rfl
  refine Es.lload (q := 266) ?_ X47 hx (hb hby at_264) rfl rfl
  refine Es.l2i (q := 267) ?_ X47 hx (hb hby at_266) rfl
  obtain ⟨T49, h49, X49, e49, W49, V49, st49⟩ := stIA X47 hx hZ e47 V47 (j := (0 : Int32)) (x := (la.toInt32)) (by decide) (Ls := #[.val (.int x0), .val (.long x1), .second, .val (.int x2), .val (.int x3), .val (.int (2 : Int32)), .val (.long la), .second, .val (.long ua), .second, .val (.long lb), .second, .val (.long ub), .second, .val (.long lc), .second, .val (.long uc), .second, .val (.long ld), .second, .val (.long ud), .second, .val (.long ub), .second, .val (.long ((la - (256 : Int64)) + ((x3 &&& (4095 : Int32)).toInt64))), .second, .val (.int cp), .unset, .unset, .unset, .unset, .unset]) (S := [(.ref b47)]) (hb hby at_267)
  have f51 := Exa.wr W49 Ax47
  have N49 := Fr.snoc X49 N gn47
  have Zs52 : n0 ≤ h49.size := Nat.le_trans Zs48 (Keep.of_wr W49).1
  refine Ends.by ?_ st49
  show Ends p e below s _ _ _ (T49.setTop (mkF m 268 #[.val (.int x0), .val (.long x1), .second, .val (.int x2), .val (.int x3), .val (.int (2 : Int32)), .val (.long la), .second, .val (.long ua), .second, .val (.long lb), .second, .val (.long ub), .second, .val (.long lc), .second, .val (.long uc), .second, .val (.long ld), .second, .val (.long ud), .second, .val (.long ub), .second, .val (.long ((la - (256 : Int64)) + ((x3 &&& (4095 : Int32)).toInt64))), .second, .val (.int cp), .unset, .unset, .unset, .unset, .unset] [(.ref b47)]))
  refine Es.dup (q := 269) ?_ X49 hx (hb hby at_268) rfl rfl
  refine Es.iconst (q := 270) (z := (1 : Int32)) ?_ X49 hx (hb hby at_269) rfl rfl
  refine Es.lload (q := 272) ?_ X49 hx (hb hby at_270) rfl rfl
  refine Es.l2i (q := 273) ?_ X49 hx (hb hby at_272) rfl
  obtain ⟨T53, h53, X53, e53, W53, V53, st53⟩ := stIA X49 hx hZ e49 V49 (j := (1 : Int32)) (x := (ua.toInt32)) (by decide) (Ls := #[.val (.int x0), .val (.long x1), .second, .val (.int x2), .val (.int x3), .val (.int (2 : Int32)), .val (.long la), .second, .val (.long ua), .second, .val (.long lb), .second, .val (.long ub), .second, .val (.long lc), .second, .val (.long uc), .second, .val (.long ld), .second, .val (.long ud), .second, .val (.long ub), .second, .val (.long ((la - (256 : Int64)) + ((x3 &&& (4095 : Int32)).toInt64))), .second, .val (.int cp), .unset, .unset, .unset, .unset, .unset]) (S := [(.ref b47)]) (hb hby at_273)
  have f55 := Exa.wr W53 f51
  have N53 := Fr.snoc X53 N49 gn47
  have Zs56 : n0 ≤ h53.size := Nat.le_trans Zs52 (Keep.of_wr W53).1
  refine Ends.by ?_ st53
  show Ends p e below s _ _ _ (T53.setTop (mkF m 274 #[.val (.int x0), .val (.long x1), .second, .val (.int x2), .val (.int x3), .val (.int (2 : Int32)), .val (.long la), .second, .val (.long ua), .second, .val (.long lb), .second, .val (.long ub), .second, .val (.long lc), .second, .val (.long uc), .second, .val (.long ld), .second, .val (.long ud), .second, .val (.long ub), .second, .val (.long ((la - (256 : Int64)) + ((x3 &&& (4095 : Int32)).toInt64))), .second, .val (.int cp), .unset, .unset, .unset, .unset, .unset] [(.ref b47)]))
  refine Es.dup (q := 275) ?_ X53 hx (hb hby at_274) rfl rfl
  refine Es.iconst (q := 276) (z := (2 : Int32)) ?_ X53 hx (hb hby at_275) rfl rfl
  refine Es.lload (q := 278) ?_ X53 hx (hb hby at_276) rfl rfl
  refine Es.l2i (q := 279) ?_ X53 hx (hb hby at_278) rfl
  obtain ⟨T57, h57, X57, e57, W57, V57, st57⟩ := stIA X53 hx hZ e53 V53 (j := (2 : Int32)) (x := (lb.toInt32)) (by decide) (Ls := #[.val (.int x0), .val (.long x1), .second, .val (.int x2), .val (.int x3), .val (.int (2 : Int32)), .val (.long la), .second, .val (.long ua), .second, .val (.long lb), .second, .val (.long ub), .second, .val (.long lc), .second, .val (.long uc), .second, .val (.long ld), .second, .val (.long ud), .second, .val (.long ub), .second, .val (.long ((la - (256 : Int64)) + ((x3 &&& (4095 : Int32)).toInt64))), .second, .val (.int cp), .unset, .unset, .unset, .unset, .unset]) (S := [(.ref b47)]) (hb hby at_279)
  have f59 := Exa.wr W57 f55
  have N57 := Fr.snoc X57 N53 gn47
  have Zs60 : n0 ≤ h57.size := Nat.le_trans Zs56 (Keep.of_wr W57).1
  refine Ends.by ?_ st57
  show Ends p e below s _ _ _ (T57.setTop (mkF m 280 #[.val (.int x0), .val (.long x1), .second, .val (.int x2), .val (.int x3), .val (.int (2 : Int32)), .val (.long la), .second, .val (.long ua), .second, .val (.long lb), .second, .val (.long ub), .second, .val (.long lc), .second, .val (.long uc), .second, .val (.long ld), .second, .val (.long ud), .second, .val (.long ub), .second, .val (.long ((la - (256 : Int64)) + ((x3 &&& (4095 : Int32)).toInt64))), .second, .val (.int cp), .unset, .unset, .unset, .unset, .unset] [(.ref b47)]))
  refine Es.dup (q := 281) ?_ X57 hx (hb hby at_280) rfl rfl
  refine Es.iconst (q := 282) (z := (3 : Int32)) ?_ X57 hx (hb hby at_281) rfl rfl
  refine Es.lload (q := 284) ?_ X57 hx (hb hby at_282) rfl rfl
  refine Es.l2i (q := 285) ?_ X57 hx (hb hby at_284) rfl
  obtain ⟨T61, h61, X61, e61, W61, V61, st61⟩ := stIA X57 hx hZ e57 V57 (j := (3 : Int32)) (x := (ub.toInt32)) (by decide) (Ls := #[.val (.int x0), .val (.long x1), .second, .val (.int x2), .val (.int x3), .val (.int (2 : Int32)), .val (.long la), .second, .val (.long ua), .second, .val (.long lb), .second, .val (.long ub), .second, .val (.long lc), .second, .val (.long uc), .second, .val (.long ld), .second, .val (.long ud), .second, .val (.long ub), .second, .val (.long ((la - (256 : Int64)) + ((x3 &&& (4095 : Int32)).toInt64))), .second, .val (.int cp), .unset, .unset, .unset, .unset, .unset]) (S := [(.ref b47)]) (hb hby at_285)
  have f63 := Exa.wr W61 f59
  have N61 := Fr.snoc X61 N57 gn47
  have Zs64 : n0 ≤ h61.size := Nat.le_trans Zs60 (Keep.of_wr W61).1
  refine Ends.by ?_ st61
  show Ends p e below s _ _ _ (T61.setTop (mkF m 286 #[.val (.int x0), .val (.long x1), .second, .val (.int x2), .val (.int x3), .val (.int (2 : Int32)), .val (.long la), .second, .val (.long ua), .second, .val (.long lb), .second, .val (.long ub), .second, .val (.long lc), .second, .val (.long uc), .second, .val (.long ld), .second, .val (.long ud), .second, .val (.long ub), .second, .val (.long ((la - (256 : Int64)) + ((x3 &&& (4095 : Int32)).toInt64))), .second, .val (.int cp), .unset, .unset, .unset, .unset, .unset] [(.ref b47)]))
  refine Es.astore (q := 288) (l' := #[.val (.int x0), .val (.long x1), .second, .val (.int x2), .val (.int x3), .val (.int (2 : Int32)), .val (.long la), .second, .val (.long ua), .second, .val (.long lb), .second, .val (.long ub), .second, .val (.long lc), .second, .val (.long uc), .second, .val (.long ld), .second, .val (.long ud), .second, .val (.long ub), .second, .val (.long ((la - (256 : Int64)) + ((x3 &&& (4095 : Int32)).toInt64))), .second, .val (.int cp), .val (.ref b47), .unset, .unset, .unset, .unset]) ?_ X61 hx (hb hby at_286) rfl rfl rfl
  refine Es.goto (q := 398) ?_ X61 hx (hb hby at_288) (by decide) (by decide)
  obtain ⟨T65, h65, X65, e65, E65, A65, D65, -, st65⟩ := newO X61 hx hZ hown (hw _ (List.mem_of_getElem? (i := 4) rfl)) (hw _ (List.mem_of_getElem? (i := 5) rfl)) (hw _ (List.mem_of_getElem? (i := 6) rfl)) e61 (g := (mkF m 398 #[.val (.int x0), .val (.long x1), .second, .val (.int x2), .val (.int x3), .val (.int (2 : Int32)), .val (.long la), .second, .val (.long ua), .second, .val (.long lb), .second, .val (.long ub), .second, .val (.long lc), .second, .val (.long uc), .second, .val (.long ld), .second, .val (.long ud), .second, .val (.long ub), .second, .val (.long ((la - (256 : Int64)) + ((x3 &&& (4095 : Int32)).toInt64))), .second, .val (.int cp), .val (.ref b47), .unset, .unset, .unset, .unset] [])) rfl (hb hby at_398) (by decide) (by decide)
  obtain ⟨b65, g65⟩ : ∃ z, z = h61.size := ⟨_, rfl⟩
  rw [← g65] at A65 D65 st65
  have ne66 : b47 ≠ b65 := Nat.ne_of_lt (Nat.lt_of_lt_of_le V61.lt (Nat.le_of_eq g65.symm))
  have gn65 : n0 ≤ b65 := Nat.le_trans Zs64 (Nat.le_of_eq g65.symm)
  have f67 := V61.ext E65
  have f68 := Exa.ext E65 f63
  have F65_bounds : Fld Z h65 b65 "com/example/tagwright/tagwright/model/CodePointSet" "bounds" "[I" .null := D65 (Or.inr (hw _ (List.mem_of_getElem? (i := 23) rfl))) (ty := (.array .int)) (by decide)
  have Zs69 : n0 ≤ h65.size := Nat.le_trans Zs64 E65.1
  refine Ends.by ?_ st65
  show Ends p e below s _ _ _ (T65.setTop (mkF m 401 #[.val (.int x0), .val (.long x1), .second, .val (.int x2), .val (.int x3), .val (.int (2 : Int32)), .val (.long la), .second, .val (.long ua), .second, .val (.long lb), .second, .val (.long ub), .second, .val (.long lc), .second, .val (.long uc), .second, .val (.long ld), .second, .val (.long ud), .second, .val (.long ub), .second, .val (.long ((la - (256 : Int64)) + ((x3 &&& (4095 : Int32)).toInt64))), .second, .val (.int cp), .val (.ref b47), .unset, .unset, .unset, .unset] [(.ref b65)]))
  refine Es.dup (q := 402) ?_ X65 hx (hb hby at_401) rfl rfl
  refine Es.aload (q := 404) ?_ X65 hx (hb hby at_402) rfl rfl rfl
  obtain ⟨v70, _, ⟨T70, L70, k70, n70⟩, -, X70, ⟨Lc70, hQ70, l70, y70, z70⟩, st70⟩ := X65.specialBack hx (y := (⟨"com/example/tagwright/tagwright/model/CodePointSet", "<init>", "([I)V"⟩ : MethodName)) rfl hown (mvT hZ (hw _ (List.mem_of_getElem? (i := 7) rfl))) (mvT hZ (hw _ (List.mem_of_getElem? (i := 8) rfl))) (mvT hZ (hw _ (List.mem_of_getElem? (i := 9) rfl))) (by decide) (backOf (W := 1) (rm1 l Z a0 hw [] b65 b47 4 (upd (upd (upd (upd (fun _ => (0 : Int32)) 0 (la.toInt32)) 1 (ua.toInt32)) 2 (lb.toInt32)) 3 (ub.toInt32)) h65 n0 Zs69 A65 F65_bounds f67 f68 ne66 gn65 (by decide)) hZ (hw _ (List.mem_of_getElem? (i := 9) rfl)) (hw _ (List.mem_of_getElem? (i := 6) rfl)) (by decide) (by decide)) (g := (mkF m 404 #[.val (.int x0), .val (.long x1), .second, .val (.int x2), .val (.int x3), .val (.int (2 : Int32)), .val (.long la), .second, .val (.long ua), .second, .val (.long lb), .second, .val (.long ub), .second, .val (.long lc), .second, .val (.long uc), .second, .val (.long ld), .second, .val (.long ud), .second, .val (.long ub), .second, .val (.long ((la - (256 : Int64)) + ((x3 &&& (4095 : Int32)).toInt64))), .second, .val (.int cp), .val (.ref b47), .unset, .unset, .unset, .unset] [(.ref b47), (.ref b65), (.ref b65)])) rfl (by rw [hml]; rfl) (Steps.refl _) (a := b65) (argsL := [(.ref b47)]) (rest := [(.ref b65)]) (lenOf pd_0 rfl) rfl (by show 2 * 0 + _ ≤ _; exact Nat.le_of_eq rfl) (hb hby at_404) (fun _ _ => ⟨rfl, e65, (by decide : 2 + 1 ≤ _), (by decide : 5 + 8 ≤ _)⟩)
  dsimp only [Pt.U, Pt.locs, Pt.cells, Pt.slots] at X70 l70 y70 z70 st70 hQ70
  subst l70 y70 z70
  obtain ⟨rfl, N70q, K70, Ex70, bb, Fa70, Va70⟩ := hQ70
  have N70 := Fr.app N61 N70q
  have f71 := A65.keep K70
  have Zs73 : n0 ≤ T70.heap.size := Nat.le_trans Zs69 K70.1
  refine Ends.go st70 ?_
  show Ends p e below s _ _ _ (T70.setTop (mkF m 407 #[.val (.int x0), .val (.long x1), .second, .val (.int x2), .val (.int x3), .val (.int (2 : Int32)), .val (.long la), .second, .val (.long ua), .second, .val (.long lb), .second, .val (.long ub), .second, .val (.long lc), .second, .val (.long uc), .second, .val (.long ld), .second, .val (.long ud), .second, .val (.long ub), .second, .val (.long ((la - (256 : Int64)) + ((x3 &&& (4095 : Int32)).toInt64))), .second, .val (.int cp), .val (.ref b47), .unset, .unset, .unset, .unset] [(.ref b65)]))
  refine Es.astore (q := 409) (l' := #[.val (.int x0), .val (.long x1), .second, .val (.int x2), .val (.int x3), .val (.int (2 : Int32)), .val (.long la), .second, .val (.long ua), .second, .val (.long lb), .second, .val (.long ub), .second, .val (.long lc), .second, .val (.long uc), .second, .val (.long ld), .second, .val (.long ud), .second, .val (.long ub), .second, .val (.long ((la - (256 : Int64)) + ((x3 &&& (4095 : Int32)).toInt64))), .second, .val (.int cp), .val (.ref b47), .val (.ref b65), .unset, .unset, .unset]) ?_ X70 hx (hb hby at_407) rfl rfl rfl
  refine Es.iload (q := 411) ?_ X70 hx (hb hby at_409) rfl rfl
  refine Es.i2l (q := 412) ?_ X70 hx (hb hby at_411) rfl
  refine Es.lstore (q := 414) (l' := #[.val (.int x0), .val (.long x1), .second, .val (.int x2), .val (.int x3), .val (.int (2 : Int32)), .val (.long la), .second, .val (.long ua), .second, .val (.long lb), .second, .val (.long ub), .second, .val (.long lc), .second, .val (.long uc), .second, .val (.long ld), .second, .val (.long ud), .second, .val (.long ub), .second, .val (.long ((la - (256 : Int64)) + ((x3 &&& (4095 : Int32)).toInt64))), .second, .val (.int cp), .val (.ref b47), .val (.ref b65), .val (.long (cp.toInt64)), .second, .unset]) ?_ X70 hx (hb hby at_412) rfl rfl
  refine Es.iload (q := 416) ?_ X70 hx (hb hby at_414) rfl rfl
  refine Es.iconst (q := 417) (z := (1 : Int32)) ?_ X70 hx (hb hby at_416) rfl rfl
  refine Es.icmpNo (q := 420) ?_ X70 hx (hb hby at_417) rfl (XT.ii_lt_f (by decide))
  refine Es.lload (q := 422) ?_ X70 hx (hb hby at_420) rfl rfl
  refine Es.lload (q := 424) ?_ X70 hx (hb hby at_422) rfl rfl
  refine Es.lcmp (q := 425) ?_ X70 hx (hb hby at_424) rfl
  by_cases hc74 : (cp.toInt64) < la
  · refine Es.ifYes (q := 436) ?_ X70 hx (hb hby at_425) (XT.ll_gt_t hc74) (by decide) (by decide)
    refine Es.iload (q := 438) ?_ X70 hx (hb hby at_436) rfl rfl
    refine Es.iconst (q := 439) (z := (2 : Int32)) ?_ X70 hx (hb hby at_438) rfl rfl
    refine Es.icmpNo (q := 442) ?_ X70 hx (hb hby at_439) rfl (XT.ii_lt_f (by decide))
    refine Es.lload (q := 444) ?_ X70 hx (hb hby at_442) rfl rfl
    refine Es.lload (q := 446) ?_ X70 hx (hb hby at_444) rfl rfl
    refine Es.lcmp (q := 447) ?_ X70 hx (hb hby at_446) rfl
    by_cases hc75 : (cp.toInt64) < lb
    · refine Es.ifYes (q := 458) ?_ X70 hx (hb hby at_447) (XT.ll_gt_t hc75) (by decide) (by decide)
      refine Es.iload (q := 460) ?_ X70 hx (hb hby at_458) rfl rfl
      refine Es.iconst (q := 461) (z := (3 : Int32)) ?_ X70 hx (hb hby at_460) rfl rfl
      refine Es.icmpYes (q := 480) ?_ X70 hx (hb hby at_461) (XT.ii_lt_t (by decide)) (by decide) (by decide)
      refine Es.iload (q := 482) ?_ X70 hx (hb hby at_480) rfl rfl
      refine Es.iconst (q := 483) (z := (4 : Int32)) ?_ X70 hx (hb hby at_482) rfl rfl
      refine Es.icmpYes (q := 506) ?_ X70 hx (hb hby at_483) (XT.ii_lt_t (by decide)) (by decide) (by decide)
      refine Es.iconst (q := 507) (z := (0 : Int32)) ?_ X70 hx (hb hby at_506) rfl rfl
      refine Es.istore (q := 509) (l' := #[.val (.int x0), .val (.long x1), .second, .val (.int x2), .val (.int x3), .val (.int (2 : Int32)), .val (.long la), .second, .val (.long ua), .second, .val (.long lb), .second, .val (.long ub), .second, .val (.long lc), .second, .val (.long uc), .second, .val (.long ld), .second, .val (.long ud), .second, .val (.long ub), .second, .val (.long ((la - (256 : Int64)) + ((x3 &&& (4095 : Int32)).toInt64))), .second, .val (.int cp), .val (.ref b47), .val (.ref b65), .val (.long (cp.toInt64)), .second, .val (.int (0 : Int32))]) ?_ X70 hx (hb hby at_507) rfl rfl
      refine Es.aload (q := 511) ?_ X70 hx (hb hby at_509) rfl rfl rfl
      refine Es.iload (q := 513) ?_ X70 hx (hb hby at_511) rfl rfl
      obtain ⟨cq76, kq76, q76a, q76b, q76c⟩ := isOf hZ rfl Ex70
      obtain ⟨v76, _, ⟨T76, L76, k76, n76⟩, -, X76, ⟨Lc76, hQ76, l76, y76, z76⟩, st76⟩ := X70.virtualBack hx (y := (⟨"com/example/tagwright/tagwright/model/CodePointSet", "contains", "(I)Z"⟩ : MethodName)) (z := (⟨"com/example/tagwright/tagwright/model/CodePointSet", "contains", "(I)Z"⟩ : MethodName)) hown (mvT hZ (hw _ (List.mem_of_getElem? (i := 24) rfl))) (mvT hZ (hw _ (List.mem_of_getElem? (i := 25) rfl))) (notFace_of_selects (args := #[]) (mvT hZ (hw _ (List.mem_of_getElem? (i := 27) rfl)))) (mvT hZ (hw _ (List.mem_of_getElem? (i := 27) rfl))) (mvT hZ (hw _ (List.mem_of_getElem? (i := 26) rfl))) (by decide) (backOf (W := 0) (rmC2 l Z a0 hw [] b65 cp bb (upd (upd (upd (upd (fun _ => (0 : Int32)) 0 (la.toInt32)) 1 (ua.toInt32)) 2 (lb.toInt32)) 3 (ub.toInt32)) T70.heap n0 Zs73 Fa70 Va70) hZ (hw _ (List.mem_of_getElem? (i := 28) rfl)) (hw _ (List.mem_of_getElem? (i := 6) rfl)) (by decide) (by decide)) q76a q76c (g := (mkF m 513 #[.val (.int x0), .val (.long x1), .second, .val (.int x2), .val (.int x3), .val (.int (2 : Int32)), .val (.long la), .second, .val (.long ua), .second, .val (.long lb), .second, .val (.long ub), .second, .val (.long lc), .second, .val (.long uc), .second, .val (.long ld), .second, .val (.long ud), .second, .val (.long ub), .second, .val (.long ((la - (256 : Int64)) + ((x3 &&& (4095 : Int32)).toInt64))), .second, .val (.int cp), .val (.ref b47), .val (.ref b65), .val (.long (cp.toInt64)), .second, .val (.int (0 : Int32))] [(.int cp), (.ref b65)])) rfl (by rw [hml]; rfl) (Steps.refl _) (argsL := [(.int cp)]) (rest := []) (lenOf pd_1 rfl) rfl (by show 2 * 0 + _ ≤ _; exact Nat.le_of_eq rfl) (hb hby at_513) (fun _ _ => ⟨rfl, rfl, (by decide : 3 + 0 ≤ _), (by decide : 13 + 0 ≤ _)⟩)
      dsimp only [Pt.U, Pt.locs, Pt.cells, Pt.slots] at X76 l76 y76 z76 st76 hQ76
      subst l76 y76 z76
      obtain ⟨rfl, N76q, e76⟩ := hQ76
      have N76 := Fr.app N70 N76q
      refine Ends.go st76 ?_
      show Ends p e below s _ _ _ (T76.setTop (mkF m 516 #[.val (.int x0), .val (.long x1), .second, .val (.int x2), .val (.int x3), .val (.int (2 : Int32)), .val (.long la), .second, .val (.long ua), .second, .val (.long lb), .second, .val (.long ub), .second, .val (.long lc), .second, .val (.long uc), .second, .val (.long ld), .second, .val (.long ud), .second, .val (.long ub), .second, .val (.long ((la - (256 : Int64)) + ((x3 &&& (4095 : Int32)).toInt64))), .second, .val (.int cp), .val (.ref b47), .val (.ref b65), .val (.long (cp.toInt64)), .second, .val (.int (0 : Int32))] [(.int (fC2 b65 cp bb (upd (upd (upd (upd (fun _ => (0 : Int32)) 0 (la.toInt32)) 1 (ua.toInt32)) 2 (lb.toInt32)) 3 (ub.toInt32))))]))
      refine Es.iload (q := 518) ?_ X76 hx (hb hby at_516) rfl rfl
      refine Es.icmpNo (q := 521) ?_ X76 hx (hb hby at_518) rfl (XT.ii_ne_f ((own_c2 (la := la) (ua := ua) (lb := lb) (ub := ub) rfl rfl rfl rfl o0 o1 p0 r0 r1).trans (if_neg (by have t0 := hc74; rw [Int64.lt_iff_toInt_lt, c_i2l] at t0; have t1 := hc75; rw [Int64.lt_iff_toInt_lt, c_i2l] at t1; omega)) : (fC2 b65 cp bb (upd (upd (upd (upd (fun _ => (0 : Int32)) 0 (la.toInt32)) 1 (ua.toInt32)) 2 (lb.toInt32)) 3 (ub.toInt32))) = (0 : Int32)))
      refine Es.iconst (q := 522) (z := (1 : Int32)) ?_ X76 hx (hb hby at_521) rfl rfl
      refine Es.goto (q := 526) ?_ X76 hx (hb hby at_522) (by decide) (by decide)
      exact Ends.retN X76 hx hlk hret (t := .boolean) (by simp) (hb hby at_526) (w := 1) rfl ⟨rfl, N76⟩ (by decide) (by decide)
    · refine Es.ifNo (q := 450) ?_ X70 hx (hb hby at_447) rfl (XT.ll_gt_f hc75)
      refine Es.lload (q := 452) ?_ X70 hx (hb hby at_450) rfl rfl
      refine Es.lload (q := 454) ?_ X70 hx (hb hby at_452) rfl rfl
      refine Es.lcmp (q := 455) ?_ X70 hx (hb hby at_454) rfl
      by_cases hc77 : ub < (cp.toInt64)
      · refine Es.ifNo (q := 458) ?_ X70 hx (hb hby at_455) rfl (XT.ll_le_f hc77)
        refine Es.iload (q := 460) ?_ X70 hx (hb hby at_458) rfl rfl
        refine Es.iconst (q := 461) (z := (3 : Int32)) ?_ X70 hx (hb hby at_460) rfl rfl
        refine Es.icmpYes (q := 480) ?_ X70 hx (hb hby at_461) (XT.ii_lt_t (by decide)) (by decide) (by decide)
        refine Es.iload (q := 482) ?_ X70 hx (hb hby at_480) rfl rfl
        refine Es.iconst (q := 483) (z := (4 : Int32)) ?_ X70 hx (hb hby at_482) rfl rfl
        refine Es.icmpYes (q := 506) ?_ X70 hx (hb hby at_483) (XT.ii_lt_t (by decide)) (by decide) (by decide)
        refine Es.iconst (q := 507) (z := (0 : Int32)) ?_ X70 hx (hb hby at_506) rfl rfl
        refine Es.istore (q := 509) (l' := #[.val (.int x0), .val (.long x1), .second, .val (.int x2), .val (.int x3), .val (.int (2 : Int32)), .val (.long la), .second, .val (.long ua), .second, .val (.long lb), .second, .val (.long ub), .second, .val (.long lc), .second, .val (.long uc), .second, .val (.long ld), .second, .val (.long ud), .second, .val (.long ub), .second, .val (.long ((la - (256 : Int64)) + ((x3 &&& (4095 : Int32)).toInt64))), .second, .val (.int cp), .val (.ref b47), .val (.ref b65), .val (.long (cp.toInt64)), .second, .val (.int (0 : Int32))]) ?_ X70 hx (hb hby at_507) rfl rfl
        refine Es.aload (q := 511) ?_ X70 hx (hb hby at_509) rfl rfl rfl
        refine Es.iload (q := 513) ?_ X70 hx (hb hby at_511) rfl rfl
        obtain ⟨cq78, kq78, q78a, q78b, q78c⟩ := isOf hZ rfl Ex70
        obtain ⟨v78, _, ⟨T78, L78, k78, n78⟩, -, X78, ⟨Lc78, hQ78, l78, y78, z78⟩, st78⟩ := X70.virtualBack hx (y := (⟨"com/example/tagwright/tagwright/model/CodePointSet", "contains", "(I)Z"⟩ : MethodName)) (z := (⟨"com/example/tagwright/tagwright/model/CodePointSet", "contains", "(I)Z"⟩ : MethodName)) hown (mvT hZ (hw _ (List.mem_of_getElem? (i := 24) rfl))) (mvT hZ (hw _ (List.mem_of_getElem? (i := 25) rfl))) (notFace_of_selects (args := #[]) (mvT hZ (hw _ (List.mem_of_getElem? (i := 27) rfl)))) (mvT hZ (hw _ (List.mem_of_getElem? (i := 27) rfl))) (mvT hZ (hw _ (List.mem_of_getElem? (i := 26) rfl))) (by decide) (backOf (W := 0) (rmC2 l Z a0 hw [] b65 cp bb (upd (upd (upd (upd (fun _ => (0 : Int32)) 0 (la.toInt32)) 1 (ua.toInt32)) 2 (lb.toInt32)) 3 (ub.toInt32)) T70.heap n0 Zs73 Fa70 Va70) hZ (hw _ (List.mem_of_getElem? (i := 28) rfl)) (hw _ (List.mem_of_getElem? (i := 6) rfl)) (by decide) (by decide)) q78a q78c (g := (mkF m 513 #[.val (.int x0), .val (.long x1), .second, .val (.int x2), .val (.int x3), .val (.int (2 : Int32)), .val (.long la), .second, .val (.long ua), .second, .val (.long lb), .second, .val (.long ub), .second, .val (.long lc), .second, .val (.long uc), .second, .val (.long ld), .second, .val (.long ud), .second, .val (.long ub), .second, .val (.long ((la - (256 : Int64)) + ((x3 &&& (4095 : Int32)).toInt64))), .second, .val (.int cp), .val (.ref b47), .val (.ref b65), .val (.long (cp.toInt64)), .second, .val (.int (0 : Int32))] [(.int cp), (.ref b65)])) rfl (by rw [hml]; rfl) (Steps.refl _) (argsL := [(.int cp)]) (rest := []) (lenOf pd_1 rfl) rfl (by show 2 * 0 + _ ≤ _; exact Nat.le_of_eq rfl) (hb hby at_513) (fun _ _ => ⟨rfl, rfl, (by decide : 3 + 0 ≤ _), (by decide : 13 + 0 ≤ _)⟩)
        dsimp only [Pt.U, Pt.locs, Pt.cells, Pt.slots] at X78 l78 y78 z78 st78 hQ78
        subst l78 y78 z78
        obtain ⟨rfl, N78q, e78⟩ := hQ78
        have N78 := Fr.app N70 N78q
        refine Ends.go st78 ?_
        show Ends p e below s _ _ _ (T78.setTop (mkF m 516 #[.val (.int x0), .val (.long x1), .second, .val (.int x2), .val (.int x3), .val (.int (2 : Int32)), .val (.long la), .second, .val (.long ua), .second, .val (.long lb), .second, .val (.long ub), .second, .val (.long lc), .second, .val (.long uc), .second, .val (.long ld), .second, .val (.long ud), .second, .val (.long ub), .second, .val (.long ((la - (256 : Int64)) + ((x3 &&& (4095 : Int32)).toInt64))), .second, .val (.int cp), .val (.ref b47), .val (.ref b65), .val (.long (cp.toInt64)), .second, .val (.int (0 : Int32))] [(.int (fC2 b65 cp bb (upd (upd (upd (upd (fun _ => (0 : Int32)) 0 (la.toInt32)) 1 (ua.toInt32)) 2 (lb.toInt32)) 3 (ub.toInt32))))]))
        refine Es.iload (q := 518) ?_ X78 hx (hb hby at_516) rfl rfl
        refine Es.icmpNo (q := 521) ?_ X78 hx (hb hby at_518) rfl (XT.ii_ne_f ((own_c2 (la := la) (ua := ua) (lb := lb) (ub := ub) rfl rfl rfl rfl o0 o1 p0 r0 r1).trans (if_neg (by have t0 := hc74; rw [Int64.lt_iff_toInt_lt, c_i2l] at t0; have t1 := hc75; rw [Int64.lt_iff_toInt_lt, c_i2l] at t1; have t2 := hc77; rw [Int64.lt_iff_toInt_lt, c_i2l] at t2; omega)) : (fC2 b65 cp bb (upd (upd (upd (upd (fun _ => (0 : Int32)) 0 (la.toInt32)) 1 (ua.toInt32)) 2 (lb.toInt32)) 3 (ub.toInt32))) = (0 : Int32)))
        refine Es.iconst (q := 522) (z := (1 : Int32)) ?_ X78 hx (hb hby at_521) rfl rfl
        refine Es.goto (q := 526) ?_ X78 hx (hb hby at_522) (by decide) (by decide)
        exact Ends.retN X78 hx hlk hret (t := .boolean) (by simp) (hb hby at_526) (w := 1) rfl ⟨rfl, N78⟩ (by decide) (by decide)
      · refine Es.ifYes (q := 502) ?_ X70 hx (hb hby at_455) (XT.ll_le_t hc77) (by decide) (by decide)
        refine Es.iconst (q := 503) (z := (1 : Int32)) ?_ X70 hx (hb hby at_502) rfl rfl
        refine Es.goto (q := 507) ?_ X70 hx (hb hby at_503) (by decide) (by decide)
        refine Es.istore (q := 509) (l' := #[.val (.int x0), .val (.long x1), .second, .val (.int x2), .val (.int x3), .val (.int (2 : Int32)), .val (.long la), .second, .val (.long ua), .second, .val (.long lb), .second, .val (.long ub), .second, .val (.long lc), .second, .val (.long uc), .second, .val (.long ld), .second, .val (.long ud), .second, .val (.long ub), .second, .val (.long ((la - (256 : Int64)) + ((x3 &&& (4095 : Int32)).toInt64))), .second, .val (.int cp), .val (.ref b47), .val (.ref b65), .val (.long (cp.toInt64)), .second, .val (.int (1 : Int32))]) ?_ X70 hx (hb hby at_507) rfl rfl
        refine Es.aload (q := 511) ?_ X70 hx (hb hby at_509) rfl rfl rfl
        refine Es.iload (q := 513) ?_ X70 hx (hb hby at_511) rfl rfl
        obtain ⟨cq79, kq79, q79a, q79b, q79c⟩ := isOf hZ rfl Ex70
        obtain ⟨v79, _, ⟨T79, L79, k79, n79⟩, -, X79, ⟨Lc79, hQ79, l79, y79, z79⟩, st79⟩ := X70.virtualBack hx (y := (⟨"com/example/tagwright/tagwright/model/CodePointSet", "contains", "(I)Z"⟩ : MethodName)) (z := (⟨"com/example/tagwright/tagwright/model/CodePointSet", "contains", "(I)Z"⟩ : MethodName)) hown (mvT hZ (hw _ (List.mem_of_getElem? (i := 24) rfl))) (mvT hZ (hw _ (List.mem_of_getElem? (i := 25) rfl))) (notFace_of_selects (args := #[]) (mvT hZ (hw _ (List.mem_of_getElem? (i := 27) rfl)))) (mvT hZ (hw _ (List.mem_of_getElem? (i := 27) rfl))) (mvT hZ (hw _ (List.mem_of_getElem? (i := 26) rfl))) (by decide) (backOf (W := 0) (rmC2 l Z a0 hw [] b65 cp bb (upd (upd (upd (upd (fun _ => (0 : Int32)) 0 (la.toInt32)) 1 (ua.toInt32)) 2 (lb.toInt32)) 3 (ub.toInt32)) T70.heap n0 Zs73 Fa70 Va70) hZ (hw _ (List.mem_of_getElem? (i := 28) rfl)) (hw _ (List.mem_of_getElem? (i := 6) rfl)) (by decide) (by decide)) q79a q79c (g := (mkF m 513 #[.val (.int x0), .val (.long x1), .second, .val (.int x2), .val (.int x3), .val (.int (2 : Int32)), .val (.long la), .second, .val (.long ua), .second, .val (.long lb), .second, .val (.long ub), .second, .val (.long lc), .second, .val (.long uc), .second, .val (.long ld), .second, .val (.long ud), .second, .val (.long ub), .second, .val (.long ((la - (256 : Int64)) + ((x3 &&& (4095 : Int32)).toInt64))), .second, .val (.int cp), .val (.ref b47), .val (.ref b65), .val (.long (cp.toInt64)), .second, .val (.int (1 : Int32))] [(.int cp), (.ref b65)])) rfl (by rw [hml]; rfl) (Steps.refl _) (argsL := [(.int cp)]) (rest := []) (lenOf pd_1 rfl) rfl (by show 2 * 0 + _ ≤ _; exact Nat.le_of_eq rfl) (hb hby at_513) (fun _ _ => ⟨rfl, rfl, (by decide : 3 + 0 ≤ _), (by decide : 13 + 0 ≤ _)⟩)
        dsimp only [Pt.U, Pt.locs, Pt.cells, Pt.slots] at X79 l79 y79 z79 st79 hQ79
        subst l79 y79 z79
        obtain ⟨rfl, N79q, e79⟩ := hQ79
        have N79 := Fr.app N70 N79q
        refine Ends.go st79 ?_
        show Ends p e below s _ _ _ (T79.setTop (mkF m 516 #[.val (.int x0), .val (.long x1), .second, .val (.int x2), .val (.int x3), .val (.int (2 : Int32)), .val (.long la), .second, .val (.long ua), .second, .val (.long lb), .second, .val (.long ub), .second, .val (.long lc), .second, .val (.long uc), .second, .val (.long ld), .second, .val (.long ud), .second, .val (.long ub), .second, .val (.long ((la - (256 : Int64)) + ((x3 &&& (4095 : Int32)).toInt64))), .second, .val (.int cp), .val (.ref b47), .val (.ref b65), .val (.long (cp.toInt64)), .second, .val (.int (1 : Int32))] [(.int (fC2 b65 cp bb (upd (upd (upd (upd (fun _ => (0 : Int32)) 0 (la.toInt32)) 1 (ua.toInt32)) 2 (lb.toInt32)) 3 (ub.toInt32))))]))
        refine Es.iload (q := 518) ?_ X79 hx (hb hby at_516) rfl rfl
        refine Es.icmpNo (q := 521) ?_ X79 hx (hb hby at_518) rfl (XT.ii_ne_f ((own_c2 (la := la) (ua := ua) (lb := lb) (ub := ub) rfl rfl rfl rfl o0 o1 p0 r0 r1).trans (if_pos (by have t0 := hc74; rw [Int64.lt_iff_toInt_lt, c_i2l] at t0; have t1 := hc75; rw [Int64.lt_iff_toInt_lt, c_i2l] at t1; have t2 := hc77; rw [Int64.lt_iff_toInt_lt, c_i2l] at t2; omega)) : (fC2 b65 cp bb (upd (upd (upd (upd (fun _ => (0 : Int32)) 0 (la.toInt32)) 1 (ua.toInt32)) 2 (lb.toInt32)) 3 (ub.toInt32))) = (1 : Int32)))
        refine Es.iconst (q := 522) (z := (1 : Int32)) ?_ X79 hx (hb hby at_521) rfl rfl
        refine Es.goto (q := 526) ?_ X79 hx (hb hby at_522) (by decide) (by decide)
        exact Ends.retN X79 hx hlk hret (t := .boolean) (by simp) (hb hby at_526) (w := 1) rfl ⟨rfl, N79⟩ (by decide) (by decide)
  · refine Es.ifNo (q := 428) ?_ X70 hx (hb hby at_425) rfl (XT.ll_gt_f hc74)
    refine Es.lload (q := 430) ?_ X70 hx (hb hby at_428) rfl rfl
    refine Es.lload (q := 432) ?_ X70 hx (hb hby at_430) rfl rfl
    refine Es.lcmp (q := 433) ?_ X70 hx (hb hby at_432) rfl
    by_cases hc80 : ua < (cp.toInt64)
    · refine Es.ifNo (q := 436) ?_ X70 hx (hb hby at_433) rfl (XT.ll_le_f hc80)
      refine Es.iload (q := 438) ?_ X70 hx (hb hby at_436) rfl rfl
      refine Es.iconst (q := 439) (z := (2 : Int32)) ?_ X70 hx (hb hby at_438) rfl rfl
      refine Es.icmpNo (q := 442) ?_ X70 hx (hb hby at_439) rfl (XT.ii_lt_f (by decide))
      refine Es.lload (q := 444) ?_ X70 hx (hb hby at_442) rfl rfl
      refine Es.lload (q := 446) ?_ X70 hx (hb hby at_444) rfl rfl
      refine Es.lcmp (q := 447) ?_ X70 hx (hb hby at_446) rfl
      by_cases hc81 : (cp.toInt64) < lb
      · refine Es.ifYes (q := 458) ?_ X70 hx (hb hby at_447) (XT.ll_gt_t hc81) (by decide) (by decide)
        refine Es.iload (q := 460) ?_ X70 hx (hb hby at_458) rfl rfl
        refine Es.iconst (q := 461) (z := (3 : Int32)) ?_ X70 hx (hb hby at_460) rfl rfl
        refine Es.icmpYes (q := 480) ?_ X70 hx (hb hby at_461) (XT.ii_lt_t (by decide)) (by decide) (by decide)
        refine Es.iload (q := 482) ?_ X70 hx (hb hby at_480) rfl rfl
        refine Es.iconst (q := 483) (z := (4 : Int32)) ?_ X70 hx (hb hby at_482) rfl rfl
        refine Es.icmpYes (q := 506) ?_ X70 hx (hb hby at_483) (XT.ii_lt_t (by decide)) (by decide) (by decide)
        refine Es.iconst (q := 507) (z := (0 : Int32)) ?_ X70 hx (hb hby at_506) rfl rfl
        refine Es.istore (q := 509) (l' := #[.val (.int x0), .val (.long x1), .second, .val (.int x2), .val (.int x3), .val (.int (2 : Int32)), .val (.long la), .second, .val (.long ua), .second, .val (.long lb), .second, .val (.long ub), .second, .val (.long lc), .second, .val (.long uc), .second, .val (.long ld), .second, .val (.long ud), .second, .val (.long ub), .second, .val (.long ((la - (256 : Int64)) + ((x3 &&& (4095 : Int32)).toInt64))), .second, .val (.int cp), .val (.ref b47), .val (.ref b65), .val (.long (cp.toInt64)), .second, .val (.int (0 : Int32))]) ?_ X70 hx (hb hby at_507) rfl rfl
        refine Es.aload (q := 511) ?_ X70 hx (hb hby at_509) rfl rfl rfl
        refine Es.iload (q := 513) ?_ X70 hx (hb hby at_511) rfl rfl
        obtain ⟨cq82, kq82, q82a, q82b, q82c⟩ := isOf hZ rfl Ex70
        obtain ⟨v82, _, ⟨T82, L82, k82, n82⟩, -, X82, ⟨Lc82, hQ82, l82, y82, z82⟩, st82⟩ := X70.virtualBack hx (y := (⟨"com/example/tagwright/tagwright/model/CodePointSet", "contains", "(I)Z"⟩ : MethodName)) (z := (⟨"com/example/tagwright/tagwright/model/CodePointSet", "contains", "(I)Z"⟩ : MethodName)) hown (mvT hZ (hw _ (List.mem_of_getElem? (i := 24) rfl))) (mvT hZ (hw _ (List.mem_of_getElem? (i := 25) rfl))) (notFace_of_selects (args := #[]) (mvT hZ (hw _ (List.mem_of_getElem? (i := 27) rfl)))) (mvT hZ (hw _ (List.mem_of_getElem? (i := 27) rfl))) (mvT hZ (hw _ (List.mem_of_getElem? (i := 26) rfl))) (by decide) (backOf (W := 0) (rmC2 l Z a0 hw [] b65 cp bb (upd (upd (upd (upd (fun _ => (0 : Int32)) 0 (la.toInt32)) 1 (ua.toInt32)) 2 (lb.toInt32)) 3 (ub.toInt32)) T70.heap n0 Zs73 Fa70 Va70) hZ (hw _ (List.mem_of_getElem? (i := 28) rfl)) (hw _ (List.mem_of_getElem? (i := 6) rfl)) (by decide) (by decide)) q82a q82c (g := (mkF m 513 #[.val (.int x0), .val (.long x1), .second, .val (.int x2), .val (.int x3), .val (.int (2 : Int32)), .val (.long la), .second, .val (.long ua), .second, .val (.long lb), .second, .val (.long ub), .second, .val (.long lc), .second, .val (.long uc), .second, .val (.long ld), .second, .val (.long ud), .second, .val (.long ub), .second, .val (.long ((la - (256 : Int64)) + ((x3 &&& (4095 : Int32)).toInt64))), .second, .val (.int cp), .val (.ref b47), .val (.ref b65), .val (.long (cp.toInt64)), .second, .val (.int (0 : Int32))] [(.int cp), (.ref b65)])) rfl (by rw [hml]; rfl) (Steps.refl _) (argsL := [(.int cp)]) (rest := []) (lenOf pd_1 rfl) rfl (by show 2 * 0 + _ ≤ _; exact Nat.le_of_eq rfl) (hb hby at_513) (fun _ _ => ⟨rfl, rfl, (by decide : 3 + 0 ≤ _), (by decide : 13 + 0 ≤ _)⟩)
        dsimp only [Pt.U, Pt.locs, Pt.cells, Pt.slots] at X82 l82 y82 z82 st82 hQ82
        subst l82 y82 z82
        obtain ⟨rfl, N82q, e82⟩ := hQ82
        have N82 := Fr.app N70 N82q
        refine Ends.go st82 ?_
        show Ends p e below s _ _ _ (T82.setTop (mkF m 516 #[.val (.int x0), .val (.long x1), .second, .val (.int x2), .val (.int x3), .val (.int (2 : Int32)), .val (.long la), .second, .val (.long ua), .second, .val (.long lb), .second, .val (.long ub), .second, .val (.long lc), .second, .val (.long uc), .second, .val (.long ld), .second, .val (.long ud), .second, .val (.long ub), .second, .val (.long ((la - (256 : Int64)) + ((x3 &&& (4095 : Int32)).toInt64))), .second, .val (.int cp), .val (.ref b47), .val (.ref b65), .val (.long (cp.toInt64)), .second, .val (.int (0 : Int32))] [(.int (fC2 b65 cp bb (upd (upd (upd (upd (fun _ => (0 : Int32)) 0 (la.toInt32)) 1 (ua.toInt32)) 2 (lb.toInt32)) 3 (ub.toInt32))))]))
        refine Es.iload (q := 518) ?_ X82 hx (hb hby at_516) rfl rfl
        refine Es.icmpNo (q := 521) ?_ X82 hx (hb hby at_518) rfl (XT.ii_ne_f ((own_c2 (la := la) (ua := ua) (lb := lb) (ub := ub) rfl rfl rfl rfl o0 o1 p0 r0 r1).trans (if_neg (by have t0 := hc74; rw [Int64.lt_iff_toInt_lt, c_i2l] at t0; have t1 := hc80; rw [Int64.lt_iff_toInt_lt, c_i2l] at t1; have t2 := hc81; rw [Int64.lt_iff_toInt_lt, c_i2l] at t2; omega)) : (fC2 b65 cp bb (upd (upd (upd (upd (fun _ => (0 : Int32)) 0 (la.toInt32)) 1 (ua.toInt32)) 2 (lb.toInt32)) 3 (ub.toInt32))) = (0 : Int32)))
        refine Es.iconst (q := 522) (z := (1 : Int32)) ?_ X82 hx (hb hby at_521) rfl rfl
        refine Es.goto (q := 526) ?_ X82 hx (hb hby at_522) (by decide) (by decide)
        exact Ends.retN X82 hx hlk hret (t := .boolean) (by simp) (hb hby at_526) (w := 1) rfl ⟨rfl, N82⟩ (by decide) (by decide)
      · refine Es.ifNo (q := 450) ?_ X70 hx (hb hby at_447) rfl (XT.ll_gt_f hc81)
        refine Es.lload (q := 452) ?_ X70 hx (hb hby at_450) rfl rfl
        refine Es.lload (q := 454) ?_ X70 hx (hb hby at_452) rfl rfl
        refine Es.lcmp (q := 455) ?_ X70 hx (hb hby at_454) rfl
        by_cases hc83 : ub < (cp.toInt64)
        · refine Es.ifNo (q := 458) ?_ X70 hx (hb hby at_455) rfl (XT.ll_le_f hc83)
          refine Es.iload (q := 460) ?_ X70 hx (hb hby at_458) rfl rfl
          refine Es.iconst (q := 461) (z := (3 : Int32)) ?_ X70 hx (hb hby at_460) rfl rfl
          refine Es.icmpYes (q := 480) ?_ X70 hx (hb hby at_461) (XT.ii_lt_t (by decide)) (by decide) (by decide)
          refine Es.iload (q := 482) ?_ X70 hx (hb hby at_480) rfl rfl
          refine Es.iconst (q := 483) (z := (4 : Int32)) ?_ X70 hx (hb hby at_482) rfl rfl
          refine Es.icmpYes (q := 506) ?_ X70 hx (hb hby at_483) (XT.ii_lt_t (by decide)) (by decide) (by decide)
          refine Es.iconst (q := 507) (z := (0 : Int32)) ?_ X70 hx (hb hby at_506) rfl rfl
          refine Es.istore (q := 509) (l' := #[.val (.int x0), .val (.long x1), .second, .val (.int x2), .val (.int x3), .val (.int (2 : Int32)), .val (.long la), .second, .val (.long ua), .second, .val (.long lb), .second, .val (.long ub), .second, .val (.long lc), .second, .val (.long uc), .second, .val (.long ld), .second, .val (.long ud), .second, .val (.long ub), .second, .val (.long ((la - (256 : Int64)) + ((x3 &&& (4095 : Int32)).toInt64))), .second, .val (.int cp), .val (.ref b47), .val (.ref b65), .val (.long (cp.toInt64)), .second, .val (.int (0 : Int32))]) ?_ X70 hx (hb hby at_507) rfl rfl
          refine Es.aload (q := 511) ?_ X70 hx (hb hby at_509) rfl rfl rfl
          refine Es.iload (q := 513) ?_ X70 hx (hb hby at_511) rfl rfl
          obtain ⟨cq84, kq84, q84a, q84b, q84c⟩ := isOf hZ rfl Ex70
          obtain ⟨v84, _, ⟨T84, L84, k84, n84⟩, -, X84, ⟨Lc84, hQ84, l84, y84, z84⟩, st84⟩ := X70.virtualBack hx (y := (⟨"com/example/tagwright/tagwright/model/CodePointSet", "contains", "(I)Z"⟩ : MethodName)) (z := (⟨"com/example/tagwright/tagwright/model/CodePointSet", "contains", "(I)Z"⟩ : MethodName)) hown (mvT hZ (hw _ (List.mem_of_getElem? (i := 24) rfl))) (mvT hZ (hw _ (List.mem_of_getElem? (i := 25) rfl))) (notFace_of_selects (args := #[]) (mvT hZ (hw _ (List.mem_of_getElem? (i := 27) rfl)))) (mvT hZ (hw _ (List.mem_of_getElem? (i := 27) rfl))) (mvT hZ (hw _ (List.mem_of_getElem? (i := 26) rfl))) (by decide) (backOf (W := 0) (rmC2 l Z a0 hw [] b65 cp bb (upd (upd (upd (upd (fun _ => (0 : Int32)) 0 (la.toInt32)) 1 (ua.toInt32)) 2 (lb.toInt32)) 3 (ub.toInt32)) T70.heap n0 Zs73 Fa70 Va70) hZ (hw _ (List.mem_of_getElem? (i := 28) rfl)) (hw _ (List.mem_of_getElem? (i := 6) rfl)) (by decide) (by decide)) q84a q84c (g := (mkF m 513 #[.val (.int x0), .val (.long x1), .second, .val (.int x2), .val (.int x3), .val (.int (2 : Int32)), .val (.long la), .second, .val (.long ua), .second, .val (.long lb), .second, .val (.long ub), .second, .val (.long lc), .second, .val (.long uc), .second, .val (.long ld), .second, .val (.long ud), .second, .val (.long ub), .second, .val (.long ((la - (256 : Int64)) + ((x3 &&& (4095 : Int32)).toInt64))), .second, .val (.int cp), .val (.ref b47), .val (.ref b65), .val (.long (cp.toInt64)), .second, .val (.int (0 : Int32))] [(.int cp), (.ref b65)])) rfl (by rw [hml]; rfl) (Steps.refl _) (argsL := [(.int cp)]) (rest := []) (lenOf pd_1 rfl) rfl (by show 2 * 0 + _ ≤ _; exact Nat.le_of_eq rfl) (hb hby at_513) (fun _ _ => ⟨rfl, rfl, (by decide : 3 + 0 ≤ _), (by decide : 13 + 0 ≤ _)⟩)
          dsimp only [Pt.U, Pt.locs, Pt.cells, Pt.slots] at X84 l84 y84 z84 st84 hQ84
          subst l84 y84 z84
          obtain ⟨rfl, N84q, e84⟩ := hQ84
          have N84 := Fr.app N70 N84q
          refine Ends.go st84 ?_
          show Ends p e below s _ _ _ (T84.setTop (mkF m 516 #[.val (.int x0), .val (.long x1), .second, .val (.int x2), .val (.int x3), .val (.int (2 : Int32)), .val (.long la), .second, .val (.long ua), .second, .val (.long lb), .second, .val (.long ub), .second, .val (.long lc), .second, .val (.long uc), .second, .val (.long ld), .second, .val (.long ud), .second, .val (.long ub), .second, .val (.long ((la - (256 : Int64)) + ((x3 &&& (4095 : Int32)).toInt64))), .second, .val (.int cp), .val (.ref b47), .val (.ref b65), .val (.long (cp.toInt64)), .second, .val (.int (0 : Int32))] [(.int (fC2 b65 cp bb (upd (upd (upd (upd (fun _ => (0 : Int32)) 0 (la.toInt32)) 1 (ua.toInt32)) 2 (lb.toInt32)) 3 (ub.toInt32))))]))
          refine Es.iload (q := 518) ?_ X84 hx (hb hby at_516) rfl rfl
          refine Es.icmpNo (q := 521) ?_ X84 hx (hb hby at_518) rfl (XT.ii_ne_f ((own_c2 (la := la) (ua := ua) (lb := lb) (ub := ub) rfl rfl rfl rfl o0 o1 p0 r0 r1).trans (if_neg (by have t0 := hc74; rw [Int64.lt_iff_toInt_lt, c_i2l] at t0; have t1 := hc80; rw [Int64.lt_iff_toInt_lt, c_i2l] at t1; have t2 := hc81; rw [Int64.lt_iff_toInt_lt, c_i2l] at t2; have t3 := hc83; rw [Int64.lt_iff_toInt_lt, c_i2l] at t3; omega)) : (fC2 b65 cp bb (upd (upd (upd (upd (fun _ => (0 : Int32)) 0 (la.toInt32)) 1 (ua.toInt32)) 2 (lb.toInt32)) 3 (ub.toInt32))) = (0 : Int32)))
          refine Es.iconst (q := 522) (z := (1 : Int32)) ?_ X84 hx (hb hby at_521) rfl rfl
          refine Es.goto (q := 526) ?_ X84 hx (hb hby at_522) (by decide) (by decide)
          exact Ends.retN X84 hx hlk hret (t := .boolean) (by simp) (hb hby at_526) (w := 1) rfl ⟨rfl, N84⟩ (by decide) (by decide)
        · refine Es.ifYes (q := 502) ?_ X70 hx (hb hby at_455) (XT.ll_le_t hc83) (by decide) (by decide)
          refine Es.iconst (q := 503) (z := (1 : Int32)) ?_ X70 hx (hb hby at_502) rfl rfl
          refine Es.goto (q := 507) ?_ X70 hx (hb hby at_503) (by decide) (by decide)
          refine Es.istore (q := 509) (l' := #[.val (.int x0), .val (.long x1), .second, .val (.int x2), .val (.int x3), .val (.int (2 : Int32)), .val (.long la), .second, .val (.long ua), .second, .val (.long lb), .second, .val (.long ub), .second, .val (.long lc), .second, .val (.long uc), .second, .val (.long ld), .second, .val (.long ud), .second, .val (.long ub), .second, .val (.long ((la - (256 : Int64)) + ((x3 &&& (4095 : Int32)).toInt64))), .second, .val (.int cp), .val (.ref b47), .val (.ref b65), .val (.long (cp.toInt64)), .second, .val (.int (1 : Int32))]) ?_ X70 hx (hb hby at_507) rfl rfl
          refine Es.aload (q := 511) ?_ X70 hx (hb hby at_509) rfl rfl rfl
          refine Es.iload (q := 513) ?_ X70 hx (hb hby at_511) rfl rfl
          obtain ⟨cq85, kq85, q85a, q85b, q85c⟩ := isOf hZ rfl Ex70
          obtain ⟨v85, _, ⟨T85, L85, k85, n85⟩, -, X85, ⟨Lc85, hQ85, l85, y85, z85⟩, st85⟩ := X70.virtualBack hx (y := (⟨"com/example/tagwright/tagwright/model/CodePointSet", "contains", "(I)Z"⟩ : MethodName)) (z := (⟨"com/example/tagwright/tagwright/model/CodePointSet", "contains", "(I)Z"⟩ : MethodName)) hown (mvT hZ (hw _ (List.mem_of_getElem? (i := 24) rfl))) (mvT hZ (hw _ (List.mem_of_getElem? (i := 25) rfl))) (notFace_of_selects (args := #[]) (mvT hZ (hw _ (List.mem_of_getElem? (i := 27) rfl)))) (mvT hZ (hw _ (List.mem_of_getElem? (i := 27) rfl))) (mvT hZ (hw _ (List.mem_of_getElem? (i := 26) rfl))) (by decide) (backOf (W := 0) (rmC2 l Z a0 hw [] b65 cp bb (upd (upd (upd (upd (fun _ => (0 : Int32)) 0 (la.toInt32)) 1 (ua.toInt32)) 2 (lb.toInt32)) 3 (ub.toInt32)) T70.heap n0 Zs73 Fa70 Va70) hZ (hw _ (List.mem_of_getElem? (i := 28) rfl)) (hw _ (List.mem_of_getElem? (i := 6) rfl)) (by decide) (by decide)) q85a q85c (g := (mkF m 513 #[.val (.int x0), .val (.long x1), .second, .val (.int x2), .val (.int x3), .val (.int (2 : Int32)), .val (.long la), .second, .val (.long ua), .second, .val (.long lb), .second, .val (.long ub), .second, .val (.long lc), .second, .val (.long uc), .second, .val (.long ld), .second, .val (.long ud), .second, .val (.long ub), .second, .val (.long ((la - (256 : Int64)) + ((x3 &&& (4095 : Int32)).toInt64))), .second, .val (.int cp), .val (.ref b47), .val (.ref b65), .val (.long (cp.toInt64)), .second, .val (.int (1 : Int32))] [(.int cp), (.ref b65)])) rfl (by rw [hml]; rfl) (Steps.refl _) (argsL := [(.int cp)]) (rest := []) (lenOf pd_1 rfl) rfl (by show 2 * 0 + _ ≤ _; exact Nat.le_of_eq rfl) (hb hby at_513) (fun _ _ => ⟨rfl, rfl, (by decide : 3 + 0 ≤ _), (by decide : 13 + 0 ≤ _)⟩)
          dsimp only [Pt.U, Pt.locs, Pt.cells, Pt.slots] at X85 l85 y85 z85 st85 hQ85
          subst l85 y85 z85
          obtain ⟨rfl, N85q, e85⟩ := hQ85
          have N85 := Fr.app N70 N85q
          refine Ends.go st85 ?_
          show Ends p e below s _ _ _ (T85.setTop (mkF m 516 #[.val (.int x0), .val (.long x1), .second, .val (.int x2), .val (.int x3), .val (.int (2 : Int32)), .val (.long la), .second, .val (.long ua), .second, .val (.long lb), .second, .val (.long ub), .second, .val (.long lc), .second, .val (.long uc), .second, .val (.long ld), .second, .val (.long ud), .second, .val (.long ub), .second, .val (.long ((la - (256 : Int64)) + ((x3 &&& (4095 : Int32)).toInt64))), .second, .val (.int cp), .val (.ref b47), .val (.ref b65), .val (.long (cp.toInt64)), .second, .val (.int (1 : Int32))] [(.int (fC2 b65 cp bb (upd (upd (upd (upd (fun _ => (0 : Int32)) 0 (la.toInt32)) 1 (ua.toInt32)) 2 (lb.toInt32)) 3 (ub.toInt32))))]))
          refine Es.iload (q := 518) ?_ X85 hx (hb hby at_516) rfl rfl
          refine Es.icmpNo (q := 521) ?_ X85 hx (hb hby at_518) rfl (XT.ii_ne_f ((own_c2 (la := la) (ua := ua) (lb := lb) (ub := ub) rfl rfl rfl rfl o0 o1 p0 r0 r1).trans (if_pos (by have t0 := hc74; rw [Int64.lt_iff_toInt_lt, c_i2l] at t0; have t1 := hc80; rw [Int64.lt_iff_toInt_lt, c_i2l] at t1; have t2 := hc81; rw [Int64.lt_iff_toInt_lt, c_i2l] at t2; have t3 := hc83; rw [Int64.lt_iff_toInt_lt, c_i2l] at t3; omega)) : (fC2 b65 cp bb (upd (upd (upd (upd (fun _ => (0 : Int32)) 0 (la.toInt32)) 1 (ua.toInt32)) 2 (lb.toInt32)) 3 (ub.toInt32))) = (1 : Int32)))
          refine Es.iconst (q := 522) (z := (1 : Int32)) ?_ X85 hx (hb hby at_521) rfl rfl
          refine Es.goto (q := 526) ?_ X85 hx (hb hby at_522) (by decide) (by decide)
          exact Ends.retN X85 hx hlk hret (t := .boolean) (by simp) (hb hby at_526) (w := 1) rfl ⟨rfl, N85⟩ (by decide) (by decide)
    · refine Es.ifYes (q := 502) ?_ X70 hx (hb hby at_433) (XT.ll_le_t hc80) (by decide) (by decide)
      refine Es.iconst (q := 503) (z := (1 : Int32)) ?_ X70 hx (hb hby at_502) rfl rfl
      refine Es.goto (q := 507) ?_ X70 hx (hb hby at_503) (by decide) (by decide)
      refine Es.istore (q := 509) (l' := #[.val (.int x0), .val (.long x1), .second, .val (.int x2), .val (.int x3), .val (.int (2 : Int32)), .val (.long la), .second, .val (.long ua), .second, .val (.long lb), .second, .val (.long ub), .second, .val (.long lc), .second, .val (.long uc), .second, .val (.long ld), .second, .val (.long ud), .second, .val (.long ub), .second, .val (.long ((la - (256 : Int64)) + ((x3 &&& (4095 : Int32)).toInt64))), .second, .val (.int cp), .val (.ref b47), .val (.ref b65), .val (.long (cp.toInt64)), .second, .val (.int (1 : Int32))]) ?_ X70 hx (hb hby at_507) rfl rfl
      refine Es.aload (q := 511) ?_ X70 hx (hb hby at_509) rfl rfl rfl
      refine Es.iload (q := 513) ?_ X70 hx (hb hby at_511) rfl rfl
      obtain ⟨cq86, kq86, q86a, q86b, q86c⟩ := isOf hZ rfl Ex70
      obtain ⟨v86, _, ⟨T86, L86, k86, n86⟩, -, X86, ⟨Lc86, hQ86, l86, y86, z86⟩, st86⟩ := X70.virtualBack hx (y := (⟨"com/example/tagwright/tagwright/model/CodePointSet", "contains", "(I)Z"⟩ : MethodName)) (z := (⟨"com/example/tagwright/tagwright/model/CodePointSet", "contains", "(I)Z"⟩ : MethodName)) hown (mvT hZ (hw _ (List.mem_of_getElem? (i := 24) rfl))) (mvT hZ (hw _ (List.mem_of_getElem? (i := 25) rfl))) (notFace_of_selects (args := #[]) (mvT hZ (hw _ (List.mem_of_getElem? (i := 27) rfl)))) (mvT hZ (hw _ (List.mem_of_getElem? (i := 27) rfl))) (mvT hZ (hw _ (List.mem_of_getElem? (i := 26) rfl))) (by decide) (backOf (W := 0) (rmC2 l Z a0 hw [] b65 cp bb (upd (upd (upd (upd (fun _ => (0 : Int32)) 0 (la.toInt32)) 1 (ua.toInt32)) 2 (lb.toInt32)) 3 (ub.toInt32)) T70.heap n0 Zs73 Fa70 Va70) hZ (hw _ (List.mem_of_getElem? (i := 28) rfl)) (hw _ (List.mem_of_getElem? (i := 6) rfl)) (by decide) (by decide)) q86a q86c (g := (mkF m 513 #[.val (.int x0), .val (.long x1), .second, .val (.int x2), .val (.int x3), .val (.int (2 : Int32)), .val (.long la), .second, .val (.long ua), .second, .val (.long lb), .second, .val (.long ub), .second, .val (.long lc), .second, .val (.long uc), .second, .val (.long ld), .second, .val (.long ud), .second, .val (.long ub), .second, .val (.long ((la - (256 : Int64)) + ((x3 &&& (4095 : Int32)).toInt64))), .second, .val (.int cp), .val (.ref b47), .val (.ref b65), .val (.long (cp.toInt64)), .second, .val (.int (1 : Int32))] [(.int cp), (.ref b65)])) rfl (by rw [hml]; rfl) (Steps.refl _) (argsL := [(.int cp)]) (rest := []) (lenOf pd_1 rfl) rfl (by show 2 * 0 + _ ≤ _; exact Nat.le_of_eq rfl) (hb hby at_513) (fun _ _ => ⟨rfl, rfl, (by decide : 3 + 0 ≤ _), (by decide : 13 + 0 ≤ _)⟩)
      dsimp only [Pt.U, Pt.locs, Pt.cells, Pt.slots] at X86 l86 y86 z86 st86 hQ86
      subst l86 y86 z86
      obtain ⟨rfl, N86q, e86⟩ := hQ86
      have N86 := Fr.app N70 N86q
      refine Ends.go st86 ?_
      show Ends p e below s _ _ _ (T86.setTop (mkF m 516 #[.val (.int x0), .val (.long x1), .second, .val (.int x2), .val (.int x3), .val (.int (2 : Int32)), .val (.long la), .second, .val (.long ua), .second, .val (.long lb), .second, .val (.long ub), .second, .val (.long lc), .second, .val (.long uc), .second, .val (.long ld), .second, .val (.long ud), .second, .val (.long ub), .second, .val (.long ((la - (256 : Int64)) + ((x3 &&& (4095 : Int32)).toInt64))), .second, .val (.int cp), .val (.ref b47), .val (.ref b65), .val (.long (cp.toInt64)), .second, .val (.int (1 : Int32))] [(.int (fC2 b65 cp bb (upd (upd (upd (upd (fun _ => (0 : Int32)) 0 (la.toInt32)) 1 (ua.toInt32)) 2 (lb.toInt32)) 3 (ub.toInt32))))]))
      refine Es.iload (q := 518) ?_ X86 hx (hb hby at_516) rfl rfl
      refine Es.icmpNo (q := 521) ?_ X86 hx (hb hby at_518) rfl (XT.ii_ne_f ((own_c2 (la := la) (ua := ua) (lb := lb) (ub := ub) rfl rfl rfl rfl o0 o1 p0 r0 r1).trans (if_pos (by have t0 := hc74; rw [Int64.lt_iff_toInt_lt, c_i2l] at t0; have t1 := hc80; rw [Int64.lt_iff_toInt_lt, c_i2l] at t1; omega)) : (fC2 b65 cp bb (upd (upd (upd (upd (fun _ => (0 : Int32)) 0 (la.toInt32)) 1 (ua.toInt32)) 2 (lb.toInt32)) 3 (ub.toInt32))) = (1 : Int32)))
      refine Es.iconst (q := 522) (z := (1 : Int32)) ?_ X86 hx (hb hby at_521) rfl rfl
      refine Es.goto (q := 526) ?_ X86 hx (hb hby at_522) (by decide) (by decide)
      exact Ends.retN X86 hx hlk hret (t := .boolean) (by simp) (hb hby at_526) (w := 1) rfl ⟨rfl, N86⟩ (by decide) (by decide)

set_option maxRecDepth 65536 in
set_option maxHeartbeats 40000000 in
theorem sgN2 {p : Program} {l : Launch} {e : Env} {s : State} {m : MethodId} {args : Array Value} {below : List Frame} {meth : Method} {c : Code} {Z : State} {a0 : Array Value} (hx : p.tables.exec = Jvm.exec) (hZ : Z.Warmed39 s.vm) (hw : ∀ d ∈ tables_1, d.before a0 Z = true) (hby : c.code = code) (hml : c.maxLocals = 32) (hown : s.vm.findClass "com/example/tagwright/tagwright/model/CodePointSetContainsPinLaw" = some m.cls) (hlk : meth.locks = false) (hret : meth.sig.returnType = some .boolean) {T : State} {locs : List Loc} {h : Heap} {n0 : Nat} (x0 : Int32) (x1 : Int64) (x2 : Int32) (x3 : Int32) (la : Int64) (ua : Int64) (lb : Int64) (ub : Int64) (lc : Int64) (uc : Int64) (ld : Int64) (ud : Int64) (X : Stand p l e room_1 s m args below meth c T locs 0 0) (eT : T.heap = h) (N : Fr n0 locs) (Zs : n0 ≤ h.size) (r0 : -2147483648 ≤ la.toInt) (o0 : la.toInt ≤ ua.toInt) (p0 : ua.toInt < lb.toInt) (o1 : lb.toInt ≤ ub.toInt) (p1 : ub.toInt < lc.toInt) (o2 : lc.toInt ≤ uc.toInt) (p2 : uc.toInt < ld.toInt) (o3 : ld.toInt ≤ ud.toInt) :
    Ends p e below s (QL n0) room_1.cells room_1.slots (T.setTop (mkF m 106 #[.val (.int x0), .val (.long x1), .second, .val (.int x2), .val (.int x3), .val (.int (2 : Int32)), .val (.long la), .second, .val (.long ua), .second, .val (.long lb), .second, .val (.long ub), .second, .val (.long lc), .second, .val (.long uc), .second, .val (.long ld), .second, .val (.long ud), .second, .unset, .unset, .unset, .unset, .unset, .unset, .unset, .unset, .unset, .unset] [])) := by
  show Ends p e below s _ _ _ (T.setTop (mkF m 106 #[.val (.int x0), .val (.long x1), .second, .val (.int x2), .val (.int x3), .val (.int (2 : Int32)), .val (.long la), .second, .val (.long ua), .second, .val (.long lb), .second, .val (.long ub), .second, .val (.long lc), .second, .val (.long uc), .second, .val (.long ld), .second, .val (.long ud), .second, .unset, .unset, .unset, .unset, .unset, .unset, .unset, .unset, .unset, .unset] []))
  refine Es.iload (q := 108) ?_ X hx (hb hby at_106) rfl rfl
  refine Es.ifYes (q := 116) ?_ X hx (hb hby at_108) (XT.i0_ne_t (by decide)) (by decide) (by decide)
  refine Es.iload (q := 118) ?_ X hx (hb hby at_116) rfl rfl
  refine Es.iconst (q := 119) (z := (1 : Int32)) ?_ X hx (hb hby at_118) rfl rfl
  refine Es.icmpYes (q := 127) ?_ X hx (hb hby at_119) (XT.ii_ne_t (by decide)) (by decide) (by decide)
  refine Es.iload (q := 129) ?_ X hx (hb hby at_127) rfl rfl
  refine Es.iconst (q := 130) (z := (2 : Int32)) ?_ X hx (hb hby at_129) rfl rfl
  refine Es.icmpNo (q := 133) ?_ X hx (hb hby at_130) rfl (XT.ii_ne_f (by decide))
  refine Es.lload (q := 135) ?_ X hx (hb hby at_133) rfl rfl
  refine Es.goto (q := 151) ?_ X hx (hb hby at_135) (by decide) (by decide)
  refine Es.lstore (q := 153) (l' := #[.val (.int x0), .val (.long x1), .second, .val (.int x2), .val (.int x3), .val (.int (2 : Int32)), .val (.long la), .second, .val (.long ua), .second, .val (.long lb), .second, .val (.long ub), .second, .val (.long lc), .second, .val (.long uc), .second, .val (.long ld), .second, .val (.long ud), .second, .val (.long ub), .second, .unset, .unset, .unset, .unset, .unset, .unset, .unset, .unset]) ?_ X hx (hb hby at_151) rfl rfl
  refine Es.lload (q := 155) ?_ X hx (hb hby at_153) rfl rfl
  refine Es.ldc2 (q := 158) ?_ X hx hown (mvT hZ (hw _ (List.mem_of_getElem? (i := 1) rfl))) (hb hby at_155) rfl
  refine Es.lcmp (q := 159) ?_ X hx (hb hby at_158) rfl
  by_cases hc45 : (2147483647 : Int64) < ub
  · refine Es.ifNo (q := 162) ?_ X hx (hb hby at_159) rfl (XT.ll_le_f hc45)
    refine Es.iconst (q := 163) (z := (1 : Int32)) ?_ X hx (hb hby at_162) rfl rfl
    exact Ends.retN X hx hlk hret (t := .boolean) (by simp) (hb hby at_163) (w := 1) rfl ⟨rfl, N⟩ (by decide) (by decide)
  · refine Es.ifYes (q := 164) ?_ X hx (hb hby at_159) (XT.ll_le_t hc45) (by decide) (by decide)
    refine Es.lload (q := 166) ?_ X hx (hb hby at_164) rfl rfl
    refine Es.ldc2 (q := 169) ?_ X hx hown (mvT hZ (hw _ (List.mem_of_getElem? (i := 2) rfl))) (hb hby at_166) rfl
    refine Es.lsub (q := 170) ?_ X hx (hb hby at_169) rfl
    refine Es.iload (q := 172) ?_ X hx (hb hby at_170) rfl rfl
    refine Es.sipush (q := 175) (z := (4095 : Int32)) ?_ X hx (hb hby at_172) rfl rfl
    refine Es.iand (q := 176) ?_ X hx (hb hby at_175) rfl
    refine Es.i2l (q := 177) ?_ X hx (hb hby at_176) rfl
    refine Es.ladd (q := 178) ?_ X hx (hb hby at_177) rfl
    refine Es.lstore (q := 180) (l' := #[.val (.int x0), .val (.long x1), .second, .val (.int x2), .val (.int x3), .val (.int (2 : Int32)), .val (.long la), .second, .val (.long ua), .second, .val (.long lb), .second, .val (.long ub), .second, .val (.long lc), .second, .val (.long uc), .second, .val (.long ld), .second, .val (.long ud), .second, .val (.long ub), .second, .val (.long ((la - (256 : Int64)) + ((x3 &&& (4095 : Int32)).toInt64))), .second, .unset, .unset, .unset, .unset, .unset, .unset]) ?_ X hx (hb hby at_178) rfl rfl
    refine Es.iload (q := 182) ?_ X hx (hb hby at_180) rfl rfl
    refine Es.istore (q := 184) (l' := #[.val (.int x0), .val (.long x1), .second, .val (.int x2), .val (.int x3), .val (.int (2 : Int32)), .val (.long la), .second, .val (.long ua), .second, .val (.long lb), .second, .val (.long ub), .second, .val (.long lc), .second, .val (.long uc), .second, .val (.long ld), .second, .val (.long ud), .second, .val (.long ub), .second, .val (.long ((la - (256 : Int64)) + ((x3 &&& (4095 : Int32)).toInt64))), .second, .val (.int x3), .unset, .unset, .unset, .unset, .unset]) ?_ X hx (hb hby at_182) rfl rfl
    refine Es.iloadN (q := 185) ?_ X hx (hb hby at_184) rfl rfl
    refine Es.bipush (q := 187) (z := (8 : Int32)) ?_ X hx (hb hby at_185) rfl rfl
    refine Es.iand (q := 188) ?_ X hx (hb hby at_187) rfl
    by_cases hc46 : (x2 &&& (8 : Int32)) = (0 : Int32)
    · refine Es.ifYes (q := 214) ?_ X hx (hb hby at_188) (XT.i0_eq_t hc46) (by decide) (by decide)
      have r1 : ub.toInt ≤ 2147483647 := by have q := hc45; rw [Int64.lt_iff_toInt_lt] at q; have e1 : (2147483647 : Int64).toInt = 2147483647 := rfl; omega
      exact sgP2 hx hZ hw hby hml hown hlk hret (x0) (x1) (x2) (x3) (la) (ua) (lb) (ub) (lc) (uc) (ld) (ud) (x3) X eT N Zs r0 o0 p0 o1 p1 o2 p2 o3 r1
    · refine Es.ifNo (q := 191) ?_ X hx (hb hby at_188) rfl (XT.i0_eq_f hc46)
      refine Es.lload (q := 193) ?_ X hx (hb hby at_191) rfl rfl
      refine Es.ldc2 (q := 196) ?_ X hx hown (mvT hZ (hw _ (List.mem_of_getElem? (i := 29) rfl))) (hb hby at_193) rfl
      refine Es.lcmp (q := 197) ?_ X hx (hb hby at_196) rfl
      by_cases hc87 : ((la - (256 : Int64)) + ((x3 &&& (4095 : Int32)).toInt64)) < (-2147483648 : Int64)
      · refine Es.ifYes (q := 214) ?_ X hx (hb hby at_197) (XT.ll_lt_t hc87) (by decide) (by decide)
        have r1 : ub.toInt ≤ 2147483647 := by have q := hc45; rw [Int64.lt_iff_toInt_lt] at q; have e1 : (2147483647 : Int64).toInt = 2147483647 := rfl; omega
        exact sgP2 hx hZ hw hby hml hown hlk hret (x0) (x1) (x2) (x3) (la) (ua) (lb) (ub) (lc) (uc) (ld) (ud) (x3) X eT N Zs r0 o0 p0 o1 p1 o2 p2 o3 r1
      · refine Es.ifNo (q := 200) ?_ X hx (hb hby at_197) rfl (XT.ll_lt_f hc87)
        refine Es.lload (q := 202) ?_ X hx (hb hby at_200) rfl rfl
        refine Es.ldc2 (q := 205) ?_ X hx hown (mvT hZ (hw _ (List.mem_of_getElem? (i := 1) rfl))) (hb hby at_202) rfl
        refine Es.lcmp (q := 206) ?_ X hx (hb hby at_205) rfl
        by_cases hc88 : (2147483647 : Int64) < ((la - (256 : Int64)) + ((x3 &&& (4095 : Int32)).toInt64))
        · refine Es.ifYes (q := 214) ?_ X hx (hb hby at_206) (XT.ll_gt_t hc88) (by decide) (by decide)
          have r1 : ub.toInt ≤ 2147483647 := by have q := hc45; rw [Int64.lt_iff_toInt_lt] at q; have e1 : (2147483647 : Int64).toInt = 2147483647 := rfl; omega
          exact sgP2 hx hZ hw hby hml hown hlk hret (x0) (x1) (x2) (x3) (la) (ua) (lb) (ub) (lc) (uc) (ld) (ud) (x3) X eT N Zs r0 o0 p0 o1 p1 o2 p2 o3 r1
        · refine Es.ifNo (q := 209) ?_ X hx (hb hby at_206) rfl (XT.ll_gt_f hc88)
          refine Es.lload (q := 211) ?_ X hx (hb hby at_209) rfl rfl
          refine Es.l2i (q := 212) ?_ X hx (hb hby at_211) rfl
          refine Es.istore (q := 214) (l' := #[.val (.int x0), .val (.long x1), .second, .val (.int x2), .val (.int x3), .val (.int (2 : Int32)), .val (.long la), .second, .val (.long ua), .second, .val (.long lb), .second, .val (.long ub), .second, .val (.long lc), .second, .val (.long uc), .second, .val (.long ld), .second, .val (.long ud), .second, .val (.long ub), .second, .val (.long ((la - (256 : Int64)) + ((x3 &&& (4095 : Int32)).toInt64))), .second, .val (.int (((la - (256 : Int64)) + ((x3 &&& (4095 : Int32)).toInt64)).toInt32)), .unset, .unset, .unset, .unset, .unset]) ?_ X hx (hb hby at_212) rfl rfl
          have r1 : ub.toInt ≤ 2147483647 := by have q := hc45; rw [Int64.lt_iff_toInt_lt] at q; have e1 : (2147483647 : Int64).toInt = 2147483647 := rfl; omega
          exact sgP2 hx hZ hw hby hml hown hlk hret (x0) (x1) (x2) (x3) (la) (ua) (lb) (ub) (lc) (uc) (ld) (ud) ((((la - (256 : Int64)) + ((x3 &&& (4095 : Int32)).toInt64)).toInt32)) X eT N Zs r0 o0 p0 o1 p1 o2 p2 o3 r1

set_option maxRecDepth 65536 in
set_option maxHeartbeats 40000000 in
theorem sgP3 {p : Program} {l : Launch} {e : Env} {s : State} {m : MethodId} {args : Array Value} {below : List Frame} {meth : Method} {c : Code} {Z : State} {a0 : Array Value} (hx : p.tables.exec = Jvm.exec) (hZ : Z.Warmed39 s.vm) (hw : ∀ d ∈ tables_1, d.before a0 Z = true) (hby : c.code = code) (hml : c.maxLocals = 32) (hown : s.vm.findClass "com/example/tagwright/tagwright/model/CodePointSetContainsPinLaw" = some m.cls) (hlk : meth.locks = false) (hret : meth.sig.returnType = some .boolean) {T : State} {locs : List Loc} {h : Heap} {n0 : Nat} (x0 : Int32) (x1 : Int64) (x2 : Int32) (x3 : Int32) (la : Int64) (ua : Int64) (lb : Int64) (ub : Int64) (lc : Int64) (uc : Int64) (ld : Int64) (ud : Int64) (cp : Int32) (X : Stand p l e room_1 s m args below meth c T locs 0 0) (eT : T.heap = h) (N : Fr n0 locs) (Zs : n0 ≤ h.size) (r0 : -2147483648 ≤ la.toInt) (o0 : la.toInt ≤ ua.toInt) (p0 : ua.toInt < lb.toInt) (o1 : lb.toInt ≤ ub.toInt) (p1 : ub.toInt < lc.toInt) (o2 : lc.toInt ≤ uc.toInt) (p2 : uc.toInt < ld.toInt) (o3 : ld.toInt ≤ ud.toInt) (r1 : uc.toInt ≤ 2147483647) :
    Ends p e below s (QL n0) room_1.cells room_1.slots (T.setTop (mkF m 214 #[.val (.int x0), .val (.long x1), .second, .val (.int x2), .val (.int x3), .val (.int (3 : Int32)), .val (.long la), .second, .val (.long ua), .second, .val (.long lb), .second, .val (.long ub), .second, .val (.long lc), .second, .val (.long uc), .second, .val (.long ld), .second, .val (.long ud), .second, .val (.long uc), .second, .val (.long ((la - (256 : Int64)) + ((x3 &&& (4095 : Int32)).toInt64))), .second, .val (.int cp), .unset, .unset, .unset, .unset, .unset] [])) := by
  show Ends p e below s _ _ _ (T.setTop (mkF m 214 #[.val (.int x0), .val (.long x1), .second, .val (.int x2), .val (.int x3), .val (.int (3 : Int32)), .val (.long la), .second, .val (.long ua), .second, .val (.long lb), .second, .val (.long ub), .second, .val (.long lc), .second, .val (.long uc), .second, .val (.long ld), .second, .val (.long ud), .second, .val (.long uc), .second, .val (.long ((la - (256 : Int64)) + ((x3 &&& (4095 : Int32)).toInt64))), .second, .val (.int cp), .unset, .unset, .unset, .unset, .unset] []))
  refine Es.iload (q := 216) ?_ X hx (hb hby at_214) rfl rfl
  refine Es.ifYes (q := 227) ?_ X hx (hb hby at_216) (XT.i0_ne_t (by decide)) (by decide) (by decide)
  refine Es.iload (q := 229) ?_ X hx (hb hby at_227) rfl rfl
  refine Es.iconst (q := 230) (z := (1 : Int32)) ?_ X hx (hb hby at_229) rfl rfl
  refine Es.icmpYes (q := 253) ?_ X hx (hb hby at_230) (XT.ii_ne_t (by decide)) (by decide) (by decide)
  refine Es.iload (q := 255) ?_ X hx (hb hby at_253) rfl rfl
  refine Es.iconst (q := 256) (z := (2 : Int32)) ?_ X hx (hb hby at_255) rfl rfl
  refine Es.icmpYes (q := 291) ?_ X hx (hb hby at_256) (XT.ii_ne_t (by decide)) (by decide) (by decide)
  refine Es.iload (q := 293) ?_ X hx (hb hby at_291) rfl rfl
  refine Es.iconst (q := 294) (z := (3 : Int32)) ?_ X hx (hb hby at_293) rfl rfl
  refine Es.icmpNo (q := 297) ?_ X hx (hb hby at_294) rfl (XT.ii_ne_f (by decide))
  refine Es.bipush (q := 299) (z := (6 : Int32)) ?_ X hx (hb hby at_297) rfl rfl
  obtain ⟨T91, h91, X91, e91, E91, V91, Ax91, st91⟩ := newArE X hx hZ (C := "[I") rfl (hw _ (List.mem_of_getElem? (i := 3) rfl)) rfl eT (n := 6) (z := (6 : Int32)) (cap := 6) (by decide) (by decide) (by decide) (by decide) (by decide) (Ls := #[.val (.int x0), .val (.long x1), .second, .val (.int x2), .val (.int x3), .val (.int (3 : Int32)), .val (.long la), .second, .val (.long ua), .second, .val (.long lb), .second, .val (.long ub), .second, .val (.long lc), .second, .val (.long uc), .second, .val (.long ld), .second, .val (.long ud), .second, .val (.long uc), .second, .val (.long ((la - (256 : Int64)) + ((x3 &&& (4095 : Int32)).toInt64))), .second, .val (.int cp), .unset, .unset, .unset, .unset, .unset]) (S := []) (hb hby at_299)
  obtain ⟨b91, g91⟩ : ∃ z, z = h.size := ⟨_, rfl⟩
  rw [← g91] at V91 Ax91 st91
  have gn91 : n0 ≤ b91 := Nat.le_trans Zs (Nat.le_of_eq g91.symm)
  have Zs92 : n0 ≤ h91.size := Nat.le_trans Zs E91.1
  refine Ends.by ?_ st91
  show Ends p e below s _ _ _ (T91.setTop (mkF m 301 #[.val (.int x0), .val (.long x1), .second, .val (.int x2), .val (.int x3), .val (.int (3 : Int32)), .val (.long la), .second, .val (.long ua), .second, .val (.long lb), .second, .val (.long ub), .second, .val (.long lc), .second, .val (.long uc), .second, .val (.long ld), .second, .val (.long ud), .second, .val (.long uc), .second, .val (.long ((la - (256 : Int64)) + ((x3 &&& (4095 : Int32)).toInt64))), .second, .val (.int cp), .unset, .unset, .unset, .unset, .unset] [(.ref b91)]))
  refine Es.dup (q := 302) ?_ X91 hx (hb hby at_301) rfl rfl
  refine Es.iconst (q := 303) (z := (0 : Int32)) ?_ X91 hx (hb hby at_302) rfl rfl
  refine Es.lload (q := 305) ?_ X91 hx (hb hby at_303) rfl rfl
  refine Es.l2i (q := 306) ?_ X91 hx (hb hby at_305) rfl
  obtain ⟨T93, h93, X93, e93, W93, V93, st93⟩ := stIA X91 hx hZ e91 V91 (j := (0 : Int32)) (x := (la.toInt32)) (by decide) (Ls := #[.val (.int x0), .val (.long x1), .second, .val (.int x2), .val (.int x3), .val (.int (3 : Int32)), .val (.long la), .second, .val (.long ua), .second, .val (.long lb), .second, .val (.long ub), .second, .val (.long lc), .second, .val (.long uc), .second, .val (.long ld), .second, .val (.long ud), .second, .val (.long uc), .second, .val (.long ((la - (256 : Int64)) + ((x3 &&& (4095 : Int32)).toInt64))), .second, .val (.int cp), .unset, .unset, .unset, .unset, .unset]) (S := [(.ref b91)]) (hb hby at_306)
  have f95 := Exa.wr W93 Ax91
  have N93 := Fr.snoc X93 N gn91
  have Zs96 : n0 ≤ h93.size := Nat.le_trans Zs92 (Keep.of_wr W93).1
  refine Ends.by ?_ st93
  show Ends p e below s _ _ _ (T93.setTop (mkF m 307 #[.val (.int x0), .val (.long x1), .second, .val (.int x2), .val (.int x3), .val (.int (3 : Int32)), .val (.long la), .second, .val (.long ua), .second, .val (.long lb), .second, .val (.long ub), .second, .val (.long lc), .second, .val (.long uc), .second, .val (.long ld), .second, .val (.long ud), .second, .val (.long uc), .second, .val (.long ((la - (256 : Int64)) + ((x3 &&& (4095 : Int32)).toInt64))), .second, .val (.int cp), .unset, .unset, .unset, .unset, .unset] [(.ref b91)]))
  refine Es.dup (q := 308) ?_ X93 hx (hb hby at_307) rfl rfl
  refine Es.iconst (q := 309) (z := (1 : Int32)) ?_ X93 hx (hb hby at_308) rfl rfl
  refine Es.lload (q := 311) ?_ X93 hx (hb hby at_309) rfl rfl
  refine Es.l2i (q := 312) ?_ X93 hx (hb hby at_311) rfl
  obtain ⟨T97, h97, X97, e97, W97, V97, st97⟩ := stIA X93 hx hZ e93 V93 (j := (1 : Int32)) (x := (ua.toInt32)) (by decide) (Ls := #[.val (.int x0), .val (.long x1), .second, .val (.int x2), .val (.int x3), .val (.int (3 : Int32)), .val (.long la), .second, .val (.long ua), .second, .val (.long lb), .second, .val (.long ub), .second, .val (.long lc), .second, .val (.long uc), .second, .val (.long ld), .second, .val (.long ud), .second, .val (.long uc), .second, .val (.long ((la - (256 : Int64)) + ((x3 &&& (4095 : Int32)).toInt64))), .second, .val (.int cp), .unset, .unset, .unset, .unset, .unset]) (S := [(.ref b91)]) (hb hby at_312)
  have f99 := Exa.wr W97 f95
  have N97 := Fr.snoc X97 N93 gn91
  have Zs100 : n0 ≤ h97.size := Nat.le_trans Zs96 (Keep.of_wr W97).1
  refine Ends.by ?_ st97
  show Ends p e below s _ _ _ (T97.setTop (mkF m 313 #[.val (.int x0), .val (.long x1), .second, .val (.int x2), .val (.int x3), .val (.int (3 : Int32)), .val (.long la), .second, .val (.long ua), .second, .val (.long lb), .second, .val (.long ub), .second, .val (.long lc), .second, .val (.long uc), .second, .val (.long ld), .second, .val (.long ud), .second, .val (.long uc), .second, .val (.long ((la - (256 : Int64)) + ((x3 &&& (4095 : Int32)).toInt64))), .second, .val (.int cp), .unset, .unset, .unset, .unset, .unset] [(.ref b91)]))
  refine Es.dup (q := 314) ?_ X97 hx (hb hby at_313) rfl rfl
  refine Es.iconst (q := 315) (z := (2 : Int32)) ?_ X97 hx (hb hby at_314) rfl rfl
  refine Es.lload (q := 317) ?_ X97 hx (hb hby at_315) rfl rfl
  refine Es.l2i (q := 318) ?_ X97 hx (hb hby at_317) rfl
  obtain ⟨T101, h101, X101, e101, W101, V101, st101⟩ := stIA X97 hx hZ e97 V97 (j := (2 : Int32)) (x := (lb.toInt32)) (by decide) (Ls := #[.val (.int x0), .val (.long x1), .second, .val (.int x2), .val (.int x3), .val (.int (3 : Int32)), .val (.long la), .second, .val (.long ua), .second, .val (.long lb), .second, .val (.long ub), .second, .val (.long lc), .second, .val (.long uc), .second, .val (.long ld), .second, .val (.long ud), .second, .val (.long uc), .second, .val (.long ((la - (256 : Int64)) + ((x3 &&& (4095 : Int32)).toInt64))), .second, .val (.int cp), .unset, .unset, .unset, .unset, .unset]) (S := [(.ref b91)]) (hb hby at_318)
  have f103 := Exa.wr W101 f99
  have N101 := Fr.snoc X101 N97 gn91
  have Zs104 : n0 ≤ h101.size := Nat.le_trans Zs100 (Keep.of_wr W101).1
  refine Ends.by ?_ st101
  show Ends p e below s _ _ _ (T101.setTop (mkF m 319 #[.val (.int x0), .val (.long x1), .second, .val (.int x2), .val (.int x3), .val (.int (3 : Int32)), .val (.long la), .second, .val (.long ua), .second, .val (.long lb), .second, .val (.long ub), .second, .val (.long lc), .second, .val (.long uc), .second, .val (.long ld), .second, .val (.long ud), .second, .val (.long uc), .second, .val (.long ((la - (256 : Int64)) + ((x3 &&& (4095 : Int32)).toInt64))), .second, .val (.int cp), .unset, .unset, .unset, .unset, .unset] [(.ref b91)]))
  refine Es.dup (q := 320) ?_ X101 hx (hb hby at_319) rfl rfl
  refine Es.iconst (q := 321) (z := (3 : Int32)) ?_ X101 hx (hb hby at_320) rfl rfl
  refine Es.lload (q := 323) ?_ X101 hx (hb hby at_321) rfl rfl
  refine Es.l2i (q := 324) ?_ X101 hx (hb hby at_323) rfl
  obtain ⟨T105, h105, X105, e105, W105, V105, st105⟩ := stIA X101 hx hZ e101 V101 (j := (3 : Int32)) (x := (ub.toInt32)) (by decide) (Ls := #[.val (.int x0), .val (.long x1), .second, .val (.int x2), .val (.int x3), .val (.int (3 : Int32)), .val (.long la), .second, .val (.long ua), .second, .val (.long lb), .second, .val (.long ub), .second, .val (.long lc), .second, .val (.long uc), .second, .val (.long ld), .second, .val (.long ud), .second, .val (.long uc), .second, .val (.long ((la - (256 : Int64)) + ((x3 &&& (4095 : Int32)).toInt64))), .second, .val (.int cp), .unset, .unset, .unset, .unset, .unset]) (S := [(.ref b91)]) (hb hby at_324)
  have f107 := Exa.wr W105 f103
  have N105 := Fr.snoc X105 N101 gn91
  have Zs108 : n0 ≤ h105.size := Nat.le_trans Zs104 (Keep.of_wr W105).1
  refine Ends.by ?_ st105
  show Ends p e below s _ _ _ (T105.setTop (mkF m 325 #[.val (.int x0), .val (.long x1), .second, .val (.int x2), .val (.int x3), .val (.int (3 : Int32)), .val (.long la), .second, .val (.long ua), .second, .val (.long lb), .second, .val (.long ub), .second, .val (.long lc), .second, .val (.long uc), .second, .val (.long ld), .second, .val (.long ud), .second, .val (.long uc), .second, .val (.long ((la - (256 : Int64)) + ((x3 &&& (4095 : Int32)).toInt64))), .second, .val (.int cp), .unset, .unset, .unset, .unset, .unset] [(.ref b91)]))
  refine Es.dup (q := 326) ?_ X105 hx (hb hby at_325) rfl rfl
  refine Es.iconst (q := 327) (z := (4 : Int32)) ?_ X105 hx (hb hby at_326) rfl rfl
  refine Es.lload (q := 329) ?_ X105 hx (hb hby at_327) rfl rfl
  refine Es.l2i (q := 330) ?_ X105 hx (hb hby at_329) rfl
  obtain ⟨T109, h109, X109, e109, W109, V109, st109⟩ := stIA X105 hx hZ e105 V105 (j := (4 : Int32)) (x := (lc.toInt32)) (by decide) (Ls := #[.val (.int x0), .val (.long x1), .second, .val (.int x2), .val (.int x3), .val (.int (3 : Int32)), .val (.long la), .second, .val (.long ua), .second, .val (.long lb), .second, .val (.long ub), .second, .val (.long lc), .second, .val (.long uc), .second, .val (.long ld), .second, .val (.long ud), .second, .val (.long uc), .second, .val (.long ((la - (256 : Int64)) + ((x3 &&& (4095 : Int32)).toInt64))), .second, .val (.int cp), .unset, .unset, .unset, .unset, .unset]) (S := [(.ref b91)]) (hb hby at_330)
  have f111 := Exa.wr W109 f107
  have N109 := Fr.snoc X109 N105 gn91
  have Zs112 : n0 ≤ h109.size := Nat.le_trans Zs108 (Keep.of_wr W109).1
  refine Ends.by ?_ st109
  show Ends p e below s _ _ _ (T109.setTop (mkF m 331 #[.val (.int x0), .val (.long x1), .second, .val (.int x2), .val (.int x3), .val (.int (3 : Int32)), .val (.long la), .second, .val (.long ua), .second, .val (.long lb), .second, .val (.long ub), .second, .val (.long lc), .second, .val (.long uc), .second, .val (.long ld), .second, .val (.long ud), .second, .val (.long uc), .second, .val (.long ((la - (256 : Int64)) + ((x3 &&& (4095 : Int32)).toInt64))), .second, .val (.int cp), .unset, .unset, .unset, .unset, .unset] [(.ref b91)]))
  refine Es.dup (q := 332) ?_ X109 hx (hb hby at_331) rfl rfl
  refine Es.iconst (q := 333) (z := (5 : Int32)) ?_ X109 hx (hb hby at_332) rfl rfl
  refine Es.lload (q := 335) ?_ X109 hx (hb hby at_333) rfl rfl
  refine Es.l2i (q := 336) ?_ X109 hx (hb hby at_335) rfl
  obtain ⟨T113, h113, X113, e113, W113, V113, st113⟩ := stIA X109 hx hZ e109 V109 (j := (5 : Int32)) (x := (uc.toInt32)) (by decide) (Ls := #[.val (.int x0), .val (.long x1), .second, .val (.int x2), .val (.int x3), .val (.int (3 : Int32)), .val (.long la), .second, .val (.long ua), .second, .val (.long lb), .second, .val (.long ub), .second, .val (.long lc), .second, .val (.long uc), .second, .val (.long ld), .second, .val (.long ud), .second, .val (.long uc), .second, .val (.long ((la - (256 : Int64)) + ((x3 &&& (4095 : Int32)).toInt64))), .second, .val (.int cp), .unset, .unset, .unset, .unset, .unset]) (S := [(.ref b91)]) (hb hby at_336)
  have f115 := Exa.wr W113 f111
  have N113 := Fr.snoc X113 N109 gn91
  have Zs116 : n0 ≤ h113.size := Nat.le_trans Zs112 (Keep.of_wr W113).1
  refine Ends.by ?_ st113
  show Ends p e below s _ _ _ (T113.setTop (mkF m 337 #[.val (.int x0), .val (.long x1), .second, .val (.int x2), .val (.int x3), .val (.int (3 : Int32)), .val (.long la), .second, .val (.long ua), .second, .val (.long lb), .second, .val (.long ub), .second, .val (.long lc), .second, .val (.long uc), .second, .val (.long ld), .second, .val (.long ud), .second, .val (.long uc), .second, .val (.long ((la - (256 : Int64)) + ((x3 &&& (4095 : Int32)).toInt64))), .second, .val (.int cp), .unset, .unset, .unset, .unset, .unset] [(.ref b91)]))
  refine Es.astore (q := 339) (l' := #[.val (.int x0), .val (.long x1), .second, .val (.int x2), .val (.int x3), .val (.int (3 : Int32)), .val (.long la), .second, .val (.long ua), .second, .val (.long lb), .second, .val (.long ub), .second, .val (.long lc), .second, .val (.long uc), .second, .val (.long ld), .second, .val (.long ud), .second, .val (.long uc), .second, .val (.long ((la - (256 : Int64)) + ((x3 &&& (4095 : Int32)).toInt64))), .second, .val (.int cp), .val (.ref b91), .unset, .unset, .unset, .unset]) ?_ X113 hx (hb hby at_337) rfl rfl rfl
  refine Es.goto (q := 398) ?_ X113 hx (hb hby at_339) (by decide) (by decide)
  obtain ⟨T117, h117, X117, e117, E117, A117, D117, -, st117⟩ := newO X113 hx hZ hown (hw _ (List.mem_of_getElem? (i := 4) rfl)) (hw _ (List.mem_of_getElem? (i := 5) rfl)) (hw _ (List.mem_of_getElem? (i := 6) rfl)) e113 (g := (mkF m 398 #[.val (.int x0), .val (.long x1), .second, .val (.int x2), .val (.int x3), .val (.int (3 : Int32)), .val (.long la), .second, .val (.long ua), .second, .val (.long lb), .second, .val (.long ub), .second, .val (.long lc), .second, .val (.long uc), .second, .val (.long ld), .second, .val (.long ud), .second, .val (.long uc), .second, .val (.long ((la - (256 : Int64)) + ((x3 &&& (4095 : Int32)).toInt64))), .second, .val (.int cp), .val (.ref b91), .unset, .unset, .unset, .unset] [])) rfl (hb hby at_398) (by decide) (by decide)
  obtain ⟨b117, g117⟩ : ∃ z, z = h113.size := ⟨_, rfl⟩
  rw [← g117] at A117 D117 st117
  have ne118 : b91 ≠ b117 := Nat.ne_of_lt (Nat.lt_of_lt_of_le V113.lt (Nat.le_of_eq g117.symm))
  have gn117 : n0 ≤ b117 := Nat.le_trans Zs116 (Nat.le_of_eq g117.symm)
  have f119 := V113.ext E117
  have f120 := Exa.ext E117 f115
  have F117_bounds : Fld Z h117 b117 "com/example/tagwright/tagwright/model/CodePointSet" "bounds" "[I" .null := D117 (Or.inr (hw _ (List.mem_of_getElem? (i := 23) rfl))) (ty := (.array .int)) (by decide)
  have Zs121 : n0 ≤ h117.size := Nat.le_trans Zs116 E117.1
  refine Ends.by ?_ st117
  show Ends p e below s _ _ _ (T117.setTop (mkF m 401 #[.val (.int x0), .val (.long x1), .second, .val (.int x2), .val (.int x3), .val (.int (3 : Int32)), .val (.long la), .second, .val (.long ua), .second, .val (.long lb), .second, .val (.long ub), .second, .val (.long lc), .second, .val (.long uc), .second, .val (.long ld), .second, .val (.long ud), .second, .val (.long uc), .second, .val (.long ((la - (256 : Int64)) + ((x3 &&& (4095 : Int32)).toInt64))), .second, .val (.int cp), .val (.ref b91), .unset, .unset, .unset, .unset] [(.ref b117)]))
  refine Es.dup (q := 402) ?_ X117 hx (hb hby at_401) rfl rfl
  refine Es.aload (q := 404) ?_ X117 hx (hb hby at_402) rfl rfl rfl
  obtain ⟨v122, _, ⟨T122, L122, k122, n122⟩, -, X122, ⟨Lc122, hQ122, l122, y122, z122⟩, st122⟩ := X117.specialBack hx (y := (⟨"com/example/tagwright/tagwright/model/CodePointSet", "<init>", "([I)V"⟩ : MethodName)) rfl hown (mvT hZ (hw _ (List.mem_of_getElem? (i := 7) rfl))) (mvT hZ (hw _ (List.mem_of_getElem? (i := 8) rfl))) (mvT hZ (hw _ (List.mem_of_getElem? (i := 9) rfl))) (by decide) (backOf (W := 1) (rm1 l Z a0 hw [] b117 b91 6 (upd (upd (upd (upd (upd (upd (fun _ => (0 : Int32)) 0 (la.toInt32)) 1 (ua.toInt32)) 2 (lb.toInt32)) 3 (ub.toInt32)) 4 (lc.toInt32)) 5 (uc.toInt32)) h117 n0 Zs121 A117 F117_bounds f119 f120 ne118 gn117 (by decide)) hZ (hw _ (List.mem_of_getElem? (i := 9) rfl)) (hw _ (List.mem_of_getElem? (i := 6) rfl)) (by decide) (by decide)) (g := (mkF m 404 #[.val (.int x0), .val (.long x1), .second, .val (.int x2), .val (.int x3), .val (.int (3 : Int32)), .val (.long la), .second, .val (.long ua), .second, .val (.long lb), .second, .val (.long ub), .second, .val (.long lc), .second, .val (.long uc), .second, .val (.long ld), .second, .val (.long ud), .second, .val (.long uc), .second, .val (.long ((la - (256 : Int64)) + ((x3 &&& (4095 : Int32)).toInt64))), .second, .val (.int cp), .val (.ref b91), .unset, .unset, .unset, .unset] [(.ref b91), (.ref b117), (.ref b117)])) rfl (by rw [hml]; rfl) (Steps.refl _) (a := b117) (argsL := [(.ref b91)]) (rest := [(.ref b117)]) (lenOf pd_0 rfl) rfl (by show 2 * 0 + _ ≤ _; exact Nat.le_of_eq rfl) (hb hby at_404) (fun _ _ => ⟨rfl, e117, (by decide : 2 + 1 ≤ _), (by decide : 7 + 8 ≤ _)⟩)
  dsimp only [Pt.U, Pt.locs, Pt.cells, Pt.slots] at X122 l122 y122 z122 st122 hQ122
  subst l122 y122 z122
  obtain ⟨rfl, N122q, K122, Ex122, bb, Fa122, Va122⟩ := hQ122
  have N122 := Fr.app N113 N122q
  have f123 := A117.keep K122
  have Zs125 : n0 ≤ T122.heap.size := Nat.le_trans Zs121 K122.1
  refine Ends.go st122 ?_
  show Ends p e below s _ _ _ (T122.setTop (mkF m 407 #[.val (.int x0), .val (.long x1), .second, .val (.int x2), .val (.int x3), .val (.int (3 : Int32)), .val (.long la), .second, .val (.long ua), .second, .val (.long lb), .second, .val (.long ub), .second, .val (.long lc), .second, .val (.long uc), .second, .val (.long ld), .second, .val (.long ud), .second, .val (.long uc), .second, .val (.long ((la - (256 : Int64)) + ((x3 &&& (4095 : Int32)).toInt64))), .second, .val (.int cp), .val (.ref b91), .unset, .unset, .unset, .unset] [(.ref b117)]))
  refine Es.astore (q := 409) (l' := #[.val (.int x0), .val (.long x1), .second, .val (.int x2), .val (.int x3), .val (.int (3 : Int32)), .val (.long la), .second, .val (.long ua), .second, .val (.long lb), .second, .val (.long ub), .second, .val (.long lc), .second, .val (.long uc), .second, .val (.long ld), .second, .val (.long ud), .second, .val (.long uc), .second, .val (.long ((la - (256 : Int64)) + ((x3 &&& (4095 : Int32)).toInt64))), .second, .val (.int cp), .val (.ref b91), .val (.ref b117), .unset, .unset, .unset]) ?_ X122 hx (hb hby at_407) rfl rfl rfl
  refine Es.iload (q := 411) ?_ X122 hx (hb hby at_409) rfl rfl
  refine Es.i2l (q := 412) ?_ X122 hx (hb hby at_411) rfl
  refine Es.lstore (q := 414) (l' := #[.val (.int x0), .val (.long x1), .second, .val (.int x2), .val (.int x3), .val (.int (3 : Int32)), .val (.long la), .second, .val (.long ua), .second, .val (.long lb), .second, .val (.long ub), .second, .val (.long lc), .second, .val (.long uc), .second, .val (.long ld), .second, .val (.long ud), .second, .val (.long uc), .second, .val (.long ((la - (256 : Int64)) + ((x3 &&& (4095 : Int32)).toInt64))), .second, .val (.int cp), .val (.ref b91), .val (.ref b117), .val (.long (cp.toInt64)), .second, .unset]) ?_ X122 hx (hb hby at_412) rfl rfl
  refine Es.iload (q := 416) ?_ X122 hx (hb hby at_414) rfl rfl
  refine Es.iconst (q := 417) (z := (1 : Int32)) ?_ X122 hx (hb hby at_416) rfl rfl
  refine Es.icmpNo (q := 420) ?_ X122 hx (hb hby at_417) rfl (XT.ii_lt_f (by decide))
  refine Es.lload (q := 422) ?_ X122 hx (hb hby at_420) rfl rfl
  refine Es.lload (q := 424) ?_ X122 hx (hb hby at_422) rfl rfl
  refine Es.lcmp (q := 425) ?_ X122 hx (hb hby at_424) rfl
  by_cases hc126 : (cp.toInt64) < la
  · refine Es.ifYes (q := 436) ?_ X122 hx (hb hby at_425) (XT.ll_gt_t hc126) (by decide) (by decide)
    refine Es.iload (q := 438) ?_ X122 hx (hb hby at_436) rfl rfl
    refine Es.iconst (q := 439) (z := (2 : Int32)) ?_ X122 hx (hb hby at_438) rfl rfl
    refine Es.icmpNo (q := 442) ?_ X122 hx (hb hby at_439) rfl (XT.ii_lt_f (by decide))
    refine Es.lload (q := 444) ?_ X122 hx (hb hby at_442) rfl rfl
    refine Es.lload (q := 446) ?_ X122 hx (hb hby at_444) rfl rfl
    refine Es.lcmp (q := 447) ?_ X122 hx (hb hby at_446) rfl
    by_cases hc127 : (cp.toInt64) < lb
    · refine Es.ifYes (q := 458) ?_ X122 hx (hb hby at_447) (XT.ll_gt_t hc127) (by decide) (by decide)
      refine Es.iload (q := 460) ?_ X122 hx (hb hby at_458) rfl rfl
      refine Es.iconst (q := 461) (z := (3 : Int32)) ?_ X122 hx (hb hby at_460) rfl rfl
      refine Es.icmpNo (q := 464) ?_ X122 hx (hb hby at_461) rfl (XT.ii_lt_f (by decide))
      refine Es.lload (q := 466) ?_ X122 hx (hb hby at_464) rfl rfl
      refine Es.lload (q := 468) ?_ X122 hx (hb hby at_466) rfl rfl
      refine Es.lcmp (q := 469) ?_ X122 hx (hb hby at_468) rfl
      by_cases hc128 : (cp.toInt64) < lc
      · refine Es.ifYes (q := 480) ?_ X122 hx (hb hby at_469) (XT.ll_gt_t hc128) (by decide) (by decide)
        refine Es.iload (q := 482) ?_ X122 hx (hb hby at_480) rfl rfl
        refine Es.iconst (q := 483) (z := (4 : Int32)) ?_ X122 hx (hb hby at_482) rfl rfl
        refine Es.icmpYes (q := 506) ?_ X122 hx (hb hby at_483) (XT.ii_lt_t (by decide)) (by decide) (by decide)
        refine Es.iconst (q := 507) (z := (0 : Int32)) ?_ X122 hx (hb hby at_506) rfl rfl
        refine Es.istore (q := 509) (l' := #[.val (.int x0), .val (.long x1), .second, .val (.int x2), .val (.int x3), .val (.int (3 : Int32)), .val (.long la), .second, .val (.long ua), .second, .val (.long lb), .second, .val (.long ub), .second, .val (.long lc), .second, .val (.long uc), .second, .val (.long ld), .second, .val (.long ud), .second, .val (.long uc), .second, .val (.long ((la - (256 : Int64)) + ((x3 &&& (4095 : Int32)).toInt64))), .second, .val (.int cp), .val (.ref b91), .val (.ref b117), .val (.long (cp.toInt64)), .second, .val (.int (0 : Int32))]) ?_ X122 hx (hb hby at_507) rfl rfl
        refine Es.aload (q := 511) ?_ X122 hx (hb hby at_509) rfl rfl rfl
        refine Es.iload (q := 513) ?_ X122 hx (hb hby at_511) rfl rfl
        obtain ⟨cq129, kq129, q129a, q129b, q129c⟩ := isOf hZ rfl Ex122
        obtain ⟨v129, _, ⟨T129, L129, k129, n129⟩, -, X129, ⟨Lc129, hQ129, l129, y129, z129⟩, st129⟩ := X122.virtualBack hx (y := (⟨"com/example/tagwright/tagwright/model/CodePointSet", "contains", "(I)Z"⟩ : MethodName)) (z := (⟨"com/example/tagwright/tagwright/model/CodePointSet", "contains", "(I)Z"⟩ : MethodName)) hown (mvT hZ (hw _ (List.mem_of_getElem? (i := 24) rfl))) (mvT hZ (hw _ (List.mem_of_getElem? (i := 25) rfl))) (notFace_of_selects (args := #[]) (mvT hZ (hw _ (List.mem_of_getElem? (i := 27) rfl)))) (mvT hZ (hw _ (List.mem_of_getElem? (i := 27) rfl))) (mvT hZ (hw _ (List.mem_of_getElem? (i := 26) rfl))) (by decide) (backOf (W := 0) (rmC3 l Z a0 hw [] b117 cp bb (upd (upd (upd (upd (upd (upd (fun _ => (0 : Int32)) 0 (la.toInt32)) 1 (ua.toInt32)) 2 (lb.toInt32)) 3 (ub.toInt32)) 4 (lc.toInt32)) 5 (uc.toInt32)) T122.heap n0 Zs125 Fa122 Va122) hZ (hw _ (List.mem_of_getElem? (i := 28) rfl)) (hw _ (List.mem_of_getElem? (i := 6) rfl)) (by decide) (by decide)) q129a q129c (g := (mkF m 513 #[.val (.int x0), .val (.long x1), .second, .val (.int x2), .val (.int x3), .val (.int (3 : Int32)), .val (.long la), .second, .val (.long ua), .second, .val (.long lb), .second, .val (.long ub), .second, .val (.long lc), .second, .val (.long uc), .second, .val (.long ld), .second, .val (.long ud), .second, .val (.long uc), .second, .val (.long ((la - (256 : Int64)) + ((x3 &&& (4095 : Int32)).toInt64))), .second, .val (.int cp), .val (.ref b91), .val (.ref b117), .val (.long (cp.toInt64)), .second, .val (.int (0 : Int32))] [(.int cp), (.ref b117)])) rfl (by rw [hml]; rfl) (Steps.refl _) (argsL := [(.int cp)]) (rest := []) (lenOf pd_1 rfl) rfl (by show 2 * 0 + _ ≤ _; exact Nat.le_of_eq rfl) (hb hby at_513) (fun _ _ => ⟨rfl, rfl, (by decide : 3 + 0 ≤ _), (by decide : 15 + 0 ≤ _)⟩)
        dsimp only [Pt.U, Pt.locs, Pt.cells, Pt.slots] at X129 l129 y129 z129 st129 hQ129
        subst l129 y129 z129
        obtain ⟨rfl, N129q, e129⟩ := hQ129
        have N129 := Fr.app N122 N129q
        refine Ends.go st129 ?_
        show Ends p e below s _ _ _ (T129.setTop (mkF m 516 #[.val (.int x0), .val (.long x1), .second, .val (.int x2), .val (.int x3), .val (.int (3 : Int32)), .val (.long la), .second, .val (.long ua), .second, .val (.long lb), .second, .val (.long ub), .second, .val (.long lc), .second, .val (.long uc), .second, .val (.long ld), .second, .val (.long ud), .second, .val (.long uc), .second, .val (.long ((la - (256 : Int64)) + ((x3 &&& (4095 : Int32)).toInt64))), .second, .val (.int cp), .val (.ref b91), .val (.ref b117), .val (.long (cp.toInt64)), .second, .val (.int (0 : Int32))] [(.int (fC3 b117 cp bb (upd (upd (upd (upd (upd (upd (fun _ => (0 : Int32)) 0 (la.toInt32)) 1 (ua.toInt32)) 2 (lb.toInt32)) 3 (ub.toInt32)) 4 (lc.toInt32)) 5 (uc.toInt32))))]))
        refine Es.iload (q := 518) ?_ X129 hx (hb hby at_516) rfl rfl
        refine Es.icmpNo (q := 521) ?_ X129 hx (hb hby at_518) rfl (XT.ii_ne_f ((own_c3 (la := la) (ua := ua) (lb := lb) (ub := ub) (lc := lc) (uc := uc) rfl rfl rfl rfl rfl rfl o0 o1 o2 p0 p1 r0 r1).trans (if_neg (by have t0 := hc126; rw [Int64.lt_iff_toInt_lt, c_i2l] at t0; have t1 := hc127; rw [Int64.lt_iff_toInt_lt, c_i2l] at t1; have t2 := hc128; rw [Int64.lt_iff_toInt_lt, c_i2l] at t2; omega)) : (fC3 b117 cp bb (upd (upd (upd (upd (upd (upd (fun _ => (0 : Int32)) 0 (la.toInt32)) 1 (ua.toInt32)) 2 (lb.toInt32)) 3 (ub.toInt32)) 4 (lc.toInt32)) 5 (uc.toInt32))) = (0 : Int32)))
        refine Es.iconst (q := 522) (z := (1 : Int32)) ?_ X129 hx (hb hby at_521) rfl rfl
        refine Es.goto (q := 526) ?_ X129 hx (hb hby at_522) (by decide) (by decide)
        exact Ends.retN X129 hx hlk hret (t := .boolean) (by simp) (hb hby at_526) (w := 1) rfl ⟨rfl, N129⟩ (by decide) (by decide)
      · refine Es.ifNo (q := 472) ?_ X122 hx (hb hby at_469) rfl (XT.ll_gt_f hc128)
        refine Es.lload (q := 474) ?_ X122 hx (hb hby at_472) rfl rfl
        refine Es.lload (q := 476) ?_ X122 hx (hb hby at_474) rfl rfl
        refine Es.lcmp (q := 477) ?_ X122 hx (hb hby at_476) rfl
        by_cases hc130 : uc < (cp.toInt64)
        · refine Es.ifNo (q := 480) ?_ X122 hx (hb hby at_477) rfl (XT.ll_le_f hc130)
          refine Es.iload (q := 482) ?_ X122 hx (hb hby at_480) rfl rfl
          refine Es.iconst (q := 483) (z := (4 : Int32)) ?_ X122 hx (hb hby at_482) rfl rfl
          refine Es.icmpYes (q := 506) ?_ X122 hx (hb hby at_483) (XT.ii_lt_t (by decide)) (by decide) (by decide)
          refine Es.iconst (q := 507) (z := (0 : Int32)) ?_ X122 hx (hb hby at_506) rfl rfl
          refine Es.istore (q := 509) (l' := #[.val (.int x0), .val (.long x1), .second, .val (.int x2), .val (.int x3), .val (.int (3 : Int32)), .val (.long la), .second, .val (.long ua), .second, .val (.long lb), .second, .val (.long ub), .second, .val (.long lc), .second, .val (.long uc), .second, .val (.long ld), .second, .val (.long ud), .second, .val (.long uc), .second, .val (.long ((la - (256 : Int64)) + ((x3 &&& (4095 : Int32)).toInt64))), .second, .val (.int cp), .val (.ref b91), .val (.ref b117), .val (.long (cp.toInt64)), .second, .val (.int (0 : Int32))]) ?_ X122 hx (hb hby at_507) rfl rfl
          refine Es.aload (q := 511) ?_ X122 hx (hb hby at_509) rfl rfl rfl
          refine Es.iload (q := 513) ?_ X122 hx (hb hby at_511) rfl rfl
          obtain ⟨cq131, kq131, q131a, q131b, q131c⟩ := isOf hZ rfl Ex122
          obtain ⟨v131, _, ⟨T131, L131, k131, n131⟩, -, X131, ⟨Lc131, hQ131, l131, y131, z131⟩, st131⟩ := X122.virtualBack hx (y := (⟨"com/example/tagwright/tagwright/model/CodePointSet", "contains", "(I)Z"⟩ : MethodName)) (z := (⟨"com/example/tagwright/tagwright/model/CodePointSet", "contains", "(I)Z"⟩ : MethodName)) hown (mvT hZ (hw _ (List.mem_of_getElem? (i := 24) rfl))) (mvT hZ (hw _ (List.mem_of_getElem? (i := 25) rfl))) (notFace_of_selects (args := #[]) (mvT hZ (hw _ (List.mem_of_getElem? (i := 27) rfl)))) (mvT hZ (hw _ (List.mem_of_getElem? (i := 27) rfl))) (mvT hZ (hw _ (List.mem_of_getElem? (i := 26) rfl))) (by decide) (backOf (W := 0) (rmC3 l Z a0 hw [] b117 cp bb (upd (upd (upd (upd (upd (upd (fun _ => (0 : Int32)) 0 (la.toInt32)) 1 (ua.toInt32)) 2 (lb.toInt32)) 3 (ub.toInt32)) 4 (lc.toInt32)) 5 (uc.toInt32)) T122.heap n0 Zs125 Fa122 Va122) hZ (hw _ (List.mem_of_getElem? (i := 28) rfl)) (hw _ (List.mem_of_getElem? (i := 6) rfl)) (by decide) (by decide)) q131a q131c (g := (mkF m 513 #[.val (.int x0), .val (.long x1), .second, .val (.int x2), .val (.int x3), .val (.int (3 : Int32)), .val (.long la), .second, .val (.long ua), .second, .val (.long lb), .second, .val (.long ub), .second, .val (.long lc), .second, .val (.long uc), .second, .val (.long ld), .second, .val (.long ud), .second, .val (.long uc), .second, .val (.long ((la - (256 : Int64)) + ((x3 &&& (4095 : Int32)).toInt64))), .second, .val (.int cp), .val (.ref b91), .val (.ref b117), .val (.long (cp.toInt64)), .second, .val (.int (0 : Int32))] [(.int cp), (.ref b117)])) rfl (by rw [hml]; rfl) (Steps.refl _) (argsL := [(.int cp)]) (rest := []) (lenOf pd_1 rfl) rfl (by show 2 * 0 + _ ≤ _; exact Nat.le_of_eq rfl) (hb hby at_513) (fun _ _ => ⟨rfl, rfl, (by decide : 3 + 0 ≤ _), (by decide : 15 + 0 ≤ _)⟩)
          dsimp only [Pt.U, Pt.locs, Pt.cells, Pt.slots] at X131 l131 y131 z131 st131 hQ131
          subst l131 y131 z131
          obtain ⟨rfl, N131q, e131⟩ := hQ131
          have N131 := Fr.app N122 N131q
          refine Ends.go st131 ?_
          show Ends p e below s _ _ _ (T131.setTop (mkF m 516 #[.val (.int x0), .val (.long x1), .second, .val (.int x2), .val (.int x3), .val (.int (3 : Int32)), .val (.long la), .second, .val (.long ua), .second, .val (.long lb), .second, .val (.long ub), .second, .val (.long lc), .second, .val (.long uc), .second, .val (.long ld), .second, .val (.long ud), .second, .val (.long uc), .second, .val (.long ((la - (256 : Int64)) + ((x3 &&& (4095 : Int32)).toInt64))), .second, .val (.int cp), .val (.ref b91), .val (.ref b117), .val (.long (cp.toInt64)), .second, .val (.int (0 : Int32))] [(.int (fC3 b117 cp bb (upd (upd (upd (upd (upd (upd (fun _ => (0 : Int32)) 0 (la.toInt32)) 1 (ua.toInt32)) 2 (lb.toInt32)) 3 (ub.toInt32)) 4 (lc.toInt32)) 5 (uc.toInt32))))]))
          refine Es.iload (q := 518) ?_ X131 hx (hb hby at_516) rfl rfl
          refine Es.icmpNo (q := 521) ?_ X131 hx (hb hby at_518) rfl (XT.ii_ne_f ((own_c3 (la := la) (ua := ua) (lb := lb) (ub := ub) (lc := lc) (uc := uc) rfl rfl rfl rfl rfl rfl o0 o1 o2 p0 p1 r0 r1).trans (if_neg (by have t0 := hc126; rw [Int64.lt_iff_toInt_lt, c_i2l] at t0; have t1 := hc127; rw [Int64.lt_iff_toInt_lt, c_i2l] at t1; have t2 := hc128; rw [Int64.lt_iff_toInt_lt, c_i2l] at t2; have t3 := hc130; rw [Int64.lt_iff_toInt_lt, c_i2l] at t3; omega)) : (fC3 b117 cp bb (upd (upd (upd (upd (upd (upd (fun _ => (0 : Int32)) 0 (la.toInt32)) 1 (ua.toInt32)) 2 (lb.toInt32)) 3 (ub.toInt32)) 4 (lc.toInt32)) 5 (uc.toInt32))) = (0 : Int32)))
          refine Es.iconst (q := 522) (z := (1 : Int32)) ?_ X131 hx (hb hby at_521) rfl rfl
          refine Es.goto (q := 526) ?_ X131 hx (hb hby at_522) (by decide) (by decide)
          exact Ends.retN X131 hx hlk hret (t := .boolean) (by simp) (hb hby at_526) (w := 1) rfl ⟨rfl, N131⟩ (by decide) (by decide)
        · refine Es.ifYes (q := 502) ?_ X122 hx (hb hby at_477) (XT.ll_le_t hc130) (by decide) (by decide)
          refine Es.iconst (q := 503) (z := (1 : Int32)) ?_ X122 hx (hb hby at_502) rfl rfl
          refine Es.goto (q := 507) ?_ X122 hx (hb hby at_503) (by decide) (by decide)
          refine Es.istore (q := 509) (l' := #[.val (.int x0), .val (.long x1), .second, .val (.int x2), .val (.int x3), .val (.int (3 : Int32)), .val (.long la), .second, .val (.long ua), .second, .val (.long lb), .second, .val (.long ub), .second, .val (.long lc), .second, .val (.long uc), .second, .val (.long ld), .second, .val (.long ud), .second, .val (.long uc), .second, .val (.long ((la - (256 : Int64)) + ((x3 &&& (4095 : Int32)).toInt64))), .second, .val (.int cp), .val (.ref b91), .val (.ref b117), .val (.long (cp.toInt64)), .second, .val (.int (1 : Int32))]) ?_ X122 hx (hb hby at_507) rfl rfl
          refine Es.aload (q := 511) ?_ X122 hx (hb hby at_509) rfl rfl rfl
          refine Es.iload (q := 513) ?_ X122 hx (hb hby at_511) rfl rfl
          obtain ⟨cq132, kq132, q132a, q132b, q132c⟩ := isOf hZ rfl Ex122
          obtain ⟨v132, _, ⟨T132, L132, k132, n132⟩, -, X132, ⟨Lc132, hQ132, l132, y132, z132⟩, st132⟩ := X122.virtualBack hx (y := (⟨"com/example/tagwright/tagwright/model/CodePointSet", "contains", "(I)Z"⟩ : MethodName)) (z := (⟨"com/example/tagwright/tagwright/model/CodePointSet", "contains", "(I)Z"⟩ : MethodName)) hown (mvT hZ (hw _ (List.mem_of_getElem? (i := 24) rfl))) (mvT hZ (hw _ (List.mem_of_getElem? (i := 25) rfl))) (notFace_of_selects (args := #[]) (mvT hZ (hw _ (List.mem_of_getElem? (i := 27) rfl)))) (mvT hZ (hw _ (List.mem_of_getElem? (i := 27) rfl))) (mvT hZ (hw _ (List.mem_of_getElem? (i := 26) rfl))) (by decide) (backOf (W := 0) (rmC3 l Z a0 hw [] b117 cp bb (upd (upd (upd (upd (upd (upd (fun _ => (0 : Int32)) 0 (la.toInt32)) 1 (ua.toInt32)) 2 (lb.toInt32)) 3 (ub.toInt32)) 4 (lc.toInt32)) 5 (uc.toInt32)) T122.heap n0 Zs125 Fa122 Va122) hZ (hw _ (List.mem_of_getElem? (i := 28) rfl)) (hw _ (List.mem_of_getElem? (i := 6) rfl)) (by decide) (by decide)) q132a q132c (g := (mkF m 513 #[.val (.int x0), .val (.long x1), .second, .val (.int x2), .val (.int x3), .val (.int (3 : Int32)), .val (.long la), .second, .val (.long ua), .second, .val (.long lb), .second, .val (.long ub), .second, .val (.long lc), .second, .val (.long uc), .second, .val (.long ld), .second, .val (.long ud), .second, .val (.long uc), .second, .val (.long ((la - (256 : Int64)) + ((x3 &&& (4095 : Int32)).toInt64))), .second, .val (.int cp), .val (.ref b91), .val (.ref b117), .val (.long (cp.toInt64)), .second, .val (.int (1 : Int32))] [(.int cp), (.ref b117)])) rfl (by rw [hml]; rfl) (Steps.refl _) (argsL := [(.int cp)]) (rest := []) (lenOf pd_1 rfl) rfl (by show 2 * 0 + _ ≤ _; exact Nat.le_of_eq rfl) (hb hby at_513) (fun _ _ => ⟨rfl, rfl, (by decide : 3 + 0 ≤ _), (by decide : 15 + 0 ≤ _)⟩)
          dsimp only [Pt.U, Pt.locs, Pt.cells, Pt.slots] at X132 l132 y132 z132 st132 hQ132
          subst l132 y132 z132
          obtain ⟨rfl, N132q, e132⟩ := hQ132
          have N132 := Fr.app N122 N132q
          refine Ends.go st132 ?_
          show Ends p e below s _ _ _ (T132.setTop (mkF m 516 #[.val (.int x0), .val (.long x1), .second, .val (.int x2), .val (.int x3), .val (.int (3 : Int32)), .val (.long la), .second, .val (.long ua), .second, .val (.long lb), .second, .val (.long ub), .second, .val (.long lc), .second, .val (.long uc), .second, .val (.long ld), .second, .val (.long ud), .second, .val (.long uc), .second, .val (.long ((la - (256 : Int64)) + ((x3 &&& (4095 : Int32)).toInt64))), .second, .val (.int cp), .val (.ref b91), .val (.ref b117), .val (.long (cp.toInt64)), .second, .val (.int (1 : Int32))] [(.int (fC3 b117 cp bb (upd (upd (upd (upd (upd (upd (fun _ => (0 : Int32)) 0 (la.toInt32)) 1 (ua.toInt32)) 2 (lb.toInt32)) 3 (ub.toInt32)) 4 (lc.toInt32)) 5 (uc.toInt32))))]))
          refine Es.iload (q := 518) ?_ X132 hx (hb hby at_516) rfl rfl
          refine Es.icmpNo (q := 521) ?_ X132 hx (hb hby at_518) rfl (XT.ii_ne_f ((own_c3 (la := la) (ua := ua) (lb := lb) (ub := ub) (lc := lc) (uc := uc) rfl rfl rfl rfl rfl rfl o0 o1 o2 p0 p1 r0 r1).trans (if_pos (by have t0 := hc126; rw [Int64.lt_iff_toInt_lt, c_i2l] at t0; have t1 := hc127; rw [Int64.lt_iff_toInt_lt, c_i2l] at t1; have t2 := hc128; rw [Int64.lt_iff_toInt_lt, c_i2l] at t2; have t3 := hc130; rw [Int64.lt_iff_toInt_lt, c_i2l] at t3; omega)) : (fC3 b117 cp bb (upd (upd (upd (upd (upd (upd (fun _ => (0 : Int32)) 0 (la.toInt32)) 1 (ua.toInt32)) 2 (lb.toInt32)) 3 (ub.toInt32)) 4 (lc.toInt32)) 5 (uc.toInt32))) = (1 : Int32)))
          refine Es.iconst (q := 522) (z := (1 : Int32)) ?_ X132 hx (hb hby at_521) rfl rfl
          refine Es.goto (q := 526) ?_ X132 hx (hb hby at_522) (by decide) (by decide)
          exact Ends.retN X132 hx hlk hret (t := .boolean) (by simp) (hb hby at_526) (w := 1) rfl ⟨rfl, N132⟩ (by decide) (by decide)
    · refine Es.ifNo (q := 450) ?_ X122 hx (hb hby at_447) rfl (XT.ll_gt_f hc127)
      refine Es.lload (q := 452) ?_ X122 hx (hb hby at_450) rfl rfl
      refine Es.lload (q := 454) ?_ X122 hx (hb hby at_452) rfl rfl
      refine Es.lcmp (q := 455) ?_ X122 hx (hb hby at_454) rfl
      by_cases hc133 : ub < (cp.toInt64)
      · refine Es.ifNo (q := 458) ?_ X122 hx (hb hby at_455) rfl (XT.ll_le_f hc133)
        refine Es.iload (q := 460) ?_ X122 hx (hb hby at_458) rfl rfl
        refine Es.iconst (q := 461) (z := (3 : Int32)) ?_ X122 hx (hb hby at_460) rfl rfl
        refine Es.icmpNo (q := 464) ?_ X122 hx (hb hby at_461) rfl (XT.ii_lt_f (by decide))
        refine Es.lload (q := 466) ?_ X122 hx (hb hby at_464) rfl rfl
        refine Es.lload (q := 468) ?_ X122 hx (hb hby at_466) rfl rfl
        refine Es.lcmp (q := 469) ?_ X122 hx (hb hby at_468) rfl
        by_cases hc134 : (cp.toInt64) < lc
        · refine Es.ifYes (q := 480) ?_ X122 hx (hb hby at_469) (XT.ll_gt_t hc134) (by decide) (by decide)
          refine Es.iload (q := 482) ?_ X122 hx (hb hby at_480) rfl rfl
          refine Es.iconst (q := 483) (z := (4 : Int32)) ?_ X122 hx (hb hby at_482) rfl rfl
          refine Es.icmpYes (q := 506) ?_ X122 hx (hb hby at_483) (XT.ii_lt_t (by decide)) (by decide) (by decide)
          refine Es.iconst (q := 507) (z := (0 : Int32)) ?_ X122 hx (hb hby at_506) rfl rfl
          refine Es.istore (q := 509) (l' := #[.val (.int x0), .val (.long x1), .second, .val (.int x2), .val (.int x3), .val (.int (3 : Int32)), .val (.long la), .second, .val (.long ua), .second, .val (.long lb), .second, .val (.long ub), .second, .val (.long lc), .second, .val (.long uc), .second, .val (.long ld), .second, .val (.long ud), .second, .val (.long uc), .second, .val (.long ((la - (256 : Int64)) + ((x3 &&& (4095 : Int32)).toInt64))), .second, .val (.int cp), .val (.ref b91), .val (.ref b117), .val (.long (cp.toInt64)), .second, .val (.int (0 : Int32))]) ?_ X122 hx (hb hby at_507) rfl rfl
          refine Es.aload (q := 511) ?_ X122 hx (hb hby at_509) rfl rfl rfl
          refine Es.iload (q := 513) ?_ X122 hx (hb hby at_511) rfl rfl
          obtain ⟨cq135, kq135, q135a, q135b, q135c⟩ := isOf hZ rfl Ex122
          obtain ⟨v135, _, ⟨T135, L135, k135, n135⟩, -, X135, ⟨Lc135, hQ135, l135, y135, z135⟩, st135⟩ := X122.virtualBack hx (y := (⟨"com/example/tagwright/tagwright/model/CodePointSet", "contains", "(I)Z"⟩ : MethodName)) (z := (⟨"com/example/tagwright/tagwright/model/CodePointSet", "contains", "(I)Z"⟩ : MethodName)) hown (mvT hZ (hw _ (List.mem_of_getElem? (i := 24) rfl))) (mvT hZ (hw _ (List.mem_of_getElem? (i := 25) rfl))) (notFace_of_selects (args := #[]) (mvT hZ (hw _ (List.mem_of_getElem? (i := 27) rfl)))) (mvT hZ (hw _ (List.mem_of_getElem? (i := 27) rfl))) (mvT hZ (hw _ (List.mem_of_getElem? (i := 26) rfl))) (by decide) (backOf (W := 0) (rmC3 l Z a0 hw [] b117 cp bb (upd (upd (upd (upd (upd (upd (fun _ => (0 : Int32)) 0 (la.toInt32)) 1 (ua.toInt32)) 2 (lb.toInt32)) 3 (ub.toInt32)) 4 (lc.toInt32)) 5 (uc.toInt32)) T122.heap n0 Zs125 Fa122 Va122) hZ (hw _ (List.mem_of_getElem? (i := 28) rfl)) (hw _ (List.mem_of_getElem? (i := 6) rfl)) (by decide) (by decide)) q135a q135c (g := (mkF m 513 #[.val (.int x0), .val (.long x1), .second, .val (.int x2), .val (.int x3), .val (.int (3 : Int32)), .val (.long la), .second, .val (.long ua), .second, .val (.long lb), .second, .val (.long ub), .second, .val (.long lc), .second, .val (.long uc), .second, .val (.long ld), .second, .val (.long ud), .second, .val (.long uc), .second, .val (.long ((la - (256 : Int64)) + ((x3 &&& (4095 : Int32)).toInt64))), .second, .val (.int cp), .val (.ref b91), .val (.ref b117), .val (.long (cp.toInt64)), .second, .val (.int (0 : Int32))] [(.int cp), (.ref b117)])) rfl (by rw [hml]; rfl) (Steps.refl _) (argsL := [(.int cp)]) (rest := []) (lenOf pd_1 rfl) rfl (by show 2 * 0 + _ ≤ _; exact Nat.le_of_eq rfl) (hb hby at_513) (fun _ _ => ⟨rfl, rfl, (by decide : 3 + 0 ≤ _), (by decide : 15 + 0 ≤ _)⟩)
          dsimp only [Pt.U, Pt.locs, Pt.cells, Pt.slots] at X135 l135 y135 z135 st135 hQ135
          subst l135 y135 z135
          obtain ⟨rfl, N135q, e135⟩ := hQ135
          have N135 := Fr.app N122 N135q
          refine Ends.go st135 ?_
          show Ends p e below s _ _ _ (T135.setTop (mkF m 516 #[.val (.int x0), .val (.long x1), .second, .val (.int x2), .val (.int x3), .val (.int (3 : Int32)), .val (.long la), .second, .val (.long ua), .second, .val (.long lb), .second, .val (.long ub), .second, .val (.long lc), .second, .val (.long uc), .second, .val (.long ld), .second, .val (.long ud), .second, .val (.long uc), .second, .val (.long ((la - (256 : Int64)) + ((x3 &&& (4095 : Int32)).toInt64))), .second, .val (.int cp), .val (.ref b91), .val (.ref b117), .val (.long (cp.toInt64)), .second, .val (.int (0 : Int32))] [(.int (fC3 b117 cp bb (upd (upd (upd (upd (upd (upd (fun _ => (0 : Int32)) 0 (la.toInt32)) 1 (ua.toInt32)) 2 (lb.toInt32)) 3 (ub.toInt32)) 4 (lc.toInt32)) 5 (uc.toInt32))))]))
          refine Es.iload (q := 518) ?_ X135 hx (hb hby at_516) rfl rfl
          refine Es.icmpNo (q := 521) ?_ X135 hx (hb hby at_518) rfl (XT.ii_ne_f ((own_c3 (la := la) (ua := ua) (lb := lb) (ub := ub) (lc := lc) (uc := uc) rfl rfl rfl rfl rfl rfl o0 o1 o2 p0 p1 r0 r1).trans (if_neg (by have t0 := hc126; rw [Int64.lt_iff_toInt_lt, c_i2l] at t0; have t1 := hc127; rw [Int64.lt_iff_toInt_lt, c_i2l] at t1; have t2 := hc133; rw [Int64.lt_iff_toInt_lt, c_i2l] at t2; have t3 := hc134; rw [Int64.lt_iff_toInt_lt, c_i2l] at t3; omega)) : (fC3 b117 cp bb (upd (upd (upd (upd (upd (upd (fun _ => (0 : Int32)) 0 (la.toInt32)) 1 (ua.toInt32)) 2 (lb.toInt32)) 3 (ub.toInt32)) 4 (lc.toInt32)) 5 (uc.toInt32))) = (0 : Int32)))
          refine Es.iconst (q := 522) (z := (1 : Int32)) ?_ X135 hx (hb hby at_521) rfl rfl
          refine Es.goto (q := 526) ?_ X135 hx (hb hby at_522) (by decide) (by decide)
          exact Ends.retN X135 hx hlk hret (t := .boolean) (by simp) (hb hby at_526) (w := 1) rfl ⟨rfl, N135⟩ (by decide) (by decide)
        · refine Es.ifNo (q := 472) ?_ X122 hx (hb hby at_469) rfl (XT.ll_gt_f hc134)
          refine Es.lload (q := 474) ?_ X122 hx (hb hby at_472) rfl rfl
          refine Es.lload (q := 476) ?_ X122 hx (hb hby at_474) rfl rfl
          refine Es.lcmp (q := 477) ?_ X122 hx (hb hby at_476) rfl
          by_cases hc136 : uc < (cp.toInt64)
          · refine Es.ifNo (q := 480) ?_ X122 hx (hb hby at_477) rfl (XT.ll_le_f hc136)
            refine Es.iload (q := 482) ?_ X122 hx (hb hby at_480) rfl rfl
            refine Es.iconst (q := 483) (z := (4 : Int32)) ?_ X122 hx (hb hby at_482) rfl rfl
            refine Es.icmpYes (q := 506) ?_ X122 hx (hb hby at_483) (XT.ii_lt_t (by decide)) (by decide) (by decide)
            refine Es.iconst (q := 507) (z := (0 : Int32)) ?_ X122 hx (hb hby at_506) rfl rfl
            refine Es.istore (q := 509) (l' := #[.val (.int x0), .val (.long x1), .second, .val (.int x2), .val (.int x3), .val (.int (3 : Int32)), .val (.long la), .second, .val (.long ua), .second, .val (.long lb), .second, .val (.long ub), .second, .val (.long lc), .second, .val (.long uc), .second, .val (.long ld), .second, .val (.long ud), .second, .val (.long uc), .second, .val (.long ((la - (256 : Int64)) + ((x3 &&& (4095 : Int32)).toInt64))), .second, .val (.int cp), .val (.ref b91), .val (.ref b117), .val (.long (cp.toInt64)), .second, .val (.int (0 : Int32))]) ?_ X122 hx (hb hby at_507) rfl rfl
            refine Es.aload (q := 511) ?_ X122 hx (hb hby at_509) rfl rfl rfl
            refine Es.iload (q := 513) ?_ X122 hx (hb hby at_511) rfl rfl
            obtain ⟨cq137, kq137, q137a, q137b, q137c⟩ := isOf hZ rfl Ex122
            obtain ⟨v137, _, ⟨T137, L137, k137, n137⟩, -, X137, ⟨Lc137, hQ137, l137, y137, z137⟩, st137⟩ := X122.virtualBack hx (y := (⟨"com/example/tagwright/tagwright/model/CodePointSet", "contains", "(I)Z"⟩ : MethodName)) (z := (⟨"com/example/tagwright/tagwright/model/CodePointSet", "contains", "(I)Z"⟩ : MethodName)) hown (mvT hZ (hw _ (List.mem_of_getElem? (i := 24) rfl))) (mvT hZ (hw _ (List.mem_of_getElem? (i := 25) rfl))) (notFace_of_selects (args := #[]) (mvT hZ (hw _ (List.mem_of_getElem? (i := 27) rfl)))) (mvT hZ (hw _ (List.mem_of_getElem? (i := 27) rfl))) (mvT hZ (hw _ (List.mem_of_getElem? (i := 26) rfl))) (by decide) (backOf (W := 0) (rmC3 l Z a0 hw [] b117 cp bb (upd (upd (upd (upd (upd (upd (fun _ => (0 : Int32)) 0 (la.toInt32)) 1 (ua.toInt32)) 2 (lb.toInt32)) 3 (ub.toInt32)) 4 (lc.toInt32)) 5 (uc.toInt32)) T122.heap n0 Zs125 Fa122 Va122) hZ (hw _ (List.mem_of_getElem? (i := 28) rfl)) (hw _ (List.mem_of_getElem? (i := 6) rfl)) (by decide) (by decide)) q137a q137c (g := (mkF m 513 #[.val (.int x0), .val (.long x1), .second, .val (.int x2), .val (.int x3), .val (.int (3 : Int32)), .val (.long la), .second, .val (.long ua), .second, .val (.long lb), .second, .val (.long ub), .second, .val (.long lc), .second, .val (.long uc), .second, .val (.long ld), .second, .val (.long ud), .second, .val (.long uc), .second, .val (.long ((la - (256 : Int64)) + ((x3 &&& (4095 : Int32)).toInt64))), .second, .val (.int cp), .val (.ref b91), .val (.ref b117), .val (.long (cp.toInt64)), .second, .val (.int (0 : Int32))] [(.int cp), (.ref b117)])) rfl (by rw [hml]; rfl) (Steps.refl _) (argsL := [(.int cp)]) (rest := []) (lenOf pd_1 rfl) rfl (by show 2 * 0 + _ ≤ _; exact Nat.le_of_eq rfl) (hb hby at_513) (fun _ _ => ⟨rfl, rfl, (by decide : 3 + 0 ≤ _), (by decide : 15 + 0 ≤ _)⟩)
            dsimp only [Pt.U, Pt.locs, Pt.cells, Pt.slots] at X137 l137 y137 z137 st137 hQ137
            subst l137 y137 z137
            obtain ⟨rfl, N137q, e137⟩ := hQ137
            have N137 := Fr.app N122 N137q
            refine Ends.go st137 ?_
            show Ends p e below s _ _ _ (T137.setTop (mkF m 516 #[.val (.int x0), .val (.long x1), .second, .val (.int x2), .val (.int x3), .val (.int (3 : Int32)), .val (.long la), .second, .val (.long ua), .second, .val (.long lb), .second, .val (.long ub), .second, .val (.long lc), .second, .val (.long uc), .second, .val (.long ld), .second, .val (.long ud), .second, .val (.long uc), .second, .val (.long ((la - (256 : Int64)) + ((x3 &&& (4095 : Int32)).toInt64))), .second, .val (.int cp), .val (.ref b91), .val (.ref b117), .val (.long (cp.toInt64)), .second, .val (.int (0 : Int32))] [(.int (fC3 b117 cp bb (upd (upd (upd (upd (upd (upd (fun _ => (0 : Int32)) 0 (la.toInt32)) 1 (ua.toInt32)) 2 (lb.toInt32)) 3 (ub.toInt32)) 4 (lc.toInt32)) 5 (uc.toInt32))))]))
            refine Es.iload (q := 518) ?_ X137 hx (hb hby at_516) rfl rfl
            refine Es.icmpNo (q := 521) ?_ X137 hx (hb hby at_518) rfl (XT.ii_ne_f ((own_c3 (la := la) (ua := ua) (lb := lb) (ub := ub) (lc := lc) (uc := uc) rfl rfl rfl rfl rfl rfl o0 o1 o2 p0 p1 r0 r1).trans (if_neg (by have t0 := hc126; rw [Int64.lt_iff_toInt_lt, c_i2l] at t0; have t1 := hc127; rw [Int64.lt_iff_toInt_lt, c_i2l] at t1; have t2 := hc133; rw [Int64.lt_iff_toInt_lt, c_i2l] at t2; have t3 := hc134; rw [Int64.lt_iff_toInt_lt, c_i2l] at t3; have t4 := hc136; rw [Int64.lt_iff_toInt_lt, c_i2l] at t4; omega)) : (fC3 b117 cp bb (upd (upd (upd (upd (upd (upd (fun _ => (0 : Int32)) 0 (la.toInt32)) 1 (ua.toInt32)) 2 (lb.toInt32)) 3 (ub.toInt32)) 4 (lc.toInt32)) 5 (uc.toInt32))) = (0 : Int32)))
            refine Es.iconst (q := 522) (z := (1 : Int32)) ?_ X137 hx (hb hby at_521) rfl rfl
            refine Es.goto (q := 526) ?_ X137 hx (hb hby at_522) (by decide) (by decide)
            exact Ends.retN X137 hx hlk hret (t := .boolean) (by simp) (hb hby at_526) (w := 1) rfl ⟨rfl, N137⟩ (by decide) (by decide)
          · refine Es.ifYes (q := 502) ?_ X122 hx (hb hby at_477) (XT.ll_le_t hc136) (by decide) (by decide)
            refine Es.iconst (q := 503) (z := (1 : Int32)) ?_ X122 hx (hb hby at_502) rfl rfl
            refine Es.goto (q := 507) ?_ X122 hx (hb hby at_503) (by decide) (by decide)
            refine Es.istore (q := 509) (l' := #[.val (.int x0), .val (.long x1), .second, .val (.int x2), .val (.int x3), .val (.int (3 : Int32)), .val (.long la), .second, .val (.long ua), .second, .val (.long lb), .second, .val (.long ub), .second, .val (.long lc), .second, .val (.long uc), .second, .val (.long ld), .second, .val (.long ud), .second, .val (.long uc), .second, .val (.long ((la - (256 : Int64)) + ((x3 &&& (4095 : Int32)).toInt64))), .second, .val (.int cp), .val (.ref b91), .val (.ref b117), .val (.long (cp.toInt64)), .second, .val (.int (1 : Int32))]) ?_ X122 hx (hb hby at_507) rfl rfl
            refine Es.aload (q := 511) ?_ X122 hx (hb hby at_509) rfl rfl rfl
            refine Es.iload (q := 513) ?_ X122 hx (hb hby at_511) rfl rfl
            obtain ⟨cq138, kq138, q138a, q138b, q138c⟩ := isOf hZ rfl Ex122
            obtain ⟨v138, _, ⟨T138, L138, k138, n138⟩, -, X138, ⟨Lc138, hQ138, l138, y138, z138⟩, st138⟩ := X122.virtualBack hx (y := (⟨"com/example/tagwright/tagwright/model/CodePointSet", "contains", "(I)Z"⟩ : MethodName)) (z := (⟨"com/example/tagwright/tagwright/model/CodePointSet", "contains", "(I)Z"⟩ : MethodName)) hown (mvT hZ (hw _ (List.mem_of_getElem? (i := 24) rfl))) (mvT hZ (hw _ (List.mem_of_getElem? (i := 25) rfl))) (notFace_of_selects (args := #[]) (mvT hZ (hw _ (List.mem_of_getElem? (i := 27) rfl)))) (mvT hZ (hw _ (List.mem_of_getElem? (i := 27) rfl))) (mvT hZ (hw _ (List.mem_of_getElem? (i := 26) rfl))) (by decide) (backOf (W := 0) (rmC3 l Z a0 hw [] b117 cp bb (upd (upd (upd (upd (upd (upd (fun _ => (0 : Int32)) 0 (la.toInt32)) 1 (ua.toInt32)) 2 (lb.toInt32)) 3 (ub.toInt32)) 4 (lc.toInt32)) 5 (uc.toInt32)) T122.heap n0 Zs125 Fa122 Va122) hZ (hw _ (List.mem_of_getElem? (i := 28) rfl)) (hw _ (List.mem_of_getElem? (i := 6) rfl)) (by decide) (by decide)) q138a q138c (g := (mkF m 513 #[.val (.int x0), .val (.long x1), .second, .val (.int x2), .val (.int x3), .val (.int (3 : Int32)), .val (.long la), .second, .val (.long ua), .second, .val (.long lb), .second, .val (.long ub), .second, .val (.long lc), .second, .val (.long uc), .second, .val (.long ld), .second, .val (.long ud), .second, .val (.long uc), .second, .val (.long ((la - (256 : Int64)) + ((x3 &&& (4095 : Int32)).toInt64))), .second, .val (.int cp), .val (.ref b91), .val (.ref b117), .val (.long (cp.toInt64)), .second, .val (.int (1 : Int32))] [(.int cp), (.ref b117)])) rfl (by rw [hml]; rfl) (Steps.refl _) (argsL := [(.int cp)]) (rest := []) (lenOf pd_1 rfl) rfl (by show 2 * 0 + _ ≤ _; exact Nat.le_of_eq rfl) (hb hby at_513) (fun _ _ => ⟨rfl, rfl, (by decide : 3 + 0 ≤ _), (by decide : 15 + 0 ≤ _)⟩)
            dsimp only [Pt.U, Pt.locs, Pt.cells, Pt.slots] at X138 l138 y138 z138 st138 hQ138
            subst l138 y138 z138
            obtain ⟨rfl, N138q, e138⟩ := hQ138
            have N138 := Fr.app N122 N138q
            refine Ends.go st138 ?_
            show Ends p e below s _ _ _ (T138.setTop (mkF m 516 #[.val (.int x0), .val (.long x1), .second, .val (.int x2), .val (.int x3), .val (.int (3 : Int32)), .val (.long la), .second, .val (.long ua), .second, .val (.long lb), .second, .val (.long ub), .second, .val (.long lc), .second, .val (.long uc), .second, .val (.long ld), .second, .val (.long ud), .second, .val (.long uc), .second, .val (.long ((la - (256 : Int64)) + ((x3 &&& (4095 : Int32)).toInt64))), .second, .val (.int cp), .val (.ref b91), .val (.ref b117), .val (.long (cp.toInt64)), .second, .val (.int (1 : Int32))] [(.int (fC3 b117 cp bb (upd (upd (upd (upd (upd (upd (fun _ => (0 : Int32)) 0 (la.toInt32)) 1 (ua.toInt32)) 2 (lb.toInt32)) 3 (ub.toInt32)) 4 (lc.toInt32)) 5 (uc.toInt32))))]))
            refine Es.iload (q := 518) ?_ X138 hx (hb hby at_516) rfl rfl
            refine Es.icmpNo (q := 521) ?_ X138 hx (hb hby at_518) rfl (XT.ii_ne_f ((own_c3 (la := la) (ua := ua) (lb := lb) (ub := ub) (lc := lc) (uc := uc) rfl rfl rfl rfl rfl rfl o0 o1 o2 p0 p1 r0 r1).trans (if_pos (by have t0 := hc126; rw [Int64.lt_iff_toInt_lt, c_i2l] at t0; have t1 := hc127; rw [Int64.lt_iff_toInt_lt, c_i2l] at t1; have t2 := hc133; rw [Int64.lt_iff_toInt_lt, c_i2l] at t2; have t3 := hc134; rw [Int64.lt_iff_toInt_lt, c_i2l] at t3; have t4 := hc136; rw [Int64.lt_iff_toInt_lt, c_i2l] at t4; omega)) : (fC3 b117 cp bb (upd (upd (upd (upd (upd (upd (fun _ => (0 : Int32)) 0 (la.toInt32)) 1 (ua.toInt32)) 2 (lb.toInt32)) 3 (ub.toInt32)) 4 (lc.toInt32)) 5 (uc.toInt32))) = (1 : Int32)))
            refine Es.iconst (q := 522) (z := (1 : Int32)) ?_ X138 hx (hb hby at_521) rfl rfl
            refine Es.goto (q := 526) ?_ X138 hx (hb hby at_522) (by decide) (by decide)
            exact Ends.retN X138 hx hlk hret (t := .boolean) (by simp) (hb hby at_526) (w := 1) rfl ⟨rfl, N138⟩ (by decide) (by decide)
      · refine Es.ifYes (q := 502) ?_ X122 hx (hb hby at_455) (XT.ll_le_t hc133) (by decide) (by decide)
        refine Es.iconst (q := 503) (z := (1 : Int32)) ?_ X122 hx (hb hby at_502) rfl rfl
        refine Es.goto (q := 507) ?_ X122 hx (hb hby at_503) (by decide) (by decide)
        refine Es.istore (q := 509) (l' := #[.val (.int x0), .val (.long x1), .second, .val (.int x2), .val (.int x3), .val (.int (3 : Int32)), .val (.long la), .second, .val (.long ua), .second, .val (.long lb), .second, .val (.long ub), .second, .val (.long lc), .second, .val (.long uc), .second, .val (.long ld), .second, .val (.long ud), .second, .val (.long uc), .second, .val (.long ((la - (256 : Int64)) + ((x3 &&& (4095 : Int32)).toInt64))), .second, .val (.int cp), .val (.ref b91), .val (.ref b117), .val (.long (cp.toInt64)), .second, .val (.int (1 : Int32))]) ?_ X122 hx (hb hby at_507) rfl rfl
        refine Es.aload (q := 511) ?_ X122 hx (hb hby at_509) rfl rfl rfl
        refine Es.iload (q := 513) ?_ X122 hx (hb hby at_511) rfl rfl
        obtain ⟨cq139, kq139, q139a, q139b, q139c⟩ := isOf hZ rfl Ex122
        obtain ⟨v139, _, ⟨T139, L139, k139, n139⟩, -, X139, ⟨Lc139, hQ139, l139, y139, z139⟩, st139⟩ := X122.virtualBack hx (y := (⟨"com/example/tagwright/tagwright/model/CodePointSet", "contains", "(I)Z"⟩ : MethodName)) (z := (⟨"com/example/tagwright/tagwright/model/CodePointSet", "contains", "(I)Z"⟩ : MethodName)) hown (mvT hZ (hw _ (List.mem_of_getElem? (i := 24) rfl))) (mvT hZ (hw _ (List.mem_of_getElem? (i := 25) rfl))) (notFace_of_selects (args := #[]) (mvT hZ (hw _ (List.mem_of_getElem? (i := 27) rfl)))) (mvT hZ (hw _ (List.mem_of_getElem? (i := 27) rfl))) (mvT hZ (hw _ (List.mem_of_getElem? (i := 26) rfl))) (by decide) (backOf (W := 0) (rmC3 l Z a0 hw [] b117 cp bb (upd (upd (upd (upd (upd (upd (fun _ => (0 : Int32)) 0 (la.toInt32)) 1 (ua.toInt32)) 2 (lb.toInt32)) 3 (ub.toInt32)) 4 (lc.toInt32)) 5 (uc.toInt32)) T122.heap n0 Zs125 Fa122 Va122) hZ (hw _ (List.mem_of_getElem? (i := 28) rfl)) (hw _ (List.mem_of_getElem? (i := 6) rfl)) (by decide) (by decide)) q139a q139c (g := (mkF m 513 #[.val (.int x0), .val (.long x1), .second, .val (.int x2), .val (.int x3), .val (.int (3 : Int32)), .val (.long la), .second, .val (.long ua), .second, .val (.long lb), .second, .val (.long ub), .second, .val (.long lc), .second, .val (.long uc), .second, .val (.long ld), .second, .val (.long ud), .second, .val (.long uc), .second, .val (.long ((la - (256 : Int64)) + ((x3 &&& (4095 : Int32)).toInt64))), .second, .val (.int cp), .val (.ref b91), .val (.ref b117), .val (.long (cp.toInt64)), .second, .val (.int (1 : Int32))] [(.int cp), (.ref b117)])) rfl (by rw [hml]; rfl) (Steps.refl _) (argsL := [(.int cp)]) (rest := []) (lenOf pd_1 rfl) rfl (by show 2 * 0 + _ ≤ _; exact Nat.le_of_eq rfl) (hb hby at_513) (fun _ _ => ⟨rfl, rfl, (by decide : 3 + 0 ≤ _), (by decide : 15 + 0 ≤ _)⟩)
        dsimp only [Pt.U, Pt.locs, Pt.cells, Pt.slots] at X139 l139 y139 z139 st139 hQ139
        subst l139 y139 z139
        obtain ⟨rfl, N139q, e139⟩ := hQ139
        have N139 := Fr.app N122 N139q
        refine Ends.go st139 ?_
        show Ends p e below s _ _ _ (T139.setTop (mkF m 516 #[.val (.int x0), .val (.long x1), .second, .val (.int x2), .val (.int x3), .val (.int (3 : Int32)), .val (.long la), .second, .val (.long ua), .second, .val (.long lb), .second, .val (.long ub), .second, .val (.long lc), .second, .val (.long uc), .second, .val (.long ld), .second, .val (.long ud), .second, .val (.long uc), .second, .val (.long ((la - (256 : Int64)) + ((x3 &&& (4095 : Int32)).toInt64))), .second, .val (.int cp), .val (.ref b91), .val (.ref b117), .val (.long (cp.toInt64)), .second, .val (.int (1 : Int32))] [(.int (fC3 b117 cp bb (upd (upd (upd (upd (upd (upd (fun _ => (0 : Int32)) 0 (la.toInt32)) 1 (ua.toInt32)) 2 (lb.toInt32)) 3 (ub.toInt32)) 4 (lc.toInt32)) 5 (uc.toInt32))))]))
        refine Es.iload (q := 518) ?_ X139 hx (hb hby at_516) rfl rfl
        refine Es.icmpNo (q := 521) ?_ X139 hx (hb hby at_518) rfl (XT.ii_ne_f ((own_c3 (la := la) (ua := ua) (lb := lb) (ub := ub) (lc := lc) (uc := uc) rfl rfl rfl rfl rfl rfl o0 o1 o2 p0 p1 r0 r1).trans (if_pos (by have t0 := hc126; rw [Int64.lt_iff_toInt_lt, c_i2l] at t0; have t1 := hc127; rw [Int64.lt_iff_toInt_lt, c_i2l] at t1; have t2 := hc133; rw [Int64.lt_iff_toInt_lt, c_i2l] at t2; omega)) : (fC3 b117 cp bb (upd (upd (upd (upd (upd (upd (fun _ => (0 : Int32)) 0 (la.toInt32)) 1 (ua.toInt32)) 2 (lb.toInt32)) 3 (ub.toInt32)) 4 (lc.toInt32)) 5 (uc.toInt32))) = (1 : Int32)))
        refine Es.iconst (q := 522) (z := (1 : Int32)) ?_ X139 hx (hb hby at_521) rfl rfl
        refine Es.goto (q := 526) ?_ X139 hx (hb hby at_522) (by decide) (by decide)
        exact Ends.retN X139 hx hlk hret (t := .boolean) (by simp) (hb hby at_526) (w := 1) rfl ⟨rfl, N139⟩ (by decide) (by decide)
  · refine Es.ifNo (q := 428) ?_ X122 hx (hb hby at_425) rfl (XT.ll_gt_f hc126)
    refine Es.lload (q := 430) ?_ X122 hx (hb hby at_428) rfl rfl
    refine Es.lload (q := 432) ?_ X122 hx (hb hby at_430) rfl rfl
    refine Es.lcmp (q := 433) ?_ X122 hx (hb hby at_432) rfl
    by_cases hc140 : ua < (cp.toInt64)
    · refine Es.ifNo (q := 436) ?_ X122 hx (hb hby at_433) rfl (XT.ll_le_f hc140)
      refine Es.iload (q := 438) ?_ X122 hx (hb hby at_436) rfl rfl
      refine Es.iconst (q := 439) (z := (2 : Int32)) ?_ X122 hx (hb hby at_438) rfl rfl
      refine Es.icmpNo (q := 442) ?_ X122 hx (hb hby at_439) rfl (XT.ii_lt_f (by decide))
      refine Es.lload (q := 444) ?_ X122 hx (hb hby at_442) rfl rfl
      refine Es.lload (q := 446) ?_ X122 hx (hb hby at_444) rfl rfl
      refine Es.lcmp (q := 447) ?_ X122 hx (hb hby at_446) rfl
      by_cases hc141 : (cp.toInt64) < lb
      · refine Es.ifYes (q := 458) ?_ X122 hx (hb hby at_447) (XT.ll_gt_t hc141) (by decide) (by decide)
        refine Es.iload (q := 460) ?_ X122 hx (hb hby at_458) rfl rfl
        refine Es.iconst (q := 461) (z := (3 : Int32)) ?_ X122 hx (hb hby at_460) rfl rfl
        refine Es.icmpNo (q := 464) ?_ X122 hx (hb hby at_461) rfl (XT.ii_lt_f (by decide))
        refine Es.lload (q := 466) ?_ X122 hx (hb hby at_464) rfl rfl
        refine Es.lload (q := 468) ?_ X122 hx (hb hby at_466) rfl rfl
        refine Es.lcmp (q := 469) ?_ X122 hx (hb hby at_468) rfl
        by_cases hc142 : (cp.toInt64) < lc
        · refine Es.ifYes (q := 480) ?_ X122 hx (hb hby at_469) (XT.ll_gt_t hc142) (by decide) (by decide)
          refine Es.iload (q := 482) ?_ X122 hx (hb hby at_480) rfl rfl
          refine Es.iconst (q := 483) (z := (4 : Int32)) ?_ X122 hx (hb hby at_482) rfl rfl
          refine Es.icmpYes (q := 506) ?_ X122 hx (hb hby at_483) (XT.ii_lt_t (by decide)) (by decide) (by decide)
          refine Es.iconst (q := 507) (z := (0 : Int32)) ?_ X122 hx (hb hby at_506) rfl rfl
          refine Es.istore (q := 509) (l' := #[.val (.int x0), .val (.long x1), .second, .val (.int x2), .val (.int x3), .val (.int (3 : Int32)), .val (.long la), .second, .val (.long ua), .second, .val (.long lb), .second, .val (.long ub), .second, .val (.long lc), .second, .val (.long uc), .second, .val (.long ld), .second, .val (.long ud), .second, .val (.long uc), .second, .val (.long ((la - (256 : Int64)) + ((x3 &&& (4095 : Int32)).toInt64))), .second, .val (.int cp), .val (.ref b91), .val (.ref b117), .val (.long (cp.toInt64)), .second, .val (.int (0 : Int32))]) ?_ X122 hx (hb hby at_507) rfl rfl
          refine Es.aload (q := 511) ?_ X122 hx (hb hby at_509) rfl rfl rfl
          refine Es.iload (q := 513) ?_ X122 hx (hb hby at_511) rfl rfl
          obtain ⟨cq143, kq143, q143a, q143b, q143c⟩ := isOf hZ rfl Ex122
          obtain ⟨v143, _, ⟨T143, L143, k143, n143⟩, -, X143, ⟨Lc143, hQ143, l143, y143, z143⟩, st143⟩ := X122.virtualBack hx (y := (⟨"com/example/tagwright/tagwright/model/CodePointSet", "contains", "(I)Z"⟩ : MethodName)) (z := (⟨"com/example/tagwright/tagwright/model/CodePointSet", "contains", "(I)Z"⟩ : MethodName)) hown (mvT hZ (hw _ (List.mem_of_getElem? (i := 24) rfl))) (mvT hZ (hw _ (List.mem_of_getElem? (i := 25) rfl))) (notFace_of_selects (args := #[]) (mvT hZ (hw _ (List.mem_of_getElem? (i := 27) rfl)))) (mvT hZ (hw _ (List.mem_of_getElem? (i := 27) rfl))) (mvT hZ (hw _ (List.mem_of_getElem? (i := 26) rfl))) (by decide) (backOf (W := 0) (rmC3 l Z a0 hw [] b117 cp bb (upd (upd (upd (upd (upd (upd (fun _ => (0 : Int32)) 0 (la.toInt32)) 1 (ua.toInt32)) 2 (lb.toInt32)) 3 (ub.toInt32)) 4 (lc.toInt32)) 5 (uc.toInt32)) T122.heap n0 Zs125 Fa122 Va122) hZ (hw _ (List.mem_of_getElem? (i := 28) rfl)) (hw _ (List.mem_of_getElem? (i := 6) rfl)) (by decide) (by decide)) q143a q143c (g := (mkF m 513 #[.val (.int x0), .val (.long x1), .second, .val (.int x2), .val (.int x3), .val (.int (3 : Int32)), .val (.long la), .second, .val (.long ua), .second, .val (.long lb), .second, .val (.long ub), .second, .val (.long lc), .second, .val (.long uc), .second, .val (.long ld), .second, .val (.long ud), .second, .val (.long uc), .second, .val (.long ((la - (256 : Int64)) + ((x3 &&& (4095 : Int32)).toInt64))), .second, .val (.int cp), .val (.ref b91), .val (.ref b117), .val (.long (cp.toInt64)), .second, .val (.int (0 : Int32))] [(.int cp), (.ref b117)])) rfl (by rw [hml]; rfl) (Steps.refl _) (argsL := [(.int cp)]) (rest := []) (lenOf pd_1 rfl) rfl (by show 2 * 0 + _ ≤ _; exact Nat.le_of_eq rfl) (hb hby at_513) (fun _ _ => ⟨rfl, rfl, (by decide : 3 + 0 ≤ _), (by decide : 15 + 0 ≤ _)⟩)
          dsimp only [Pt.U, Pt.locs, Pt.cells, Pt.slots] at X143 l143 y143 z143 st143 hQ143
          subst l143 y143 z143
          obtain ⟨rfl, N143q, e143⟩ := hQ143
          have N143 := Fr.app N122 N143q
          refine Ends.go st143 ?_
          show Ends p e below s _ _ _ (T143.setTop (mkF m 516 #[.val (.int x0), .val (.long x1), .second, .val (.int x2), .val (.int x3), .val (.int (3 : Int32)), .val (.long la), .second, .val (.long ua), .second, .val (.long lb), .second, .val (.long ub), .second, .val (.long lc), .second, .val (.long uc), .second, .val (.long ld), .second, .val (.long ud), .second, .val (.long uc), .second, .val (.long ((la - (256 : Int64)) + ((x3 &&& (4095 : Int32)).toInt64))), .second, .val (.int cp), .val (.ref b91), .val (.ref b117), .val (.long (cp.toInt64)), .second, .val (.int (0 : Int32))] [(.int (fC3 b117 cp bb (upd (upd (upd (upd (upd (upd (fun _ => (0 : Int32)) 0 (la.toInt32)) 1 (ua.toInt32)) 2 (lb.toInt32)) 3 (ub.toInt32)) 4 (lc.toInt32)) 5 (uc.toInt32))))]))
          refine Es.iload (q := 518) ?_ X143 hx (hb hby at_516) rfl rfl
          refine Es.icmpNo (q := 521) ?_ X143 hx (hb hby at_518) rfl (XT.ii_ne_f ((own_c3 (la := la) (ua := ua) (lb := lb) (ub := ub) (lc := lc) (uc := uc) rfl rfl rfl rfl rfl rfl o0 o1 o2 p0 p1 r0 r1).trans (if_neg (by have t0 := hc126; rw [Int64.lt_iff_toInt_lt, c_i2l] at t0; have t1 := hc140; rw [Int64.lt_iff_toInt_lt, c_i2l] at t1; have t2 := hc141; rw [Int64.lt_iff_toInt_lt, c_i2l] at t2; have t3 := hc142; rw [Int64.lt_iff_toInt_lt, c_i2l] at t3; omega)) : (fC3 b117 cp bb (upd (upd (upd (upd (upd (upd (fun _ => (0 : Int32)) 0 (la.toInt32)) 1 (ua.toInt32)) 2 (lb.toInt32)) 3 (ub.toInt32)) 4 (lc.toInt32)) 5 (uc.toInt32))) = (0 : Int32)))
          refine Es.iconst (q := 522) (z := (1 : Int32)) ?_ X143 hx (hb hby at_521) rfl rfl
          refine Es.goto (q := 526) ?_ X143 hx (hb hby at_522) (by decide) (by decide)
          exact Ends.retN X143 hx hlk hret (t := .boolean) (by simp) (hb hby at_526) (w := 1) rfl ⟨rfl, N143⟩ (by decide) (by decide)
        · refine Es.ifNo (q := 472) ?_ X122 hx (hb hby at_469) rfl (XT.ll_gt_f hc142)
          refine Es.lload (q := 474) ?_ X122 hx (hb hby at_472) rfl rfl
          refine Es.lload (q := 476) ?_ X122 hx (hb hby at_474) rfl rfl
          refine Es.lcmp (q := 477) ?_ X122 hx (hb hby at_476) rfl
          by_cases hc144 : uc < (cp.toInt64)
          · refine Es.ifNo (q := 480) ?_ X122 hx (hb hby at_477) rfl (XT.ll_le_f hc144)
            refine Es.iload (q := 482) ?_ X122 hx (hb hby at_480) rfl rfl
            refine Es.iconst (q := 483) (z := (4 : Int32)) ?_ X122 hx (hb hby at_482) rfl rfl
            refine Es.icmpYes (q := 506) ?_ X122 hx (hb hby at_483) (XT.ii_lt_t (by decide)) (by decide) (by decide)
            refine Es.iconst (q := 507) (z := (0 : Int32)) ?_ X122 hx (hb hby at_506) rfl rfl
            refine Es.istore (q := 509) (l' := #[.val (.int x0), .val (.long x1), .second, .val (.int x2), .val (.int x3), .val (.int (3 : Int32)), .val (.long la), .second, .val (.long ua), .second, .val (.long lb), .second, .val (.long ub), .second, .val (.long lc), .second, .val (.long uc), .second, .val (.long ld), .second, .val (.long ud), .second, .val (.long uc), .second, .val (.long ((la - (256 : Int64)) + ((x3 &&& (4095 : Int32)).toInt64))), .second, .val (.int cp), .val (.ref b91), .val (.ref b117), .val (.long (cp.toInt64)), .second, .val (.int (0 : Int32))]) ?_ X122 hx (hb hby at_507) rfl rfl
            refine Es.aload (q := 511) ?_ X122 hx (hb hby at_509) rfl rfl rfl
            refine Es.iload (q := 513) ?_ X122 hx (hb hby at_511) rfl rfl
            obtain ⟨cq145, kq145, q145a, q145b, q145c⟩ := isOf hZ rfl Ex122
            obtain ⟨v145, _, ⟨T145, L145, k145, n145⟩, -, X145, ⟨Lc145, hQ145, l145, y145, z145⟩, st145⟩ := X122.virtualBack hx (y := (⟨"com/example/tagwright/tagwright/model/CodePointSet", "contains", "(I)Z"⟩ : MethodName)) (z := (⟨"com/example/tagwright/tagwright/model/CodePointSet", "contains", "(I)Z"⟩ : MethodName)) hown (mvT hZ (hw _ (List.mem_of_getElem? (i := 24) rfl))) (mvT hZ (hw _ (List.mem_of_getElem? (i := 25) rfl))) (notFace_of_selects (args := #[]) (mvT hZ (hw _ (List.mem_of_getElem? (i := 27) rfl)))) (mvT hZ (hw _ (List.mem_of_getElem? (i := 27) rfl))) (mvT hZ (hw _ (List.mem_of_getElem? (i := 26) rfl))) (by decide) (backOf (W := 0) (rmC3 l Z a0 hw [] b117 cp bb (upd (upd (upd (upd (upd (upd (fun _ => (0 : Int32)) 0 (la.toInt32)) 1 (ua.toInt32)) 2 (lb.toInt32)) 3 (ub.toInt32)) 4 (lc.toInt32)) 5 (uc.toInt32)) T122.heap n0 Zs125 Fa122 Va122) hZ (hw _ (List.mem_of_getElem? (i := 28) rfl)) (hw _ (List.mem_of_getElem? (i := 6) rfl)) (by decide) (by decide)) q145a q145c (g := (mkF m 513 #[.val (.int x0), .val (.long x1), .second, .val (.int x2), .val (.int x3), .val (.int (3 : Int32)), .val (.long la), .second, .val (.long ua), .second, .val (.long lb), .second, .val (.long ub), .second, .val (.long lc), .second, .val (.long uc), .second, .val (.long ld), .second, .val (.long ud), .second, .val (.long uc), .second, .val (.long ((la - (256 : Int64)) + ((x3 &&& (4095 : Int32)).toInt64))), .second, .val (.int cp), .val (.ref b91), .val (.ref b117), .val (.long (cp.toInt64)), .second, .val (.int (0 : Int32))] [(.int cp), (.ref b117)])) rfl (by rw [hml]; rfl) (Steps.refl _) (argsL := [(.int cp)]) (rest := []) (lenOf pd_1 rfl) rfl (by show 2 * 0 + _ ≤ _; exact Nat.le_of_eq rfl) (hb hby at_513) (fun _ _ => ⟨rfl, rfl, (by decide : 3 + 0 ≤ _), (by decide : 15 + 0 ≤ _)⟩)
            dsimp only [Pt.U, Pt.locs, Pt.cells, Pt.slots] at X145 l145 y145 z145 st145 hQ145
            subst l145 y145 z145
            obtain ⟨rfl, N145q, e145⟩ := hQ145
            have N145 := Fr.app N122 N145q
            refine Ends.go st145 ?_
            show Ends p e below s _ _ _ (T145.setTop (mkF m 516 #[.val (.int x0), .val (.long x1), .second, .val (.int x2), .val (.int x3), .val (.int (3 : Int32)), .val (.long la), .second, .val (.long ua), .second, .val (.long lb), .second, .val (.long ub), .second, .val (.long lc), .second, .val (.long uc), .second, .val (.long ld), .second, .val (.long ud), .second, .val (.long uc), .second, .val (.long ((la - (256 : Int64)) + ((x3 &&& (4095 : Int32)).toInt64))), .second, .val (.int cp), .val (.ref b91), .val (.ref b117), .val (.long (cp.toInt64)), .second, .val (.int (0 : Int32))] [(.int (fC3 b117 cp bb (upd (upd (upd (upd (upd (upd (fun _ => (0 : Int32)) 0 (la.toInt32)) 1 (ua.toInt32)) 2 (lb.toInt32)) 3 (ub.toInt32)) 4 (lc.toInt32)) 5 (uc.toInt32))))]))
            refine Es.iload (q := 518) ?_ X145 hx (hb hby at_516) rfl rfl
            refine Es.icmpNo (q := 521) ?_ X145 hx (hb hby at_518) rfl (XT.ii_ne_f ((own_c3 (la := la) (ua := ua) (lb := lb) (ub := ub) (lc := lc) (uc := uc) rfl rfl rfl rfl rfl rfl o0 o1 o2 p0 p1 r0 r1).trans (if_neg (by have t0 := hc126; rw [Int64.lt_iff_toInt_lt, c_i2l] at t0; have t1 := hc140; rw [Int64.lt_iff_toInt_lt, c_i2l] at t1; have t2 := hc141; rw [Int64.lt_iff_toInt_lt, c_i2l] at t2; have t3 := hc142; rw [Int64.lt_iff_toInt_lt, c_i2l] at t3; have t4 := hc144; rw [Int64.lt_iff_toInt_lt, c_i2l] at t4; omega)) : (fC3 b117 cp bb (upd (upd (upd (upd (upd (upd (fun _ => (0 : Int32)) 0 (la.toInt32)) 1 (ua.toInt32)) 2 (lb.toInt32)) 3 (ub.toInt32)) 4 (lc.toInt32)) 5 (uc.toInt32))) = (0 : Int32)))
            refine Es.iconst (q := 522) (z := (1 : Int32)) ?_ X145 hx (hb hby at_521) rfl rfl
            refine Es.goto (q := 526) ?_ X145 hx (hb hby at_522) (by decide) (by decide)
            exact Ends.retN X145 hx hlk hret (t := .boolean) (by simp) (hb hby at_526) (w := 1) rfl ⟨rfl, N145⟩ (by decide) (by decide)
          · refine Es.ifYes (q := 502) ?_ X122 hx (hb hby at_477) (XT.ll_le_t hc144) (by decide) (by decide)
            refine Es.iconst (q := 503) (z := (1 : Int32)) ?_ X122 hx (hb hby at_502) rfl rfl
            refine Es.goto (q := 507) ?_ X122 hx (hb hby at_503) (by decide) (by decide)
            refine Es.istore (q := 509) (l' := #[.val (.int x0), .val (.long x1), .second, .val (.int x2), .val (.int x3), .val (.int (3 : Int32)), .val (.long la), .second, .val (.long ua), .second, .val (.long lb), .second, .val (.long ub), .second, .val (.long lc), .second, .val (.long uc), .second, .val (.long ld), .second, .val (.long ud), .second, .val (.long uc), .second, .val (.long ((la - (256 : Int64)) + ((x3 &&& (4095 : Int32)).toInt64))), .second, .val (.int cp), .val (.ref b91), .val (.ref b117), .val (.long (cp.toInt64)), .second, .val (.int (1 : Int32))]) ?_ X122 hx (hb hby at_507) rfl rfl
            refine Es.aload (q := 511) ?_ X122 hx (hb hby at_509) rfl rfl rfl
            refine Es.iload (q := 513) ?_ X122 hx (hb hby at_511) rfl rfl
            obtain ⟨cq146, kq146, q146a, q146b, q146c⟩ := isOf hZ rfl Ex122
            obtain ⟨v146, _, ⟨T146, L146, k146, n146⟩, -, X146, ⟨Lc146, hQ146, l146, y146, z146⟩, st146⟩ := X122.virtualBack hx (y := (⟨"com/example/tagwright/tagwright/model/CodePointSet", "contains", "(I)Z"⟩ : MethodName)) (z := (⟨"com/example/tagwright/tagwright/model/CodePointSet", "contains", "(I)Z"⟩ : MethodName)) hown (mvT hZ (hw _ (List.mem_of_getElem? (i := 24) rfl))) (mvT hZ (hw _ (List.mem_of_getElem? (i := 25) rfl))) (notFace_of_selects (args := #[]) (mvT hZ (hw _ (List.mem_of_getElem? (i := 27) rfl)))) (mvT hZ (hw _ (List.mem_of_getElem? (i := 27) rfl))) (mvT hZ (hw _ (List.mem_of_getElem? (i := 26) rfl))) (by decide) (backOf (W := 0) (rmC3 l Z a0 hw [] b117 cp bb (upd (upd (upd (upd (upd (upd (fun _ => (0 : Int32)) 0 (la.toInt32)) 1 (ua.toInt32)) 2 (lb.toInt32)) 3 (ub.toInt32)) 4 (lc.toInt32)) 5 (uc.toInt32)) T122.heap n0 Zs125 Fa122 Va122) hZ (hw _ (List.mem_of_getElem? (i := 28) rfl)) (hw _ (List.mem_of_getElem? (i := 6) rfl)) (by decide) (by decide)) q146a q146c (g := (mkF m 513 #[.val (.int x0), .val (.long x1), .second, .val (.int x2), .val (.int x3), .val (.int (3 : Int32)), .val (.long la), .second, .val (.long ua), .second, .val (.long lb), .second, .val (.long ub), .second, .val (.long lc), .second, .val (.long uc), .second, .val (.long ld), .second, .val (.long ud), .second, .val (.long uc), .second, .val (.long ((la - (256 : Int64)) + ((x3 &&& (4095 : Int32)).toInt64))), .second, .val (.int cp), .val (.ref b91), .val (.ref b117), .val (.long (cp.toInt64)), .second, .val (.int (1 : Int32))] [(.int cp), (.ref b117)])) rfl (by rw [hml]; rfl) (Steps.refl _) (argsL := [(.int cp)]) (rest := []) (lenOf pd_1 rfl) rfl (by show 2 * 0 + _ ≤ _; exact Nat.le_of_eq rfl) (hb hby at_513) (fun _ _ => ⟨rfl, rfl, (by decide : 3 + 0 ≤ _), (by decide : 15 + 0 ≤ _)⟩)
            dsimp only [Pt.U, Pt.locs, Pt.cells, Pt.slots] at X146 l146 y146 z146 st146 hQ146
            subst l146 y146 z146
            obtain ⟨rfl, N146q, e146⟩ := hQ146
            have N146 := Fr.app N122 N146q
            refine Ends.go st146 ?_
            show Ends p e below s _ _ _ (T146.setTop (mkF m 516 #[.val (.int x0), .val (.long x1), .second, .val (.int x2), .val (.int x3), .val (.int (3 : Int32)), .val (.long la), .second, .val (.long ua), .second, .val (.long lb), .second, .val (.long ub), .second, .val (.long lc), .second, .val (.long uc), .second, .val (.long ld), .second, .val (.long ud), .second, .val (.long uc), .second, .val (.long ((la - (256 : Int64)) + ((x3 &&& (4095 : Int32)).toInt64))), .second, .val (.int cp), .val (.ref b91), .val (.ref b117), .val (.long (cp.toInt64)), .second, .val (.int (1 : Int32))] [(.int (fC3 b117 cp bb (upd (upd (upd (upd (upd (upd (fun _ => (0 : Int32)) 0 (la.toInt32)) 1 (ua.toInt32)) 2 (lb.toInt32)) 3 (ub.toInt32)) 4 (lc.toInt32)) 5 (uc.toInt32))))]))
            refine Es.iload (q := 518) ?_ X146 hx (hb hby at_516) rfl rfl
            refine Es.icmpNo (q := 521) ?_ X146 hx (hb hby at_518) rfl (XT.ii_ne_f ((own_c3 (la := la) (ua := ua) (lb := lb) (ub := ub) (lc := lc) (uc := uc) rfl rfl rfl rfl rfl rfl o0 o1 o2 p0 p1 r0 r1).trans (if_pos (by have t0 := hc126; rw [Int64.lt_iff_toInt_lt, c_i2l] at t0; have t1 := hc140; rw [Int64.lt_iff_toInt_lt, c_i2l] at t1; have t2 := hc141; rw [Int64.lt_iff_toInt_lt, c_i2l] at t2; have t3 := hc142; rw [Int64.lt_iff_toInt_lt, c_i2l] at t3; have t4 := hc144; rw [Int64.lt_iff_toInt_lt, c_i2l] at t4; omega)) : (fC3 b117 cp bb (upd (upd (upd (upd (upd (upd (fun _ => (0 : Int32)) 0 (la.toInt32)) 1 (ua.toInt32)) 2 (lb.toInt32)) 3 (ub.toInt32)) 4 (lc.toInt32)) 5 (uc.toInt32))) = (1 : Int32)))
            refine Es.iconst (q := 522) (z := (1 : Int32)) ?_ X146 hx (hb hby at_521) rfl rfl
            refine Es.goto (q := 526) ?_ X146 hx (hb hby at_522) (by decide) (by decide)
            exact Ends.retN X146 hx hlk hret (t := .boolean) (by simp) (hb hby at_526) (w := 1) rfl ⟨rfl, N146⟩ (by decide) (by decide)
      · refine Es.ifNo (q := 450) ?_ X122 hx (hb hby at_447) rfl (XT.ll_gt_f hc141)
        refine Es.lload (q := 452) ?_ X122 hx (hb hby at_450) rfl rfl
        refine Es.lload (q := 454) ?_ X122 hx (hb hby at_452) rfl rfl
        refine Es.lcmp (q := 455) ?_ X122 hx (hb hby at_454) rfl
        by_cases hc147 : ub < (cp.toInt64)
        · refine Es.ifNo (q := 458) ?_ X122 hx (hb hby at_455) rfl (XT.ll_le_f hc147)
          refine Es.iload (q := 460) ?_ X122 hx (hb hby at_458) rfl rfl
          refine Es.iconst (q := 461) (z := (3 : Int32)) ?_ X122 hx (hb hby at_460) rfl rfl
          refine Es.icmpNo (q := 464) ?_ X122 hx (hb hby at_461) rfl (XT.ii_lt_f (by decide))
          refine Es.lload (q := 466) ?_ X122 hx (hb hby at_464) rfl rfl
          refine Es.lload (q := 468) ?_ X122 hx (hb hby at_466) rfl rfl
          refine Es.lcmp (q := 469) ?_ X122 hx (hb hby at_468) rfl
          by_cases hc148 : (cp.toInt64) < lc
          · refine Es.ifYes (q := 480) ?_ X122 hx (hb hby at_469) (XT.ll_gt_t hc148) (by decide) (by decide)
            refine Es.iload (q := 482) ?_ X122 hx (hb hby at_480) rfl rfl
            refine Es.iconst (q := 483) (z := (4 : Int32)) ?_ X122 hx (hb hby at_482) rfl rfl
            refine Es.icmpYes (q := 506) ?_ X122 hx (hb hby at_483) (XT.ii_lt_t (by decide)) (by decide) (by decide)
            refine Es.iconst (q := 507) (z := (0 : Int32)) ?_ X122 hx (hb hby at_506) rfl rfl
            refine Es.istore (q := 509) (l' := #[.val (.int x0), .val (.long x1), .second, .val (.int x2), .val (.int x3), .val (.int (3 : Int32)), .val (.long la), .second, .val (.long ua), .second, .val (.long lb), .second, .val (.long ub), .second, .val (.long lc), .second, .val (.long uc), .second, .val (.long ld), .second, .val (.long ud), .second, .val (.long uc), .second, .val (.long ((la - (256 : Int64)) + ((x3 &&& (4095 : Int32)).toInt64))), .second, .val (.int cp), .val (.ref b91), .val (.ref b117), .val (.long (cp.toInt64)), .second, .val (.int (0 : Int32))]) ?_ X122 hx (hb hby at_507) rfl rfl
            refine Es.aload (q := 511) ?_ X122 hx (hb hby at_509) rfl rfl rfl
            refine Es.iload (q := 513) ?_ X122 hx (hb hby at_511) rfl rfl
            obtain ⟨cq149, kq149, q149a, q149b, q149c⟩ := isOf hZ rfl Ex122
            obtain ⟨v149, _, ⟨T149, L149, k149, n149⟩, -, X149, ⟨Lc149, hQ149, l149, y149, z149⟩, st149⟩ := X122.virtualBack hx (y := (⟨"com/example/tagwright/tagwright/model/CodePointSet", "contains", "(I)Z"⟩ : MethodName)) (z := (⟨"com/example/tagwright/tagwright/model/CodePointSet", "contains", "(I)Z"⟩ : MethodName)) hown (mvT hZ (hw _ (List.mem_of_getElem? (i := 24) rfl))) (mvT hZ (hw _ (List.mem_of_getElem? (i := 25) rfl))) (notFace_of_selects (args := #[]) (mvT hZ (hw _ (List.mem_of_getElem? (i := 27) rfl)))) (mvT hZ (hw _ (List.mem_of_getElem? (i := 27) rfl))) (mvT hZ (hw _ (List.mem_of_getElem? (i := 26) rfl))) (by decide) (backOf (W := 0) (rmC3 l Z a0 hw [] b117 cp bb (upd (upd (upd (upd (upd (upd (fun _ => (0 : Int32)) 0 (la.toInt32)) 1 (ua.toInt32)) 2 (lb.toInt32)) 3 (ub.toInt32)) 4 (lc.toInt32)) 5 (uc.toInt32)) T122.heap n0 Zs125 Fa122 Va122) hZ (hw _ (List.mem_of_getElem? (i := 28) rfl)) (hw _ (List.mem_of_getElem? (i := 6) rfl)) (by decide) (by decide)) q149a q149c (g := (mkF m 513 #[.val (.int x0), .val (.long x1), .second, .val (.int x2), .val (.int x3), .val (.int (3 : Int32)), .val (.long la), .second, .val (.long ua), .second, .val (.long lb), .second, .val (.long ub), .second, .val (.long lc), .second, .val (.long uc), .second, .val (.long ld), .second, .val (.long ud), .second, .val (.long uc), .second, .val (.long ((la - (256 : Int64)) + ((x3 &&& (4095 : Int32)).toInt64))), .second, .val (.int cp), .val (.ref b91), .val (.ref b117), .val (.long (cp.toInt64)), .second, .val (.int (0 : Int32))] [(.int cp), (.ref b117)])) rfl (by rw [hml]; rfl) (Steps.refl _) (argsL := [(.int cp)]) (rest := []) (lenOf pd_1 rfl) rfl (by show 2 * 0 + _ ≤ _; exact Nat.le_of_eq rfl) (hb hby at_513) (fun _ _ => ⟨rfl, rfl, (by decide : 3 + 0 ≤ _), (by decide : 15 + 0 ≤ _)⟩)
            dsimp only [Pt.U, Pt.locs, Pt.cells, Pt.slots] at X149 l149 y149 z149 st149 hQ149
            subst l149 y149 z149
            obtain ⟨rfl, N149q, e149⟩ := hQ149
            have N149 := Fr.app N122 N149q
            refine Ends.go st149 ?_
            show Ends p e below s _ _ _ (T149.setTop (mkF m 516 #[.val (.int x0), .val (.long x1), .second, .val (.int x2), .val (.int x3), .val (.int (3 : Int32)), .val (.long la), .second, .val (.long ua), .second, .val (.long lb), .second, .val (.long ub), .second, .val (.long lc), .second, .val (.long uc), .second, .val (.long ld), .second, .val (.long ud), .second, .val (.long uc), .second, .val (.long ((la - (256 : Int64)) + ((x3 &&& (4095 : Int32)).toInt64))), .second, .val (.int cp), .val (.ref b91), .val (.ref b117), .val (.long (cp.toInt64)), .second, .val (.int (0 : Int32))] [(.int (fC3 b117 cp bb (upd (upd (upd (upd (upd (upd (fun _ => (0 : Int32)) 0 (la.toInt32)) 1 (ua.toInt32)) 2 (lb.toInt32)) 3 (ub.toInt32)) 4 (lc.toInt32)) 5 (uc.toInt32))))]))
            refine Es.iload (q := 518) ?_ X149 hx (hb hby at_516) rfl rfl
            refine Es.icmpNo (q := 521) ?_ X149 hx (hb hby at_518) rfl (XT.ii_ne_f ((own_c3 (la := la) (ua := ua) (lb := lb) (ub := ub) (lc := lc) (uc := uc) rfl rfl rfl rfl rfl rfl o0 o1 o2 p0 p1 r0 r1).trans (if_neg (by have t0 := hc126; rw [Int64.lt_iff_toInt_lt, c_i2l] at t0; have t1 := hc140; rw [Int64.lt_iff_toInt_lt, c_i2l] at t1; have t2 := hc141; rw [Int64.lt_iff_toInt_lt, c_i2l] at t2; have t3 := hc147; rw [Int64.lt_iff_toInt_lt, c_i2l] at t3; have t4 := hc148; rw [Int64.lt_iff_toInt_lt, c_i2l] at t4; omega)) : (fC3 b117 cp bb (upd (upd (upd (upd (upd (upd (fun _ => (0 : Int32)) 0 (la.toInt32)) 1 (ua.toInt32)) 2 (lb.toInt32)) 3 (ub.toInt32)) 4 (lc.toInt32)) 5 (uc.toInt32))) = (0 : Int32)))
            refine Es.iconst (q := 522) (z := (1 : Int32)) ?_ X149 hx (hb hby at_521) rfl rfl
            refine Es.goto (q := 526) ?_ X149 hx (hb hby at_522) (by decide) (by decide)
            exact Ends.retN X149 hx hlk hret (t := .boolean) (by simp) (hb hby at_526) (w := 1) rfl ⟨rfl, N149⟩ (by decide) (by decide)
          · refine Es.ifNo (q := 472) ?_ X122 hx (hb hby at_469) rfl (XT.ll_gt_f hc148)
            refine Es.lload (q := 474) ?_ X122 hx (hb hby at_472) rfl rfl
            refine Es.lload (q := 476) ?_ X122 hx (hb hby at_474) rfl rfl
            refine Es.lcmp (q := 477) ?_ X122 hx (hb hby at_476) rfl
            by_cases hc150 : uc < (cp.toInt64)
            · refine Es.ifNo (q := 480) ?_ X122 hx (hb hby at_477) rfl (XT.ll_le_f hc150)
              refine Es.iload (q := 482) ?_ X122 hx (hb hby at_480) rfl rfl
              refine Es.iconst (q := 483) (z := (4 : Int32)) ?_ X122 hx (hb hby at_482) rfl rfl
              refine Es.icmpYes (q := 506) ?_ X122 hx (hb hby at_483) (XT.ii_lt_t (by decide)) (by decide) (by decide)
              refine Es.iconst (q := 507) (z := (0 : Int32)) ?_ X122 hx (hb hby at_506) rfl rfl
              refine Es.istore (q := 509) (l' := #[.val (.int x0), .val (.long x1), .second, .val (.int x2), .val (.int x3), .val (.int (3 : Int32)), .val (.long la), .second, .val (.long ua), .second, .val (.long lb), .second, .val (.long ub), .second, .val (.long lc), .second, .val (.long uc), .second, .val (.long ld), .second, .val (.long ud), .second, .val (.long uc), .second, .val (.long ((la - (256 : Int64)) + ((x3 &&& (4095 : Int32)).toInt64))), .second, .val (.int cp), .val (.ref b91), .val (.ref b117), .val (.long (cp.toInt64)), .second, .val (.int (0 : Int32))]) ?_ X122 hx (hb hby at_507) rfl rfl
              refine Es.aload (q := 511) ?_ X122 hx (hb hby at_509) rfl rfl rfl
              refine Es.iload (q := 513) ?_ X122 hx (hb hby at_511) rfl rfl
              obtain ⟨cq151, kq151, q151a, q151b, q151c⟩ := isOf hZ rfl Ex122
              obtain ⟨v151, _, ⟨T151, L151, k151, n151⟩, -, X151, ⟨Lc151, hQ151, l151, y151, z151⟩, st151⟩ := X122.virtualBack hx (y := (⟨"com/example/tagwright/tagwright/model/CodePointSet", "contains", "(I)Z"⟩ : MethodName)) (z := (⟨"com/example/tagwright/tagwright/model/CodePointSet", "contains", "(I)Z"⟩ : MethodName)) hown (mvT hZ (hw _ (List.mem_of_getElem? (i := 24) rfl))) (mvT hZ (hw _ (List.mem_of_getElem? (i := 25) rfl))) (notFace_of_selects (args := #[]) (mvT hZ (hw _ (List.mem_of_getElem? (i := 27) rfl)))) (mvT hZ (hw _ (List.mem_of_getElem? (i := 27) rfl))) (mvT hZ (hw _ (List.mem_of_getElem? (i := 26) rfl))) (by decide) (backOf (W := 0) (rmC3 l Z a0 hw [] b117 cp bb (upd (upd (upd (upd (upd (upd (fun _ => (0 : Int32)) 0 (la.toInt32)) 1 (ua.toInt32)) 2 (lb.toInt32)) 3 (ub.toInt32)) 4 (lc.toInt32)) 5 (uc.toInt32)) T122.heap n0 Zs125 Fa122 Va122) hZ (hw _ (List.mem_of_getElem? (i := 28) rfl)) (hw _ (List.mem_of_getElem? (i := 6) rfl)) (by decide) (by decide)) q151a q151c (g := (mkF m 513 #[.val (.int x0), .val (.long x1), .second, .val (.int x2), .val (.int x3), .val (.int (3 : Int32)), .val (.long la), .second, .val (.long ua), .second, .val (.long lb), .second, .val (.long ub), .second, .val (.long lc), .second, .val (.long uc), .second, .val (.long ld), .second, .val (.long ud), .second, .val (.long uc), .second, .val (.long ((la - (256 : Int64)) + ((x3 &&& (4095 : Int32)).toInt64))), .second, .val (.int cp), .val (.ref b91), .val (.ref b117), .val (.long (cp.toInt64)), .second, .val (.int (0 : Int32))] [(.int cp), (.ref b117)])) rfl (by rw [hml]; rfl) (Steps.refl _) (argsL := [(.int cp)]) (rest := []) (lenOf pd_1 rfl) rfl (by show 2 * 0 + _ ≤ _; exact Nat.le_of_eq rfl) (hb hby at_513) (fun _ _ => ⟨rfl, rfl, (by decide : 3 + 0 ≤ _), (by decide : 15 + 0 ≤ _)⟩)
              dsimp only [Pt.U, Pt.locs, Pt.cells, Pt.slots] at X151 l151 y151 z151 st151 hQ151
              subst l151 y151 z151
              obtain ⟨rfl, N151q, e151⟩ := hQ151
              have N151 := Fr.app N122 N151q
              refine Ends.go st151 ?_
              show Ends p e below s _ _ _ (T151.setTop (mkF m 516 #[.val (.int x0), .val (.long x1), .second, .val (.int x2), .val (.int x3), .val (.int (3 : Int32)), .val (.long la), .second, .val (.long ua), .second, .val (.long lb), .second, .val (.long ub), .second, .val (.long lc), .second, .val (.long uc), .second, .val (.long ld), .second, .val (.long ud), .second, .val (.long uc), .second, .val (.long ((la - (256 : Int64)) + ((x3 &&& (4095 : Int32)).toInt64))), .second, .val (.int cp), .val (.ref b91), .val (.ref b117), .val (.long (cp.toInt64)), .second, .val (.int (0 : Int32))] [(.int (fC3 b117 cp bb (upd (upd (upd (upd (upd (upd (fun _ => (0 : Int32)) 0 (la.toInt32)) 1 (ua.toInt32)) 2 (lb.toInt32)) 3 (ub.toInt32)) 4 (lc.toInt32)) 5 (uc.toInt32))))]))
              refine Es.iload (q := 518) ?_ X151 hx (hb hby at_516) rfl rfl
              refine Es.icmpNo (q := 521) ?_ X151 hx (hb hby at_518) rfl (XT.ii_ne_f ((own_c3 (la := la) (ua := ua) (lb := lb) (ub := ub) (lc := lc) (uc := uc) rfl rfl rfl rfl rfl rfl o0 o1 o2 p0 p1 r0 r1).trans (if_neg (by have t0 := hc126; rw [Int64.lt_iff_toInt_lt, c_i2l] at t0; have t1 := hc140; rw [Int64.lt_iff_toInt_lt, c_i2l] at t1; have t2 := hc141; rw [Int64.lt_iff_toInt_lt, c_i2l] at t2; have t3 := hc147; rw [Int64.lt_iff_toInt_lt, c_i2l] at t3; have t4 := hc148; rw [Int64.lt_iff_toInt_lt, c_i2l] at t4; have t5 := hc150; rw [Int64.lt_iff_toInt_lt, c_i2l] at t5; omega)) : (fC3 b117 cp bb (upd (upd (upd (upd (upd (upd (fun _ => (0 : Int32)) 0 (la.toInt32)) 1 (ua.toInt32)) 2 (lb.toInt32)) 3 (ub.toInt32)) 4 (lc.toInt32)) 5 (uc.toInt32))) = (0 : Int32)))
              refine Es.iconst (q := 522) (z := (1 : Int32)) ?_ X151 hx (hb hby at_521) rfl rfl
              refine Es.goto (q := 526) ?_ X151 hx (hb hby at_522) (by decide) (by decide)
              exact Ends.retN X151 hx hlk hret (t := .boolean) (by simp) (hb hby at_526) (w := 1) rfl ⟨rfl, N151⟩ (by decide) (by decide)
            · refine Es.ifYes (q := 502) ?_ X122 hx (hb hby at_477) (XT.ll_le_t hc150) (by decide) (by decide)
              refine Es.iconst (q := 503) (z := (1 : Int32)) ?_ X122 hx (hb hby at_502) rfl rfl
              refine Es.goto (q := 507) ?_ X122 hx (hb hby at_503) (by decide) (by decide)
              refine Es.istore (q := 509) (l' := #[.val (.int x0), .val (.long x1), .second, .val (.int x2), .val (.int x3), .val (.int (3 : Int32)), .val (.long la), .second, .val (.long ua), .second, .val (.long lb), .second, .val (.long ub), .second, .val (.long lc), .second, .val (.long uc), .second, .val (.long ld), .second, .val (.long ud), .second, .val (.long uc), .second, .val (.long ((la - (256 : Int64)) + ((x3 &&& (4095 : Int32)).toInt64))), .second, .val (.int cp), .val (.ref b91), .val (.ref b117), .val (.long (cp.toInt64)), .second, .val (.int (1 : Int32))]) ?_ X122 hx (hb hby at_507) rfl rfl
              refine Es.aload (q := 511) ?_ X122 hx (hb hby at_509) rfl rfl rfl
              refine Es.iload (q := 513) ?_ X122 hx (hb hby at_511) rfl rfl
              obtain ⟨cq152, kq152, q152a, q152b, q152c⟩ := isOf hZ rfl Ex122
              obtain ⟨v152, _, ⟨T152, L152, k152, n152⟩, -, X152, ⟨Lc152, hQ152, l152, y152, z152⟩, st152⟩ := X122.virtualBack hx (y := (⟨"com/example/tagwright/tagwright/model/CodePointSet", "contains", "(I)Z"⟩ : MethodName)) (z := (⟨"com/example/tagwright/tagwright/model/CodePointSet", "contains", "(I)Z"⟩ : MethodName)) hown (mvT hZ (hw _ (List.mem_of_getElem? (i := 24) rfl))) (mvT hZ (hw _ (List.mem_of_getElem? (i := 25) rfl))) (notFace_of_selects (args := #[]) (mvT hZ (hw _ (List.mem_of_getElem? (i := 27) rfl)))) (mvT hZ (hw _ (List.mem_of_getElem? (i := 27) rfl))) (mvT hZ (hw _ (List.mem_of_getElem? (i := 26) rfl))) (by decide) (backOf (W := 0) (rmC3 l Z a0 hw [] b117 cp bb (upd (upd (upd (upd (upd (upd (fun _ => (0 : Int32)) 0 (la.toInt32)) 1 (ua.toInt32)) 2 (lb.toInt32)) 3 (ub.toInt32)) 4 (lc.toInt32)) 5 (uc.toInt32)) T122.heap n0 Zs125 Fa122 Va122) hZ (hw _ (List.mem_of_getElem? (i := 28) rfl)) (hw _ (List.mem_of_getElem? (i := 6) rfl)) (by decide) (by decide)) q152a q152c (g := (mkF m 513 #[.val (.int x0), .val (.long x1), .second, .val (.int x2), .val (.int x3), .val (.int (3 : Int32)), .val (.long la), .second, .val (.long ua), .second, .val (.long lb), .second, .val (.long ub), .second, .val (.long lc), .second, .val (.long uc), .second, .val (.long ld), .second, .val (.long ud), .second, .val (.long uc), .second, .val (.long ((la - (256 : Int64)) + ((x3 &&& (4095 : Int32)).toInt64))), .second, .val (.int cp), .val (.ref b91), .val (.ref b117), .val (.long (cp.toInt64)), .second, .val (.int (1 : Int32))] [(.int cp), (.ref b117)])) rfl (by rw [hml]; rfl) (Steps.refl _) (argsL := [(.int cp)]) (rest := []) (lenOf pd_1 rfl) rfl (by show 2 * 0 + _ ≤ _; exact Nat.le_of_eq rfl) (hb hby at_513) (fun _ _ => ⟨rfl, rfl, (by decide : 3 + 0 ≤ _), (by decide : 15 + 0 ≤ _)⟩)
              dsimp only [Pt.U, Pt.locs, Pt.cells, Pt.slots] at X152 l152 y152 z152 st152 hQ152
              subst l152 y152 z152
              obtain ⟨rfl, N152q, e152⟩ := hQ152
              have N152 := Fr.app N122 N152q
              refine Ends.go st152 ?_
              show Ends p e below s _ _ _ (T152.setTop (mkF m 516 #[.val (.int x0), .val (.long x1), .second, .val (.int x2), .val (.int x3), .val (.int (3 : Int32)), .val (.long la), .second, .val (.long ua), .second, .val (.long lb), .second, .val (.long ub), .second, .val (.long lc), .second, .val (.long uc), .second, .val (.long ld), .second, .val (.long ud), .second, .val (.long uc), .second, .val (.long ((la - (256 : Int64)) + ((x3 &&& (4095 : Int32)).toInt64))), .second, .val (.int cp), .val (.ref b91), .val (.ref b117), .val (.long (cp.toInt64)), .second, .val (.int (1 : Int32))] [(.int (fC3 b117 cp bb (upd (upd (upd (upd (upd (upd (fun _ => (0 : Int32)) 0 (la.toInt32)) 1 (ua.toInt32)) 2 (lb.toInt32)) 3 (ub.toInt32)) 4 (lc.toInt32)) 5 (uc.toInt32))))]))
              refine Es.iload (q := 518) ?_ X152 hx (hb hby at_516) rfl rfl
              refine Es.icmpNo (q := 521) ?_ X152 hx (hb hby at_518) rfl (XT.ii_ne_f ((own_c3 (la := la) (ua := ua) (lb := lb) (ub := ub) (lc := lc) (uc := uc) rfl rfl rfl rfl rfl rfl o0 o1 o2 p0 p1 r0 r1).trans (if_pos (by have t0 := hc126; rw [Int64.lt_iff_toInt_lt, c_i2l] at t0; have t1 := hc140; rw [Int64.lt_iff_toInt_lt, c_i2l] at t1; have t2 := hc141; rw [Int64.lt_iff_toInt_lt, c_i2l] at t2; have t3 := hc147; rw [Int64.lt_iff_toInt_lt, c_i2l] at t3; have t4 := hc148; rw [Int64.lt_iff_toInt_lt, c_i2l] at t4; have t5 := hc150; rw [Int64.lt_iff_toInt_lt, c_i2l] at t5; omega)) : (fC3 b117 cp bb (upd (upd (upd (upd (upd (upd (fun _ => (0 : Int32)) 0 (la.toInt32)) 1 (ua.toInt32)) 2 (lb.toInt32)) 3 (ub.toInt32)) 4 (lc.toInt32)) 5 (uc.toInt32))) = (1 : Int32)))
              refine Es.iconst (q := 522) (z := (1 : Int32)) ?_ X152 hx (hb hby at_521) rfl rfl
              refine Es.goto (q := 526) ?_ X152 hx (hb hby at_522) (by decide) (by decide)
              exact Ends.retN X152 hx hlk hret (t := .boolean) (by simp) (hb hby at_526) (w := 1) rfl ⟨rfl, N152⟩ (by decide) (by decide)
        · refine Es.ifYes (q := 502) ?_ X122 hx (hb hby at_455) (XT.ll_le_t hc147) (by decide) (by decide)
          refine Es.iconst (q := 503) (z := (1 : Int32)) ?_ X122 hx (hb hby at_502) rfl rfl
          refine Es.goto (q := 507) ?_ X122 hx (hb hby at_503) (by decide) (by decide)
          refine Es.istore (q := 509) (l' := #[.val (.int x0), .val (.long x1), .second, .val (.int x2), .val (.int x3), .val (.int (3 : Int32)), .val (.long la), .second, .val (.long ua), .second, .val (.long lb), .second, .val (.long ub), .second, .val (.long lc), .second, .val (.long uc), .second, .val (.long ld), .second, .val (.long ud), .second, .val (.long uc), .second, .val (.long ((la - (256 : Int64)) + ((x3 &&& (4095 : Int32)).toInt64))), .second, .val (.int cp), .val (.ref b91), .val (.ref b117), .val (.long (cp.toInt64)), .second, .val (.int (1 : Int32))]) ?_ X122 hx (hb hby at_507) rfl rfl
          refine Es.aload (q := 511) ?_ X122 hx (hb hby at_509) rfl rfl rfl
          refine Es.iload (q := 513) ?_ X122 hx (hb hby at_511) rfl rfl
          obtain ⟨cq153, kq153, q153a, q153b, q153c⟩ := isOf hZ rfl Ex122
          obtain ⟨v153, _, ⟨T153, L153, k153, n153⟩, -, X153, ⟨Lc153, hQ153, l153, y153, z153⟩, st153⟩ := X122.virtualBack hx (y := (⟨"com/example/tagwright/tagwright/model/CodePointSet", "contains", "(I)Z"⟩ : MethodName)) (z := (⟨"com/example/tagwright/tagwright/model/CodePointSet", "contains", "(I)Z"⟩ : MethodName)) hown (mvT hZ (hw _ (List.mem_of_getElem? (i := 24) rfl))) (mvT hZ (hw _ (List.mem_of_getElem? (i := 25) rfl))) (notFace_of_selects (args := #[]) (mvT hZ (hw _ (List.mem_of_getElem? (i := 27) rfl)))) (mvT hZ (hw _ (List.mem_of_getElem? (i := 27) rfl))) (mvT hZ (hw _ (List.mem_of_getElem? (i := 26) rfl))) (by decide) (backOf (W := 0) (rmC3 l Z a0 hw [] b117 cp bb (upd (upd (upd (upd (upd (upd (fun _ => (0 : Int32)) 0 (la.toInt32)) 1 (ua.toInt32)) 2 (lb.toInt32)) 3 (ub.toInt32)) 4 (lc.toInt32)) 5 (uc.toInt32)) T122.heap n0 Zs125 Fa122 Va122) hZ (hw _ (List.mem_of_getElem? (i := 28) rfl)) (hw _ (List.mem_of_getElem? (i := 6) rfl)) (by decide) (by decide)) q153a q153c (g := (mkF m 513 #[.val (.int x0), .val (.long x1), .second, .val (.int x2), .val (.int x3), .val (.int (3 : Int32)), .val (.long la), .second, .val (.long ua), .second, .val (.long lb), .second, .val (.long ub), .second, .val (.long lc), .second, .val (.long uc), .second, .val (.long ld), .second, .val (.long ud), .second, .val (.long uc), .second, .val (.long ((la - (256 : Int64)) + ((x3 &&& (4095 : Int32)).toInt64))), .second, .val (.int cp), .val (.ref b91), .val (.ref b117), .val (.long (cp.toInt64)), .second, .val (.int (1 : Int32))] [(.int cp), (.ref b117)])) rfl (by rw [hml]; rfl) (Steps.refl _) (argsL := [(.int cp)]) (rest := []) (lenOf pd_1 rfl) rfl (by show 2 * 0 + _ ≤ _; exact Nat.le_of_eq rfl) (hb hby at_513) (fun _ _ => ⟨rfl, rfl, (by decide : 3 + 0 ≤ _), (by decide : 15 + 0 ≤ _)⟩)
          dsimp only [Pt.U, Pt.locs, Pt.cells, Pt.slots] at X153 l153 y153 z153 st153 hQ153
          subst l153 y153 z153
          obtain ⟨rfl, N153q, e153⟩ := hQ153
          have N153 := Fr.app N122 N153q
          refine Ends.go st153 ?_
          show Ends p e below s _ _ _ (T153.setTop (mkF m 516 #[.val (.int x0), .val (.long x1), .second, .val (.int x2), .val (.int x3), .val (.int (3 : Int32)), .val (.long la), .second, .val (.long ua), .second, .val (.long lb), .second, .val (.long ub), .second, .val (.long lc), .second, .val (.long uc), .second, .val (.long ld), .second, .val (.long ud), .second, .val (.long uc), .second, .val (.long ((la - (256 : Int64)) + ((x3 &&& (4095 : Int32)).toInt64))), .second, .val (.int cp), .val (.ref b91), .val (.ref b117), .val (.long (cp.toInt64)), .second, .val (.int (1 : Int32))] [(.int (fC3 b117 cp bb (upd (upd (upd (upd (upd (upd (fun _ => (0 : Int32)) 0 (la.toInt32)) 1 (ua.toInt32)) 2 (lb.toInt32)) 3 (ub.toInt32)) 4 (lc.toInt32)) 5 (uc.toInt32))))]))
          refine Es.iload (q := 518) ?_ X153 hx (hb hby at_516) rfl rfl
          refine Es.icmpNo (q := 521) ?_ X153 hx (hb hby at_518) rfl (XT.ii_ne_f ((own_c3 (la := la) (ua := ua) (lb := lb) (ub := ub) (lc := lc) (uc := uc) rfl rfl rfl rfl rfl rfl o0 o1 o2 p0 p1 r0 r1).trans (if_pos (by have t0 := hc126; rw [Int64.lt_iff_toInt_lt, c_i2l] at t0; have t1 := hc140; rw [Int64.lt_iff_toInt_lt, c_i2l] at t1; have t2 := hc141; rw [Int64.lt_iff_toInt_lt, c_i2l] at t2; have t3 := hc147; rw [Int64.lt_iff_toInt_lt, c_i2l] at t3; omega)) : (fC3 b117 cp bb (upd (upd (upd (upd (upd (upd (fun _ => (0 : Int32)) 0 (la.toInt32)) 1 (ua.toInt32)) 2 (lb.toInt32)) 3 (ub.toInt32)) 4 (lc.toInt32)) 5 (uc.toInt32))) = (1 : Int32)))
          refine Es.iconst (q := 522) (z := (1 : Int32)) ?_ X153 hx (hb hby at_521) rfl rfl
          refine Es.goto (q := 526) ?_ X153 hx (hb hby at_522) (by decide) (by decide)
          exact Ends.retN X153 hx hlk hret (t := .boolean) (by simp) (hb hby at_526) (w := 1) rfl ⟨rfl, N153⟩ (by decide) (by decide)
    · refine Es.ifYes (q := 502) ?_ X122 hx (hb hby at_433) (XT.ll_le_t hc140) (by decide) (by decide)
      refine Es.iconst (q := 503) (z := (1 : Int32)) ?_ X122 hx (hb hby at_502) rfl rfl
      refine Es.goto (q := 507) ?_ X122 hx (hb hby at_503) (by decide) (by decide)
      refine Es.istore (q := 509) (l' := #[.val (.int x0), .val (.long x1), .second, .val (.int x2), .val (.int x3), .val (.int (3 : Int32)), .val (.long la), .second, .val (.long ua), .second, .val (.long lb), .second, .val (.long ub), .second, .val (.long lc), .second, .val (.long uc), .second, .val (.long ld), .second, .val (.long ud), .second, .val (.long uc), .second, .val (.long ((la - (256 : Int64)) + ((x3 &&& (4095 : Int32)).toInt64))), .second, .val (.int cp), .val (.ref b91), .val (.ref b117), .val (.long (cp.toInt64)), .second, .val (.int (1 : Int32))]) ?_ X122 hx (hb hby at_507) rfl rfl
      refine Es.aload (q := 511) ?_ X122 hx (hb hby at_509) rfl rfl rfl
      refine Es.iload (q := 513) ?_ X122 hx (hb hby at_511) rfl rfl
      obtain ⟨cq154, kq154, q154a, q154b, q154c⟩ := isOf hZ rfl Ex122
      obtain ⟨v154, _, ⟨T154, L154, k154, n154⟩, -, X154, ⟨Lc154, hQ154, l154, y154, z154⟩, st154⟩ := X122.virtualBack hx (y := (⟨"com/example/tagwright/tagwright/model/CodePointSet", "contains", "(I)Z"⟩ : MethodName)) (z := (⟨"com/example/tagwright/tagwright/model/CodePointSet", "contains", "(I)Z"⟩ : MethodName)) hown (mvT hZ (hw _ (List.mem_of_getElem? (i := 24) rfl))) (mvT hZ (hw _ (List.mem_of_getElem? (i := 25) rfl))) (notFace_of_selects (args := #[]) (mvT hZ (hw _ (List.mem_of_getElem? (i := 27) rfl)))) (mvT hZ (hw _ (List.mem_of_getElem? (i := 27) rfl))) (mvT hZ (hw _ (List.mem_of_getElem? (i := 26) rfl))) (by decide) (backOf (W := 0) (rmC3 l Z a0 hw [] b117 cp bb (upd (upd (upd (upd (upd (upd (fun _ => (0 : Int32)) 0 (la.toInt32)) 1 (ua.toInt32)) 2 (lb.toInt32)) 3 (ub.toInt32)) 4 (lc.toInt32)) 5 (uc.toInt32)) T122.heap n0 Zs125 Fa122 Va122) hZ (hw _ (List.mem_of_getElem? (i := 28) rfl)) (hw _ (List.mem_of_getElem? (i := 6) rfl)) (by decide) (by decide)) q154a q154c (g := (mkF m 513 #[.val (.int x0), .val (.long x1), .second, .val (.int x2), .val (.int x3), .val (.int (3 : Int32)), .val (.long la), .second, .val (.long ua), .second, .val (.long lb), .second, .val (.long ub), .second, .val (.long lc), .second, .val (.long uc), .second, .val (.long ld), .second, .val (.long ud), .second, .val (.long uc), .second, .val (.long ((la - (256 : Int64)) + ((x3 &&& (4095 : Int32)).toInt64))), .second, .val (.int cp), .val (.ref b91), .val (.ref b117), .val (.long (cp.toInt64)), .second, .val (.int (1 : Int32))] [(.int cp), (.ref b117)])) rfl (by rw [hml]; rfl) (Steps.refl _) (argsL := [(.int cp)]) (rest := []) (lenOf pd_1 rfl) rfl (by show 2 * 0 + _ ≤ _; exact Nat.le_of_eq rfl) (hb hby at_513) (fun _ _ => ⟨rfl, rfl, (by decide : 3 + 0 ≤ _), (by decide : 15 + 0 ≤ _)⟩)
      dsimp only [Pt.U, Pt.locs, Pt.cells, Pt.slots] at X154 l154 y154 z154 st154 hQ154
      subst l154 y154 z154
      obtain ⟨rfl, N154q, e154⟩ := hQ154
      have N154 := Fr.app N122 N154q
      refine Ends.go st154 ?_
      show Ends p e below s _ _ _ (T154.setTop (mkF m 516 #[.val (.int x0), .val (.long x1), .second, .val (.int x2), .val (.int x3), .val (.int (3 : Int32)), .val (.long la), .second, .val (.long ua), .second, .val (.long lb), .second, .val (.long ub), .second, .val (.long lc), .second, .val (.long uc), .second, .val (.long ld), .second, .val (.long ud), .second, .val (.long uc), .second, .val (.long ((la - (256 : Int64)) + ((x3 &&& (4095 : Int32)).toInt64))), .second, .val (.int cp), .val (.ref b91), .val (.ref b117), .val (.long (cp.toInt64)), .second, .val (.int (1 : Int32))] [(.int (fC3 b117 cp bb (upd (upd (upd (upd (upd (upd (fun _ => (0 : Int32)) 0 (la.toInt32)) 1 (ua.toInt32)) 2 (lb.toInt32)) 3 (ub.toInt32)) 4 (lc.toInt32)) 5 (uc.toInt32))))]))
      refine Es.iload (q := 518) ?_ X154 hx (hb hby at_516) rfl rfl
      refine Es.icmpNo (q := 521) ?_ X154 hx (hb hby at_518) rfl (XT.ii_ne_f ((own_c3 (la := la) (ua := ua) (lb := lb) (ub := ub) (lc := lc) (uc := uc) rfl rfl rfl rfl rfl rfl o0 o1 o2 p0 p1 r0 r1).trans (if_pos (by have t0 := hc126; rw [Int64.lt_iff_toInt_lt, c_i2l] at t0; have t1 := hc140; rw [Int64.lt_iff_toInt_lt, c_i2l] at t1; omega)) : (fC3 b117 cp bb (upd (upd (upd (upd (upd (upd (fun _ => (0 : Int32)) 0 (la.toInt32)) 1 (ua.toInt32)) 2 (lb.toInt32)) 3 (ub.toInt32)) 4 (lc.toInt32)) 5 (uc.toInt32))) = (1 : Int32)))
      refine Es.iconst (q := 522) (z := (1 : Int32)) ?_ X154 hx (hb hby at_521) rfl rfl
      refine Es.goto (q := 526) ?_ X154 hx (hb hby at_522) (by decide) (by decide)
      exact Ends.retN X154 hx hlk hret (t := .boolean) (by simp) (hb hby at_526) (w := 1) rfl ⟨rfl, N154⟩ (by decide) (by decide)

set_option maxRecDepth 65536 in
set_option maxHeartbeats 40000000 in
theorem sgN3 {p : Program} {l : Launch} {e : Env} {s : State} {m : MethodId} {args : Array Value} {below : List Frame} {meth : Method} {c : Code} {Z : State} {a0 : Array Value} (hx : p.tables.exec = Jvm.exec) (hZ : Z.Warmed39 s.vm) (hw : ∀ d ∈ tables_1, d.before a0 Z = true) (hby : c.code = code) (hml : c.maxLocals = 32) (hown : s.vm.findClass "com/example/tagwright/tagwright/model/CodePointSetContainsPinLaw" = some m.cls) (hlk : meth.locks = false) (hret : meth.sig.returnType = some .boolean) {T : State} {locs : List Loc} {h : Heap} {n0 : Nat} (x0 : Int32) (x1 : Int64) (x2 : Int32) (x3 : Int32) (la : Int64) (ua : Int64) (lb : Int64) (ub : Int64) (lc : Int64) (uc : Int64) (ld : Int64) (ud : Int64) (X : Stand p l e room_1 s m args below meth c T locs 0 0) (eT : T.heap = h) (N : Fr n0 locs) (Zs : n0 ≤ h.size) (r0 : -2147483648 ≤ la.toInt) (o0 : la.toInt ≤ ua.toInt) (p0 : ua.toInt < lb.toInt) (o1 : lb.toInt ≤ ub.toInt) (p1 : ub.toInt < lc.toInt) (o2 : lc.toInt ≤ uc.toInt) (p2 : uc.toInt < ld.toInt) (o3 : ld.toInt ≤ ud.toInt) :
    Ends p e below s (QL n0) room_1.cells room_1.slots (T.setTop (mkF m 106 #[.val (.int x0), .val (.long x1), .second, .val (.int x2), .val (.int x3), .val (.int (3 : Int32)), .val (.long la), .second, .val (.long ua), .second, .val (.long lb), .second, .val (.long ub), .second, .val (.long lc), .second, .val (.long uc), .second, .val (.long ld), .second, .val (.long ud), .second, .unset, .unset, .unset, .unset, .unset, .unset, .unset, .unset, .unset, .unset] [])) := by
  show Ends p e below s _ _ _ (T.setTop (mkF m 106 #[.val (.int x0), .val (.long x1), .second, .val (.int x2), .val (.int x3), .val (.int (3 : Int32)), .val (.long la), .second, .val (.long ua), .second, .val (.long lb), .second, .val (.long ub), .second, .val (.long lc), .second, .val (.long uc), .second, .val (.long ld), .second, .val (.long ud), .second, .unset, .unset, .unset, .unset, .unset, .unset, .unset, .unset, .unset, .unset] []))
  refine Es.iload (q := 108) ?_ X hx (hb hby at_106) rfl rfl
  refine Es.ifYes (q := 116) ?_ X hx (hb hby at_108) (XT.i0_ne_t (by decide)) (by decide) (by decide)
  refine Es.iload (q := 118) ?_ X hx (hb hby at_116) rfl rfl
  refine Es.iconst (q := 119) (z := (1 : Int32)) ?_ X hx (hb hby at_118) rfl rfl
  refine Es.icmpYes (q := 127) ?_ X hx (hb hby at_119) (XT.ii_ne_t (by decide)) (by decide) (by decide)
  refine Es.iload (q := 129) ?_ X hx (hb hby at_127) rfl rfl
  refine Es.iconst (q := 130) (z := (2 : Int32)) ?_ X hx (hb hby at_129) rfl rfl
  refine Es.icmpYes (q := 138) ?_ X hx (hb hby at_130) (XT.ii_ne_t (by decide)) (by decide) (by decide)
  refine Es.iload (q := 140) ?_ X hx (hb hby at_138) rfl rfl
  refine Es.iconst (q := 141) (z := (3 : Int32)) ?_ X hx (hb hby at_140) rfl rfl
  refine Es.icmpNo (q := 144) ?_ X hx (hb hby at_141) rfl (XT.ii_ne_f (by decide))
  refine Es.lload (q := 146) ?_ X hx (hb hby at_144) rfl rfl
  refine Es.goto (q := 151) ?_ X hx (hb hby at_146) (by decide) (by decide)
  refine Es.lstore (q := 153) (l' := #[.val (.int x0), .val (.long x1), .second, .val (.int x2), .val (.int x3), .val (.int (3 : Int32)), .val (.long la), .second, .val (.long ua), .second, .val (.long lb), .second, .val (.long ub), .second, .val (.long lc), .second, .val (.long uc), .second, .val (.long ld), .second, .val (.long ud), .second, .val (.long uc), .second, .unset, .unset, .unset, .unset, .unset, .unset, .unset, .unset]) ?_ X hx (hb hby at_151) rfl rfl
  refine Es.lload (q := 155) ?_ X hx (hb hby at_153) rfl rfl
  refine Es.ldc2 (q := 158) ?_ X hx hown (mvT hZ (hw _ (List.mem_of_getElem? (i := 1) rfl))) (hb hby at_155) rfl
  refine Es.lcmp (q := 159) ?_ X hx (hb hby at_158) rfl
  by_cases hc89 : (2147483647 : Int64) < uc
  · refine Es.ifNo (q := 162) ?_ X hx (hb hby at_159) rfl (XT.ll_le_f hc89)
    refine Es.iconst (q := 163) (z := (1 : Int32)) ?_ X hx (hb hby at_162) rfl rfl
    exact Ends.retN X hx hlk hret (t := .boolean) (by simp) (hb hby at_163) (w := 1) rfl ⟨rfl, N⟩ (by decide) (by decide)
  · refine Es.ifYes (q := 164) ?_ X hx (hb hby at_159) (XT.ll_le_t hc89) (by decide) (by decide)
    refine Es.lload (q := 166) ?_ X hx (hb hby at_164) rfl rfl
    refine Es.ldc2 (q := 169) ?_ X hx hown (mvT hZ (hw _ (List.mem_of_getElem? (i := 2) rfl))) (hb hby at_166) rfl
    refine Es.lsub (q := 170) ?_ X hx (hb hby at_169) rfl
    refine Es.iload (q := 172) ?_ X hx (hb hby at_170) rfl rfl
    refine Es.sipush (q := 175) (z := (4095 : Int32)) ?_ X hx (hb hby at_172) rfl rfl
    refine Es.iand (q := 176) ?_ X hx (hb hby at_175) rfl
    refine Es.i2l (q := 177) ?_ X hx (hb hby at_176) rfl
    refine Es.ladd (q := 178) ?_ X hx (hb hby at_177) rfl
    refine Es.lstore (q := 180) (l' := #[.val (.int x0), .val (.long x1), .second, .val (.int x2), .val (.int x3), .val (.int (3 : Int32)), .val (.long la), .second, .val (.long ua), .second, .val (.long lb), .second, .val (.long ub), .second, .val (.long lc), .second, .val (.long uc), .second, .val (.long ld), .second, .val (.long ud), .second, .val (.long uc), .second, .val (.long ((la - (256 : Int64)) + ((x3 &&& (4095 : Int32)).toInt64))), .second, .unset, .unset, .unset, .unset, .unset, .unset]) ?_ X hx (hb hby at_178) rfl rfl
    refine Es.iload (q := 182) ?_ X hx (hb hby at_180) rfl rfl
    refine Es.istore (q := 184) (l' := #[.val (.int x0), .val (.long x1), .second, .val (.int x2), .val (.int x3), .val (.int (3 : Int32)), .val (.long la), .second, .val (.long ua), .second, .val (.long lb), .second, .val (.long ub), .second, .val (.long lc), .second, .val (.long uc), .second, .val (.long ld), .second, .val (.long ud), .second, .val (.long uc), .second, .val (.long ((la - (256 : Int64)) + ((x3 &&& (4095 : Int32)).toInt64))), .second, .val (.int x3), .unset, .unset, .unset, .unset, .unset]) ?_ X hx (hb hby at_182) rfl rfl
    refine Es.iloadN (q := 185) ?_ X hx (hb hby at_184) rfl rfl
    refine Es.bipush (q := 187) (z := (8 : Int32)) ?_ X hx (hb hby at_185) rfl rfl
    refine Es.iand (q := 188) ?_ X hx (hb hby at_187) rfl
    by_cases hc90 : (x2 &&& (8 : Int32)) = (0 : Int32)
    · refine Es.ifYes (q := 214) ?_ X hx (hb hby at_188) (XT.i0_eq_t hc90) (by decide) (by decide)
      have r1 : uc.toInt ≤ 2147483647 := by have q := hc89; rw [Int64.lt_iff_toInt_lt] at q; have e1 : (2147483647 : Int64).toInt = 2147483647 := rfl; omega
      exact sgP3 hx hZ hw hby hml hown hlk hret (x0) (x1) (x2) (x3) (la) (ua) (lb) (ub) (lc) (uc) (ld) (ud) (x3) X eT N Zs r0 o0 p0 o1 p1 o2 p2 o3 r1
    · refine Es.ifNo (q := 191) ?_ X hx (hb hby at_188) rfl (XT.i0_eq_f hc90)
      refine Es.lload (q := 193) ?_ X hx (hb hby at_191) rfl rfl
      refine Es.ldc2 (q := 196) ?_ X hx hown (mvT hZ (hw _ (List.mem_of_getElem? (i := 29) rfl))) (hb hby at_193) rfl
      refine Es.lcmp (q := 197) ?_ X hx (hb hby at_196) rfl
      by_cases hc155 : ((la - (256 : Int64)) + ((x3 &&& (4095 : Int32)).toInt64)) < (-2147483648 : Int64)
      · refine Es.ifYes (q := 214) ?_ X hx (hb hby at_197) (XT.ll_lt_t hc155) (by decide) (by decide)
        have r1 : uc.toInt ≤ 2147483647 := by have q := hc89; rw [Int64.lt_iff_toInt_lt] at q; have e1 : (2147483647 : Int64).toInt = 2147483647 := rfl; omega
        exact sgP3 hx hZ hw hby hml hown hlk hret (x0) (x1) (x2) (x3) (la) (ua) (lb) (ub) (lc) (uc) (ld) (ud) (x3) X eT N Zs r0 o0 p0 o1 p1 o2 p2 o3 r1
      · refine Es.ifNo (q := 200) ?_ X hx (hb hby at_197) rfl (XT.ll_lt_f hc155)
        refine Es.lload (q := 202) ?_ X hx (hb hby at_200) rfl rfl
        refine Es.ldc2 (q := 205) ?_ X hx hown (mvT hZ (hw _ (List.mem_of_getElem? (i := 1) rfl))) (hb hby at_202) rfl
        refine Es.lcmp (q := 206) ?_ X hx (hb hby at_205) rfl
        by_cases hc156 : (2147483647 : Int64) < ((la - (256 : Int64)) + ((x3 &&& (4095 : Int32)).toInt64))
        · refine Es.ifYes (q := 214) ?_ X hx (hb hby at_206) (XT.ll_gt_t hc156) (by decide) (by decide)
          have r1 : uc.toInt ≤ 2147483647 := by have q := hc89; rw [Int64.lt_iff_toInt_lt] at q; have e1 : (2147483647 : Int64).toInt = 2147483647 := rfl; omega
          exact sgP3 hx hZ hw hby hml hown hlk hret (x0) (x1) (x2) (x3) (la) (ua) (lb) (ub) (lc) (uc) (ld) (ud) (x3) X eT N Zs r0 o0 p0 o1 p1 o2 p2 o3 r1
        · refine Es.ifNo (q := 209) ?_ X hx (hb hby at_206) rfl (XT.ll_gt_f hc156)
          refine Es.lload (q := 211) ?_ X hx (hb hby at_209) rfl rfl
          refine Es.l2i (q := 212) ?_ X hx (hb hby at_211) rfl
          refine Es.istore (q := 214) (l' := #[.val (.int x0), .val (.long x1), .second, .val (.int x2), .val (.int x3), .val (.int (3 : Int32)), .val (.long la), .second, .val (.long ua), .second, .val (.long lb), .second, .val (.long ub), .second, .val (.long lc), .second, .val (.long uc), .second, .val (.long ld), .second, .val (.long ud), .second, .val (.long uc), .second, .val (.long ((la - (256 : Int64)) + ((x3 &&& (4095 : Int32)).toInt64))), .second, .val (.int (((la - (256 : Int64)) + ((x3 &&& (4095 : Int32)).toInt64)).toInt32)), .unset, .unset, .unset, .unset, .unset]) ?_ X hx (hb hby at_212) rfl rfl
          have r1 : uc.toInt ≤ 2147483647 := by have q := hc89; rw [Int64.lt_iff_toInt_lt] at q; have e1 : (2147483647 : Int64).toInt = 2147483647 := rfl; omega
          exact sgP3 hx hZ hw hby hml hown hlk hret (x0) (x1) (x2) (x3) (la) (ua) (lb) (ub) (lc) (uc) (ld) (ud) ((((la - (256 : Int64)) + ((x3 &&& (4095 : Int32)).toInt64)).toInt32)) X eT N Zs r0 o0 p0 o1 p1 o2 p2 o3 r1

set_option maxRecDepth 65536 in
set_option maxHeartbeats 40000000 in
theorem sgP4 {p : Program} {l : Launch} {e : Env} {s : State} {m : MethodId} {args : Array Value} {below : List Frame} {meth : Method} {c : Code} {Z : State} {a0 : Array Value} (hx : p.tables.exec = Jvm.exec) (hZ : Z.Warmed39 s.vm) (hw : ∀ d ∈ tables_1, d.before a0 Z = true) (hby : c.code = code) (hml : c.maxLocals = 32) (hown : s.vm.findClass "com/example/tagwright/tagwright/model/CodePointSetContainsPinLaw" = some m.cls) (hlk : meth.locks = false) (hret : meth.sig.returnType = some .boolean) {T : State} {locs : List Loc} {h : Heap} {n0 : Nat} (x0 : Int32) (x1 : Int64) (x2 : Int32) (x3 : Int32) (la : Int64) (ua : Int64) (lb : Int64) (ub : Int64) (lc : Int64) (uc : Int64) (ld : Int64) (ud : Int64) (cp : Int32) (X : Stand p l e room_1 s m args below meth c T locs 0 0) (eT : T.heap = h) (N : Fr n0 locs) (Zs : n0 ≤ h.size) (r0 : -2147483648 ≤ la.toInt) (o0 : la.toInt ≤ ua.toInt) (p0 : ua.toInt < lb.toInt) (o1 : lb.toInt ≤ ub.toInt) (p1 : ub.toInt < lc.toInt) (o2 : lc.toInt ≤ uc.toInt) (p2 : uc.toInt < ld.toInt) (o3 : ld.toInt ≤ ud.toInt) (r1 : ud.toInt ≤ 2147483647) :
    Ends p e below s (QL n0) room_1.cells room_1.slots (T.setTop (mkF m 214 #[.val (.int x0), .val (.long x1), .second, .val (.int x2), .val (.int x3), .val (.int (4 : Int32)), .val (.long la), .second, .val (.long ua), .second, .val (.long lb), .second, .val (.long ub), .second, .val (.long lc), .second, .val (.long uc), .second, .val (.long ld), .second, .val (.long ud), .second, .val (.long ud), .second, .val (.long ((la - (256 : Int64)) + ((x3 &&& (4095 : Int32)).toInt64))), .second, .val (.int cp), .unset, .unset, .unset, .unset, .unset] [])) := by
  show Ends p e below s _ _ _ (T.setTop (mkF m 214 #[.val (.int x0), .val (.long x1), .second, .val (.int x2), .val (.int x3), .val (.int (4 : Int32)), .val (.long la), .second, .val (.long ua), .second, .val (.long lb), .second, .val (.long ub), .second, .val (.long lc), .second, .val (.long uc), .second, .val (.long ld), .second, .val (.long ud), .second, .val (.long ud), .second, .val (.long ((la - (256 : Int64)) + ((x3 &&& (4095 : Int32)).toInt64))), .second, .val (.int cp), .unset, .unset, .unset, .unset, .unset] []))
  refine Es.iload (q := 216) ?_ X hx (hb hby at_214) rfl rfl
  refine Es.ifYes (q := 227) ?_ X hx (hb hby at_216) (XT.i0_ne_t (by decide)) (by decide) (by decide)
  refine Es.iload (q := 229) ?_ X hx (hb hby at_227) rfl rfl
  refine Es.iconst (q := 230) (z := (1 : Int32)) ?_ X hx (hb hby at_229) rfl rfl
  refine Es.icmpYes (q := 253) ?_ X hx (hb hby at_230) (XT.ii_ne_t (by decide)) (by decide) (by decide)
  refine Es.iload (q := 255) ?_ X hx (hb hby at_253) rfl rfl
  refine Es.iconst (q := 256) (z := (2 : Int32)) ?_ X hx (hb hby at_255) rfl rfl
  refine Es.icmpYes (q := 291) ?_ X hx (hb hby at_256) (XT.ii_ne_t (by decide)) (by decide) (by decide)
  refine Es.iload (q := 293) ?_ X hx (hb hby at_291) rfl rfl
  refine Es.iconst (q := 294) (z := (3 : Int32)) ?_ X hx (hb hby at_293) rfl rfl
  refine Es.icmpYes (q := 342) ?_ X hx (hb hby at_294) (XT.ii_ne_t (by decide)) (by decide) (by decide)
  refine Es.bipush (q := 344) (z := (8 : Int32)) ?_ X hx (hb hby at_342) rfl rfl
  obtain ⟨T159, h159, X159, e159, E159, V159, Ax159, st159⟩ := newArE X hx hZ (C := "[I") rfl (hw _ (List.mem_of_getElem? (i := 3) rfl)) rfl eT (n := 8) (z := (8 : Int32)) (cap := 8) (by decide) (by decide) (by decide) (by decide) (by decide) (Ls := #[.val (.int x0), .val (.long x1), .second, .val (.int x2), .val (.int x3), .val (.int (4 : Int32)), .val (.long la), .second, .val (.long ua), .second, .val (.long lb), .second, .val (.long ub), .second, .val (.long lc), .second, .val (.long uc), .second, .val (.long ld), .second, .val (.long ud), .second, .val (.long ud), .second, .val (.long ((la - (256 : Int64)) + ((x3 &&& (4095 : Int32)).toInt64))), .second, .val (.int cp), .unset, .unset, .unset, .unset, .unset]) (S := []) (hb hby at_344)
  obtain ⟨b159, g159⟩ : ∃ z, z = h.size := ⟨_, rfl⟩
  rw [← g159] at V159 Ax159 st159
  have gn159 : n0 ≤ b159 := Nat.le_trans Zs (Nat.le_of_eq g159.symm)
  have Zs160 : n0 ≤ h159.size := Nat.le_trans Zs E159.1
  refine Ends.by ?_ st159
  show Ends p e below s _ _ _ (T159.setTop (mkF m 346 #[.val (.int x0), .val (.long x1), .second, .val (.int x2), .val (.int x3), .val (.int (4 : Int32)), .val (.long la), .second, .val (.long ua), .second, .val (.long lb), .second, .val (.long ub), .second, .val (.long lc), .second, .val (.long uc), .second, .val (.long ld), .second, .val (.long ud), .second, .val (.long ud), .second, .val (.long ((la - (256 : Int64)) + ((x3 &&& (4095 : Int32)).toInt64))), .second, .val (.int cp), .unset, .unset, .unset, .unset, .unset] [(.ref b159)]))
  refine Es.dup (q := 347) ?_ X159 hx (hb hby at_346) rfl rfl
  refine Es.iconst (q := 348) (z := (0 : Int32)) ?_ X159 hx (hb hby at_347) rfl rfl
  refine Es.lload (q := 350) ?_ X159 hx (hb hby at_348) rfl rfl
  refine Es.l2i (q := 351) ?_ X159 hx (hb hby at_350) rfl
  obtain ⟨T161, h161, X161, e161, W161, V161, st161⟩ := stIA X159 hx hZ e159 V159 (j := (0 : Int32)) (x := (la.toInt32)) (by decide) (Ls := #[.val (.int x0), .val (.long x1), .second, .val (.int x2), .val (.int x3), .val (.int (4 : Int32)), .val (.long la), .second, .val (.long ua), .second, .val (.long lb), .second, .val (.long ub), .second, .val (.long lc), .second, .val (.long uc), .second, .val (.long ld), .second, .val (.long ud), .second, .val (.long ud), .second, .val (.long ((la - (256 : Int64)) + ((x3 &&& (4095 : Int32)).toInt64))), .second, .val (.int cp), .unset, .unset, .unset, .unset, .unset]) (S := [(.ref b159)]) (hb hby at_351)
  have f163 := Exa.wr W161 Ax159
  have N161 := Fr.snoc X161 N gn159
  have Zs164 : n0 ≤ h161.size := Nat.le_trans Zs160 (Keep.of_wr W161).1
  refine Ends.by ?_ st161
  show Ends p e below s _ _ _ (T161.setTop (mkF m 352 #[.val (.int x0), .val (.long x1), .second, .val (.int x2), .val (.int x3), .val (.int (4 : Int32)), .val (.long la), .second, .val (.long ua), .second, .val (.long lb), .second, .val (.long ub), .second, .val (.long lc), .second, .val (.long uc), .second, .val (.long ld), .second, .val (.long ud), .second, .val (.long ud), .second, .val (.long ((la - (256 : Int64)) + ((x3 &&& (4095 : Int32)).toInt64))), .second, .val (.int cp), .unset, .unset, .unset, .unset, .unset] [(.ref b159)]))
  refine Es.dup (q := 353) ?_ X161 hx (hb hby at_352) rfl rfl
  refine Es.iconst (q := 354) (z := (1 : Int32)) ?_ X161 hx (hb hby at_353) rfl rfl
  refine Es.lload (q := 356) ?_ X161 hx (hb hby at_354) rfl rfl
  refine Es.l2i (q := 357) ?_ X161 hx (hb hby at_356) rfl
  obtain ⟨T165, h165, X165, e165, W165, V165, st165⟩ := stIA X161 hx hZ e161 V161 (j := (1 : Int32)) (x := (ua.toInt32)) (by decide) (Ls := #[.val (.int x0), .val (.long x1), .second, .val (.int x2), .val (.int x3), .val (.int (4 : Int32)), .val (.long la), .second, .val (.long ua), .second, .val (.long lb), .second, .val (.long ub), .second, .val (.long lc), .second, .val (.long uc), .second, .val (.long ld), .second, .val (.long ud), .second, .val (.long ud), .second, .val (.long ((la - (256 : Int64)) + ((x3 &&& (4095 : Int32)).toInt64))), .second, .val (.int cp), .unset, .unset, .unset, .unset, .unset]) (S := [(.ref b159)]) (hb hby at_357)
  have f167 := Exa.wr W165 f163
  have N165 := Fr.snoc X165 N161 gn159
  have Zs168 : n0 ≤ h165.size := Nat.le_trans Zs164 (Keep.of_wr W165).1
  refine Ends.by ?_ st165
  show Ends p e below s _ _ _ (T165.setTop (mkF m 358 #[.val (.int x0), .val (.long x1), .second, .val (.int x2), .val (.int x3), .val (.int (4 : Int32)), .val (.long la), .second, .val (.long ua), .second, .val (.long lb), .second, .val (.long ub), .second, .val (.long lc), .second, .val (.long uc), .second, .val (.long ld), .second, .val (.long ud), .second, .val (.long ud), .second, .val (.long ((la - (256 : Int64)) + ((x3 &&& (4095 : Int32)).toInt64))), .second, .val (.int cp), .unset, .unset, .unset, .unset, .unset] [(.ref b159)]))
  refine Es.dup (q := 359) ?_ X165 hx (hb hby at_358) rfl rfl
  refine Es.iconst (q := 360) (z := (2 : Int32)) ?_ X165 hx (hb hby at_359) rfl rfl
  refine Es.lload (q := 362) ?_ X165 hx (hb hby at_360) rfl rfl
  refine Es.l2i (q := 363) ?_ X165 hx (hb hby at_362) rfl
  obtain ⟨T169, h169, X169, e169, W169, V169, st169⟩ := stIA X165 hx hZ e165 V165 (j := (2 : Int32)) (x := (lb.toInt32)) (by decide) (Ls := #[.val (.int x0), .val (.long x1), .second, .val (.int x2), .val (.int x3), .val (.int (4 : Int32)), .val (.long la), .second, .val (.long ua), .second, .val (.long lb), .second, .val (.long ub), .second, .val (.long lc), .second, .val (.long uc), .second, .val (.long ld), .second, .val (.long ud), .second, .val (.long ud), .second, .val (.long ((la - (256 : Int64)) + ((x3 &&& (4095 : Int32)).toInt64))), .second, .val (.int cp), .unset, .unset, .unset, .unset, .unset]) (S := [(.ref b159)]) (hb hby at_363)
  have f171 := Exa.wr W169 f167
  have N169 := Fr.snoc X169 N165 gn159
  have Zs172 : n0 ≤ h169.size := Nat.le_trans Zs168 (Keep.of_wr W169).1
  refine Ends.by ?_ st169
  show Ends p e below s _ _ _ (T169.setTop (mkF m 364 #[.val (.int x0), .val (.long x1), .second, .val (.int x2), .val (.int x3), .val (.int (4 : Int32)), .val (.long la), .second, .val (.long ua), .second, .val (.long lb), .second, .val (.long ub), .second, .val (.long lc), .second, .val (.long uc), .second, .val (.long ld), .second, .val (.long ud), .second, .val (.long ud), .second, .val (.long ((la - (256 : Int64)) + ((x3 &&& (4095 : Int32)).toInt64))), .second, .val (.int cp), .unset, .unset, .unset, .unset, .unset] [(.ref b159)]))
  refine Es.dup (q := 365) ?_ X169 hx (hb hby at_364) rfl rfl
  refine Es.iconst (q := 366) (z := (3 : Int32)) ?_ X169 hx (hb hby at_365) rfl rfl
  refine Es.lload (q := 368) ?_ X169 hx (hb hby at_366) rfl rfl
  refine Es.l2i (q := 369) ?_ X169 hx (hb hby at_368) rfl
  obtain ⟨T173, h173, X173, e173, W173, V173, st173⟩ := stIA X169 hx hZ e169 V169 (j := (3 : Int32)) (x := (ub.toInt32)) (by decide) (Ls := #[.val (.int x0), .val (.long x1), .second, .val (.int x2), .val (.int x3), .val (.int (4 : Int32)), .val (.long la), .second, .val (.long ua), .second, .val (.long lb), .second, .val (.long ub), .second, .val (.long lc), .second, .val (.long uc), .second, .val (.long ld), .second, .val (.long ud), .second, .val (.long ud), .second, .val (.long ((la - (256 : Int64)) + ((x3 &&& (4095 : Int32)).toInt64))), .second, .val (.int cp), .unset, .unset, .unset, .unset, .unset]) (S := [(.ref b159)]) (hb hby at_369)
  have f175 := Exa.wr W173 f171
  have N173 := Fr.snoc X173 N169 gn159
  have Zs176 : n0 ≤ h173.size := Nat.le_trans Zs172 (Keep.of_wr W173).1
  refine Ends.by ?_ st173
  show Ends p e below s _ _ _ (T173.setTop (mkF m 370 #[.val (.int x0), .val (.long x1), .second, .val (.int x2), .val (.int x3), .val (.int (4 : Int32)), .val (.long la), .second, .val (.long ua), .second, .val (.long lb), .second, .val (.long ub), .second, .val (.long lc), .second, .val (.long uc), .second, .val (.long ld), .second, .val (.long ud), .second, .val (.long ud), .second, .val (.long ((la - (256 : Int64)) + ((x3 &&& (4095 : Int32)).toInt64))), .second, .val (.int cp), .unset, .unset, .unset, .unset, .unset] [(.ref b159)]))
  refine Es.dup (q := 371) ?_ X173 hx (hb hby at_370) rfl rfl
  refine Es.iconst (q := 372) (z := (4 : Int32)) ?_ X173 hx (hb hby at_371) rfl rfl
  refine Es.lload (q := 374) ?_ X173 hx (hb hby at_372) rfl rfl
  refine Es.l2i (q := 375) ?_ X173 hx (hb hby at_374) rfl
  obtain ⟨T177, h177, X177, e177, W177, V177, st177⟩ := stIA X173 hx hZ e173 V173 (j := (4 : Int32)) (x := (lc.toInt32)) (by decide) (Ls := #[.val (.int x0), .val (.long x1), .second, .val (.int x2), .val (.int x3), .val (.int (4 : Int32)), .val (.long la), .second, .val (.long ua), .second, .val (.long lb), .second, .val (.long ub), .second, .val (.long lc), .second, .val (.long uc), .second, .val (.long ld), .second, .val (.long ud), .second, .val (.long ud), .second, .val (.long ((la - (256 : Int64)) + ((x3 &&& (4095 : Int32)).toInt64))), .second, .val (.int cp), .unset, .unset, .unset, .unset, .unset]) (S := [(.ref b159)]) (hb hby at_375)
  have f179 := Exa.wr W177 f175
  have N177 := Fr.snoc X177 N173 gn159
  have Zs180 : n0 ≤ h177.size := Nat.le_trans Zs176 (Keep.of_wr W177).1
  refine Ends.by ?_ st177
  show Ends p e below s _ _ _ (T177.setTop (mkF m 376 #[.val (.int x0), .val (.long x1), .second, .val (.int x2), .val (.int x3), .val (.int (4 : Int32)), .val (.long la), .second, .val (.long ua), .second, .val (.long lb), .second, .val (.long ub), .second, .val (.long lc), .second, .val (.long uc), .second, .val (.long ld), .second, .val (.long ud), .second, .val (.long ud), .second, .val (.long ((la - (256 : Int64)) + ((x3 &&& (4095 : Int32)).toInt64))), .second, .val (.int cp), .unset, .unset, .unset, .unset, .unset] [(.ref b159)]))
  refine Es.dup (q := 377) ?_ X177 hx (hb hby at_376) rfl rfl
  refine Es.iconst (q := 378) (z := (5 : Int32)) ?_ X177 hx (hb hby at_377) rfl rfl
  refine Es.lload (q := 380) ?_ X177 hx (hb hby at_378) rfl rfl
  refine Es.l2i (q := 381) ?_ X177 hx (hb hby at_380) rfl
  obtain ⟨T181, h181, X181, e181, W181, V181, st181⟩ := stIA X177 hx hZ e177 V177 (j := (5 : Int32)) (x := (uc.toInt32)) (by decide) (Ls := #[.val (.int x0), .val (.long x1), .second, .val (.int x2), .val (.int x3), .val (.int (4 : Int32)), .val (.long la), .second, .val (.long ua), .second, .val (.long lb), .second, .val (.long ub), .second, .val (.long lc), .second, .val (.long uc), .second, .val (.long ld), .second, .val (.long ud), .second, .val (.long ud), .second, .val (.long ((la - (256 : Int64)) + ((x3 &&& (4095 : Int32)).toInt64))), .second, .val (.int cp), .unset, .unset, .unset, .unset, .unset]) (S := [(.ref b159)]) (hb hby at_381)
  have f183 := Exa.wr W181 f179
  have N181 := Fr.snoc X181 N177 gn159
  have Zs184 : n0 ≤ h181.size := Nat.le_trans Zs180 (Keep.of_wr W181).1
  refine Ends.by ?_ st181
  show Ends p e below s _ _ _ (T181.setTop (mkF m 382 #[.val (.int x0), .val (.long x1), .second, .val (.int x2), .val (.int x3), .val (.int (4 : Int32)), .val (.long la), .second, .val (.long ua), .second, .val (.long lb), .second, .val (.long ub), .second, .val (.long lc), .second, .val (.long uc), .second, .val (.long ld), .second, .val (.long ud), .second, .val (.long ud), .second, .val (.long ((la - (256 : Int64)) + ((x3 &&& (4095 : Int32)).toInt64))), .second, .val (.int cp), .unset, .unset, .unset, .unset, .unset] [(.ref b159)]))
  refine Es.dup (q := 383) ?_ X181 hx (hb hby at_382) rfl rfl
  refine Es.bipush (q := 385) (z := (6 : Int32)) ?_ X181 hx (hb hby at_383) rfl rfl
  refine Es.lload (q := 387) ?_ X181 hx (hb hby at_385) rfl rfl
  refine Es.l2i (q := 388) ?_ X181 hx (hb hby at_387) rfl
  obtain ⟨T185, h185, X185, e185, W185, V185, st185⟩ := stIA X181 hx hZ e181 V181 (j := (6 : Int32)) (x := (ld.toInt32)) (by decide) (Ls := #[.val (.int x0), .val (.long x1), .second, .val (.int x2), .val (.int x3), .val (.int (4 : Int32)), .val (.long la), .second, .val (.long ua), .second, .val (.long lb), .second, .val (.long ub), .second, .val (.long lc), .second, .val (.long uc), .second, .val (.long ld), .second, .val (.long ud), .second, .val (.long ud), .second, .val (.long ((la - (256 : Int64)) + ((x3 &&& (4095 : Int32)).toInt64))), .second, .val (.int cp), .unset, .unset, .unset, .unset, .unset]) (S := [(.ref b159)]) (hb hby at_388)
  have f187 := Exa.wr W185 f183
  have N185 := Fr.snoc X185 N181 gn159
  have Zs188 : n0 ≤ h185.size := Nat.le_trans Zs184 (Keep.of_wr W185).1
  refine Ends.by ?_ st185
  show Ends p e below s _ _ _ (T185.setTop (mkF m 389 #[.val (.int x0), .val (.long x1), .second, .val (.int x2), .val (.int x3), .val (.int (4 : Int32)), .val (.long la), .second, .val (.long ua), .second, .val (.long lb), .second, .val (.long ub), .second, .val (.long lc), .second, .val (.long uc), .second, .val (.long ld), .second, .val (.long ud), .second, .val (.long ud), .second, .val (.long ((la - (256 : Int64)) + ((x3 &&& (4095 : Int32)).toInt64))), .second, .val (.int cp), .unset, .unset, .unset, .unset, .unset] [(.ref b159)]))
  refine Es.dup (q := 390) ?_ X185 hx (hb hby at_389) rfl rfl
  refine Es.bipush (q := 392) (z := (7 : Int32)) ?_ X185 hx (hb hby at_390) rfl rfl
  refine Es.lload (q := 394) ?_ X185 hx (hb hby at_392) rfl rfl
  refine Es.l2i (q := 395) ?_ X185 hx (hb hby at_394) rfl
  obtain ⟨T189, h189, X189, e189, W189, V189, st189⟩ := stIA X185 hx hZ e185 V185 (j := (7 : Int32)) (x := (ud.toInt32)) (by decide) (Ls := #[.val (.int x0), .val (.long x1), .second, .val (.int x2), .val (.int x3), .val (.int (4 : Int32)), .val (.long la), .second, .val (.long ua), .second, .val (.long lb), .second, .val (.long ub), .second, .val (.long lc), .second, .val (.long uc), .second, .val (.long ld), .second, .val (.long ud), .second, .val (.long ud), .second, .val (.long ((la - (256 : Int64)) + ((x3 &&& (4095 : Int32)).toInt64))), .second, .val (.int cp), .unset, .unset, .unset, .unset, .unset]) (S := [(.ref b159)]) (hb hby at_395)
  have f191 := Exa.wr W189 f187
  have N189 := Fr.snoc X189 N185 gn159
  have Zs192 : n0 ≤ h189.size := Nat.le_trans Zs188 (Keep.of_wr W189).1
  refine Ends.by ?_ st189
  show Ends p e below s _ _ _ (T189.setTop (mkF m 396 #[.val (.int x0), .val (.long x1), .second, .val (.int x2), .val (.int x3), .val (.int (4 : Int32)), .val (.long la), .second, .val (.long ua), .second, .val (.long lb), .second, .val (.long ub), .second, .val (.long lc), .second, .val (.long uc), .second, .val (.long ld), .second, .val (.long ud), .second, .val (.long ud), .second, .val (.long ((la - (256 : Int64)) + ((x3 &&& (4095 : Int32)).toInt64))), .second, .val (.int cp), .unset, .unset, .unset, .unset, .unset] [(.ref b159)]))
  refine Es.astore (q := 398) (l' := #[.val (.int x0), .val (.long x1), .second, .val (.int x2), .val (.int x3), .val (.int (4 : Int32)), .val (.long la), .second, .val (.long ua), .second, .val (.long lb), .second, .val (.long ub), .second, .val (.long lc), .second, .val (.long uc), .second, .val (.long ld), .second, .val (.long ud), .second, .val (.long ud), .second, .val (.long ((la - (256 : Int64)) + ((x3 &&& (4095 : Int32)).toInt64))), .second, .val (.int cp), .val (.ref b159), .unset, .unset, .unset, .unset]) ?_ X189 hx (hb hby at_396) rfl rfl rfl
  obtain ⟨T193, h193, X193, e193, E193, A193, D193, -, st193⟩ := newO X189 hx hZ hown (hw _ (List.mem_of_getElem? (i := 4) rfl)) (hw _ (List.mem_of_getElem? (i := 5) rfl)) (hw _ (List.mem_of_getElem? (i := 6) rfl)) e189 (g := (mkF m 398 #[.val (.int x0), .val (.long x1), .second, .val (.int x2), .val (.int x3), .val (.int (4 : Int32)), .val (.long la), .second, .val (.long ua), .second, .val (.long lb), .second, .val (.long ub), .second, .val (.long lc), .second, .val (.long uc), .second, .val (.long ld), .second, .val (.long ud), .second, .val (.long ud), .second, .val (.long ((la - (256 : Int64)) + ((x3 &&& (4095 : Int32)).toInt64))), .second, .val (.int cp), .val (.ref b159), .unset, .unset, .unset, .unset] [])) rfl (hb hby at_398) (by decide) (by decide)
  obtain ⟨b193, g193⟩ : ∃ z, z = h189.size := ⟨_, rfl⟩
  rw [← g193] at A193 D193 st193
  have ne194 : b159 ≠ b193 := Nat.ne_of_lt (Nat.lt_of_lt_of_le V189.lt (Nat.le_of_eq g193.symm))
  have gn193 : n0 ≤ b193 := Nat.le_trans Zs192 (Nat.le_of_eq g193.symm)
  have f195 := V189.ext E193
  have f196 := Exa.ext E193 f191
  have F193_bounds : Fld Z h193 b193 "com/example/tagwright/tagwright/model/CodePointSet" "bounds" "[I" .null := D193 (Or.inr (hw _ (List.mem_of_getElem? (i := 23) rfl))) (ty := (.array .int)) (by decide)
  have Zs197 : n0 ≤ h193.size := Nat.le_trans Zs192 E193.1
  refine Ends.by ?_ st193
  show Ends p e below s _ _ _ (T193.setTop (mkF m 401 #[.val (.int x0), .val (.long x1), .second, .val (.int x2), .val (.int x3), .val (.int (4 : Int32)), .val (.long la), .second, .val (.long ua), .second, .val (.long lb), .second, .val (.long ub), .second, .val (.long lc), .second, .val (.long uc), .second, .val (.long ld), .second, .val (.long ud), .second, .val (.long ud), .second, .val (.long ((la - (256 : Int64)) + ((x3 &&& (4095 : Int32)).toInt64))), .second, .val (.int cp), .val (.ref b159), .unset, .unset, .unset, .unset] [(.ref b193)]))
  refine Es.dup (q := 402) ?_ X193 hx (hb hby at_401) rfl rfl
  refine Es.aload (q := 404) ?_ X193 hx (hb hby at_402) rfl rfl rfl
  obtain ⟨v198, _, ⟨T198, L198, k198, n198⟩, -, X198, ⟨Lc198, hQ198, l198, y198, z198⟩, st198⟩ := X193.specialBack hx (y := (⟨"com/example/tagwright/tagwright/model/CodePointSet", "<init>", "([I)V"⟩ : MethodName)) rfl hown (mvT hZ (hw _ (List.mem_of_getElem? (i := 7) rfl))) (mvT hZ (hw _ (List.mem_of_getElem? (i := 8) rfl))) (mvT hZ (hw _ (List.mem_of_getElem? (i := 9) rfl))) (by decide) (backOf (W := 1) (rm1 l Z a0 hw [] b193 b159 8 (upd (upd (upd (upd (upd (upd (upd (upd (fun _ => (0 : Int32)) 0 (la.toInt32)) 1 (ua.toInt32)) 2 (lb.toInt32)) 3 (ub.toInt32)) 4 (lc.toInt32)) 5 (uc.toInt32)) 6 (ld.toInt32)) 7 (ud.toInt32)) h193 n0 Zs197 A193 F193_bounds f195 f196 ne194 gn193 (by decide)) hZ (hw _ (List.mem_of_getElem? (i := 9) rfl)) (hw _ (List.mem_of_getElem? (i := 6) rfl)) (by decide) (by decide)) (g := (mkF m 404 #[.val (.int x0), .val (.long x1), .second, .val (.int x2), .val (.int x3), .val (.int (4 : Int32)), .val (.long la), .second, .val (.long ua), .second, .val (.long lb), .second, .val (.long ub), .second, .val (.long lc), .second, .val (.long uc), .second, .val (.long ld), .second, .val (.long ud), .second, .val (.long ud), .second, .val (.long ((la - (256 : Int64)) + ((x3 &&& (4095 : Int32)).toInt64))), .second, .val (.int cp), .val (.ref b159), .unset, .unset, .unset, .unset] [(.ref b159), (.ref b193), (.ref b193)])) rfl (by rw [hml]; rfl) (Steps.refl _) (a := b193) (argsL := [(.ref b159)]) (rest := [(.ref b193)]) (lenOf pd_0 rfl) rfl (by show 2 * 0 + _ ≤ _; exact Nat.le_of_eq rfl) (hb hby at_404) (fun _ _ => ⟨rfl, e193, (by decide : 2 + 1 ≤ _), (by decide : 9 + 8 ≤ _)⟩)
  dsimp only [Pt.U, Pt.locs, Pt.cells, Pt.slots] at X198 l198 y198 z198 st198 hQ198
  subst l198 y198 z198
  obtain ⟨rfl, N198q, K198, Ex198, bb, Fa198, Va198⟩ := hQ198
  have N198 := Fr.app N189 N198q
  have f199 := A193.keep K198
  have Zs201 : n0 ≤ T198.heap.size := Nat.le_trans Zs197 K198.1
  refine Ends.go st198 ?_
  show Ends p e below s _ _ _ (T198.setTop (mkF m 407 #[.val (.int x0), .val (.long x1), .second, .val (.int x2), .val (.int x3), .val (.int (4 : Int32)), .val (.long la), .second, .val (.long ua), .second, .val (.long lb), .second, .val (.long ub), .second, .val (.long lc), .second, .val (.long uc), .second, .val (.long ld), .second, .val (.long ud), .second, .val (.long ud), .second, .val (.long ((la - (256 : Int64)) + ((x3 &&& (4095 : Int32)).toInt64))), .second, .val (.int cp), .val (.ref b159), .unset, .unset, .unset, .unset] [(.ref b193)]))
  refine Es.astore (q := 409) (l' := #[.val (.int x0), .val (.long x1), .second, .val (.int x2), .val (.int x3), .val (.int (4 : Int32)), .val (.long la), .second, .val (.long ua), .second, .val (.long lb), .second, .val (.long ub), .second, .val (.long lc), .second, .val (.long uc), .second, .val (.long ld), .second, .val (.long ud), .second, .val (.long ud), .second, .val (.long ((la - (256 : Int64)) + ((x3 &&& (4095 : Int32)).toInt64))), .second, .val (.int cp), .val (.ref b159), .val (.ref b193), .unset, .unset, .unset]) ?_ X198 hx (hb hby at_407) rfl rfl rfl
  refine Es.iload (q := 411) ?_ X198 hx (hb hby at_409) rfl rfl
  refine Es.i2l (q := 412) ?_ X198 hx (hb hby at_411) rfl
  refine Es.lstore (q := 414) (l' := #[.val (.int x0), .val (.long x1), .second, .val (.int x2), .val (.int x3), .val (.int (4 : Int32)), .val (.long la), .second, .val (.long ua), .second, .val (.long lb), .second, .val (.long ub), .second, .val (.long lc), .second, .val (.long uc), .second, .val (.long ld), .second, .val (.long ud), .second, .val (.long ud), .second, .val (.long ((la - (256 : Int64)) + ((x3 &&& (4095 : Int32)).toInt64))), .second, .val (.int cp), .val (.ref b159), .val (.ref b193), .val (.long (cp.toInt64)), .second, .unset]) ?_ X198 hx (hb hby at_412) rfl rfl
  refine Es.iload (q := 416) ?_ X198 hx (hb hby at_414) rfl rfl
  refine Es.iconst (q := 417) (z := (1 : Int32)) ?_ X198 hx (hb hby at_416) rfl rfl
  refine Es.icmpNo (q := 420) ?_ X198 hx (hb hby at_417) rfl (XT.ii_lt_f (by decide))
  refine Es.lload (q := 422) ?_ X198 hx (hb hby at_420) rfl rfl
  refine Es.lload (q := 424) ?_ X198 hx (hb hby at_422) rfl rfl
  refine Es.lcmp (q := 425) ?_ X198 hx (hb hby at_424) rfl
  by_cases hc202 : (cp.toInt64) < la
  · refine Es.ifYes (q := 436) ?_ X198 hx (hb hby at_425) (XT.ll_gt_t hc202) (by decide) (by decide)
    refine Es.iload (q := 438) ?_ X198 hx (hb hby at_436) rfl rfl
    refine Es.iconst (q := 439) (z := (2 : Int32)) ?_ X198 hx (hb hby at_438) rfl rfl
    refine Es.icmpNo (q := 442) ?_ X198 hx (hb hby at_439) rfl (XT.ii_lt_f (by decide))
    refine Es.lload (q := 444) ?_ X198 hx (hb hby at_442) rfl rfl
    refine Es.lload (q := 446) ?_ X198 hx (hb hby at_444) rfl rfl
    refine Es.lcmp (q := 447) ?_ X198 hx (hb hby at_446) rfl
    by_cases hc203 : (cp.toInt64) < lb
    · refine Es.ifYes (q := 458) ?_ X198 hx (hb hby at_447) (XT.ll_gt_t hc203) (by decide) (by decide)
      refine Es.iload (q := 460) ?_ X198 hx (hb hby at_458) rfl rfl
      refine Es.iconst (q := 461) (z := (3 : Int32)) ?_ X198 hx (hb hby at_460) rfl rfl
      refine Es.icmpNo (q := 464) ?_ X198 hx (hb hby at_461) rfl (XT.ii_lt_f (by decide))
      refine Es.lload (q := 466) ?_ X198 hx (hb hby at_464) rfl rfl
      refine Es.lload (q := 468) ?_ X198 hx (hb hby at_466) rfl rfl
      refine Es.lcmp (q := 469) ?_ X198 hx (hb hby at_468) rfl
      by_cases hc204 : (cp.toInt64) < lc
      · refine Es.ifYes (q := 480) ?_ X198 hx (hb hby at_469) (XT.ll_gt_t hc204) (by decide) (by decide)
        refine Es.iload (q := 482) ?_ X198 hx (hb hby at_480) rfl rfl
        refine Es.iconst (q := 483) (z := (4 : Int32)) ?_ X198 hx (hb hby at_482) rfl rfl
        refine Es.icmpNo (q := 486) ?_ X198 hx (hb hby at_483) rfl (XT.ii_lt_f (by decide))
        refine Es.lload (q := 488) ?_ X198 hx (hb hby at_486) rfl rfl
        refine Es.lload (q := 490) ?_ X198 hx (hb hby at_488) rfl rfl
        refine Es.lcmp (q := 491) ?_ X198 hx (hb hby at_490) rfl
        by_cases hc205 : (cp.toInt64) < ld
        · refine Es.ifYes (q := 506) ?_ X198 hx (hb hby at_491) (XT.ll_gt_t hc205) (by decide) (by decide)
          refine Es.iconst (q := 507) (z := (0 : Int32)) ?_ X198 hx (hb hby at_506) rfl rfl
          refine Es.istore (q := 509) (l' := #[.val (.int x0), .val (.long x1), .second, .val (.int x2), .val (.int x3), .val (.int (4 : Int32)), .val (.long la), .second, .val (.long ua), .second, .val (.long lb), .second, .val (.long ub), .second, .val (.long lc), .second, .val (.long uc), .second, .val (.long ld), .second, .val (.long ud), .second, .val (.long ud), .second, .val (.long ((la - (256 : Int64)) + ((x3 &&& (4095 : Int32)).toInt64))), .second, .val (.int cp), .val (.ref b159), .val (.ref b193), .val (.long (cp.toInt64)), .second, .val (.int (0 : Int32))]) ?_ X198 hx (hb hby at_507) rfl rfl
          refine Es.aload (q := 511) ?_ X198 hx (hb hby at_509) rfl rfl rfl
          refine Es.iload (q := 513) ?_ X198 hx (hb hby at_511) rfl rfl
          obtain ⟨cq206, kq206, q206a, q206b, q206c⟩ := isOf hZ rfl Ex198
          obtain ⟨v206, _, ⟨T206, L206, k206, n206⟩, -, X206, ⟨Lc206, hQ206, l206, y206, z206⟩, st206⟩ := X198.virtualBack hx (y := (⟨"com/example/tagwright/tagwright/model/CodePointSet", "contains", "(I)Z"⟩ : MethodName)) (z := (⟨"com/example/tagwright/tagwright/model/CodePointSet", "contains", "(I)Z"⟩ : MethodName)) hown (mvT hZ (hw _ (List.mem_of_getElem? (i := 24) rfl))) (mvT hZ (hw _ (List.mem_of_getElem? (i := 25) rfl))) (notFace_of_selects (args := #[]) (mvT hZ (hw _ (List.mem_of_getElem? (i := 27) rfl)))) (mvT hZ (hw _ (List.mem_of_getElem? (i := 27) rfl))) (mvT hZ (hw _ (List.mem_of_getElem? (i := 26) rfl))) (by decide) (backOf (W := 0) (rmC4 l Z a0 hw [] b193 cp bb (upd (upd (upd (upd (upd (upd (upd (upd (fun _ => (0 : Int32)) 0 (la.toInt32)) 1 (ua.toInt32)) 2 (lb.toInt32)) 3 (ub.toInt32)) 4 (lc.toInt32)) 5 (uc.toInt32)) 6 (ld.toInt32)) 7 (ud.toInt32)) T198.heap n0 Zs201 Fa198 Va198) hZ (hw _ (List.mem_of_getElem? (i := 28) rfl)) (hw _ (List.mem_of_getElem? (i := 6) rfl)) (by decide) (by decide)) q206a q206c (g := (mkF m 513 #[.val (.int x0), .val (.long x1), .second, .val (.int x2), .val (.int x3), .val (.int (4 : Int32)), .val (.long la), .second, .val (.long ua), .second, .val (.long lb), .second, .val (.long ub), .second, .val (.long lc), .second, .val (.long uc), .second, .val (.long ld), .second, .val (.long ud), .second, .val (.long ud), .second, .val (.long ((la - (256 : Int64)) + ((x3 &&& (4095 : Int32)).toInt64))), .second, .val (.int cp), .val (.ref b159), .val (.ref b193), .val (.long (cp.toInt64)), .second, .val (.int (0 : Int32))] [(.int cp), (.ref b193)])) rfl (by rw [hml]; rfl) (Steps.refl _) (argsL := [(.int cp)]) (rest := []) (lenOf pd_1 rfl) rfl (by show 2 * 0 + _ ≤ _; exact Nat.le_of_eq rfl) (hb hby at_513) (fun _ _ => ⟨rfl, rfl, (by decide : 3 + 0 ≤ _), (by decide : 17 + 0 ≤ _)⟩)
          dsimp only [Pt.U, Pt.locs, Pt.cells, Pt.slots] at X206 l206 y206 z206 st206 hQ206
          subst l206 y206 z206
          obtain ⟨rfl, N206q, e206⟩ := hQ206
          have N206 := Fr.app N198 N206q
          refine Ends.go st206 ?_
          show Ends p e below s _ _ _ (T206.setTop (mkF m 516 #[.val (.int x0), .val (.long x1), .second, .val (.int x2), .val (.int x3), .val (.int (4 : Int32)), .val (.long la), .second, .val (.long ua), .second, .val (.long lb), .second, .val (.long ub), .second, .val (.long lc), .second, .val (.long uc), .second, .val (.long ld), .second, .val (.long ud), .second, .val (.long ud), .second, .val (.long ((la - (256 : Int64)) + ((x3 &&& (4095 : Int32)).toInt64))), .second, .val (.int cp), .val (.ref b159), .val (.ref b193), .val (.long (cp.toInt64)), .second, .val (.int (0 : Int32))] [(.int (fC4 b193 cp bb (upd (upd (upd (upd (upd (upd (upd (upd (fun _ => (0 : Int32)) 0 (la.toInt32)) 1 (ua.toInt32)) 2 (lb.toInt32)) 3 (ub.toInt32)) 4 (lc.toInt32)) 5 (uc.toInt32)) 6 (ld.toInt32)) 7 (ud.toInt32))))]))
          refine Es.iload (q := 518) ?_ X206 hx (hb hby at_516) rfl rfl
          refine Es.icmpNo (q := 521) ?_ X206 hx (hb hby at_518) rfl (XT.ii_ne_f ((own_c4 (la := la) (ua := ua) (lb := lb) (ub := ub) (lc := lc) (uc := uc) (ld := ld) (ud := ud) rfl rfl rfl rfl rfl rfl rfl rfl o0 o1 o2 o3 p0 p1 p2 r0 r1).trans (if_neg (by have t0 := hc202; rw [Int64.lt_iff_toInt_lt, c_i2l] at t0; have t1 := hc203; rw [Int64.lt_iff_toInt_lt, c_i2l] at t1; have t2 := hc204; rw [Int64.lt_iff_toInt_lt, c_i2l] at t2; have t3 := hc205; rw [Int64.lt_iff_toInt_lt, c_i2l] at t3; omega)) : (fC4 b193 cp bb (upd (upd (upd (upd (upd (upd (upd (upd (fun _ => (0 : Int32)) 0 (la.toInt32)) 1 (ua.toInt32)) 2 (lb.toInt32)) 3 (ub.toInt32)) 4 (lc.toInt32)) 5 (uc.toInt32)) 6 (ld.toInt32)) 7 (ud.toInt32))) = (0 : Int32)))
          refine Es.iconst (q := 522) (z := (1 : Int32)) ?_ X206 hx (hb hby at_521) rfl rfl
          refine Es.goto (q := 526) ?_ X206 hx (hb hby at_522) (by decide) (by decide)
          exact Ends.retN X206 hx hlk hret (t := .boolean) (by simp) (hb hby at_526) (w := 1) rfl ⟨rfl, N206⟩ (by decide) (by decide)
        · refine Es.ifNo (q := 494) ?_ X198 hx (hb hby at_491) rfl (XT.ll_gt_f hc205)
          refine Es.lload (q := 496) ?_ X198 hx (hb hby at_494) rfl rfl
          refine Es.lload (q := 498) ?_ X198 hx (hb hby at_496) rfl rfl
          refine Es.lcmp (q := 499) ?_ X198 hx (hb hby at_498) rfl
          by_cases hc207 : ud < (cp.toInt64)
          · refine Es.ifYes (q := 506) ?_ X198 hx (hb hby at_499) (XT.ll_gt_t hc207) (by decide) (by decide)
            refine Es.iconst (q := 507) (z := (0 : Int32)) ?_ X198 hx (hb hby at_506) rfl rfl
            refine Es.istore (q := 509) (l' := #[.val (.int x0), .val (.long x1), .second, .val (.int x2), .val (.int x3), .val (.int (4 : Int32)), .val (.long la), .second, .val (.long ua), .second, .val (.long lb), .second, .val (.long ub), .second, .val (.long lc), .second, .val (.long uc), .second, .val (.long ld), .second, .val (.long ud), .second, .val (.long ud), .second, .val (.long ((la - (256 : Int64)) + ((x3 &&& (4095 : Int32)).toInt64))), .second, .val (.int cp), .val (.ref b159), .val (.ref b193), .val (.long (cp.toInt64)), .second, .val (.int (0 : Int32))]) ?_ X198 hx (hb hby at_507) rfl rfl
            refine Es.aload (q := 511) ?_ X198 hx (hb hby at_509) rfl rfl rfl
            refine Es.iload (q := 513) ?_ X198 hx (hb hby at_511) rfl rfl
            obtain ⟨cq208, kq208, q208a, q208b, q208c⟩ := isOf hZ rfl Ex198
            obtain ⟨v208, _, ⟨T208, L208, k208, n208⟩, -, X208, ⟨Lc208, hQ208, l208, y208, z208⟩, st208⟩ := X198.virtualBack hx (y := (⟨"com/example/tagwright/tagwright/model/CodePointSet", "contains", "(I)Z"⟩ : MethodName)) (z := (⟨"com/example/tagwright/tagwright/model/CodePointSet", "contains", "(I)Z"⟩ : MethodName)) hown (mvT hZ (hw _ (List.mem_of_getElem? (i := 24) rfl))) (mvT hZ (hw _ (List.mem_of_getElem? (i := 25) rfl))) (notFace_of_selects (args := #[]) (mvT hZ (hw _ (List.mem_of_getElem? (i := 27) rfl)))) (mvT hZ (hw _ (List.mem_of_getElem? (i := 27) rfl))) (mvT hZ (hw _ (List.mem_of_getElem? (i := 26) rfl))) (by decide) (backOf (W := 0) (rmC4 l Z a0 hw [] b193 cp bb (upd (upd (upd (upd (upd (upd (upd (upd (fun _ => (0 : Int32)) 0 (la.toInt32)) 1 (ua.toInt32)) 2 (lb.toInt32)) 3 (ub.toInt32)) 4 (lc.toInt32)) 5 (uc.toInt32)) 6 (ld.toInt32)) 7 (ud.toInt32)) T198.heap n0 Zs201 Fa198 Va198) hZ (hw _ (List.mem_of_getElem? (i := 28) rfl)) (hw _ (List.mem_of_getElem? (i := 6) rfl)) (by decide) (by decide)) q208a q208c (g := (mkF m 513 #[.val (.int x0), .val (.long x1), .second, .val (.int x2), .val (.int x3), .val (.int (4 : Int32)), .val (.long la), .second, .val (.long ua), .second, .val (.long lb), .second, .val (.long ub), .second, .val (.long lc), .second, .val (.long uc), .second, .val (.long ld), .second, .val (.long ud), .second, .val (.long ud), .second, .val (.long ((la - (256 : Int64)) + ((x3 &&& (4095 : Int32)).toInt64))), .second, .val (.int cp), .val (.ref b159), .val (.ref b193), .val (.long (cp.toInt64)), .second, .val (.int (0 : Int32))] [(.int cp), (.ref b193)])) rfl (by rw [hml]; rfl) (Steps.refl _) (argsL := [(.int cp)]) (rest := []) (lenOf pd_1 rfl) rfl (by show 2 * 0 + _ ≤ _; exact Nat.le_of_eq rfl) (hb hby at_513) (fun _ _ => ⟨rfl, rfl, (by decide : 3 + 0 ≤ _), (by decide : 17 + 0 ≤ _)⟩)
            dsimp only [Pt.U, Pt.locs, Pt.cells, Pt.slots] at X208 l208 y208 z208 st208 hQ208
            subst l208 y208 z208
            obtain ⟨rfl, N208q, e208⟩ := hQ208
            have N208 := Fr.app N198 N208q
            refine Ends.go st208 ?_
            show Ends p e below s _ _ _ (T208.setTop (mkF m 516 #[.val (.int x0), .val (.long x1), .second, .val (.int x2), .val (.int x3), .val (.int (4 : Int32)), .val (.long la), .second, .val (.long ua), .second, .val (.long lb), .second, .val (.long ub), .second, .val (.long lc), .second, .val (.long uc), .second, .val (.long ld), .second, .val (.long ud), .second, .val (.long ud), .second, .val (.long ((la - (256 : Int64)) + ((x3 &&& (4095 : Int32)).toInt64))), .second, .val (.int cp), .val (.ref b159), .val (.ref b193), .val (.long (cp.toInt64)), .second, .val (.int (0 : Int32))] [(.int (fC4 b193 cp bb (upd (upd (upd (upd (upd (upd (upd (upd (fun _ => (0 : Int32)) 0 (la.toInt32)) 1 (ua.toInt32)) 2 (lb.toInt32)) 3 (ub.toInt32)) 4 (lc.toInt32)) 5 (uc.toInt32)) 6 (ld.toInt32)) 7 (ud.toInt32))))]))
            refine Es.iload (q := 518) ?_ X208 hx (hb hby at_516) rfl rfl
            refine Es.icmpNo (q := 521) ?_ X208 hx (hb hby at_518) rfl (XT.ii_ne_f ((own_c4 (la := la) (ua := ua) (lb := lb) (ub := ub) (lc := lc) (uc := uc) (ld := ld) (ud := ud) rfl rfl rfl rfl rfl rfl rfl rfl o0 o1 o2 o3 p0 p1 p2 r0 r1).trans (if_neg (by have t0 := hc202; rw [Int64.lt_iff_toInt_lt, c_i2l] at t0; have t1 := hc203; rw [Int64.lt_iff_toInt_lt, c_i2l] at t1; have t2 := hc204; rw [Int64.lt_iff_toInt_lt, c_i2l] at t2; have t3 := hc205; rw [Int64.lt_iff_toInt_lt, c_i2l] at t3; have t4 := hc207; rw [Int64.lt_iff_toInt_lt, c_i2l] at t4; omega)) : (fC4 b193 cp bb (upd (upd (upd (upd (upd (upd (upd (upd (fun _ => (0 : Int32)) 0 (la.toInt32)) 1 (ua.toInt32)) 2 (lb.toInt32)) 3 (ub.toInt32)) 4 (lc.toInt32)) 5 (uc.toInt32)) 6 (ld.toInt32)) 7 (ud.toInt32))) = (0 : Int32)))
            refine Es.iconst (q := 522) (z := (1 : Int32)) ?_ X208 hx (hb hby at_521) rfl rfl
            refine Es.goto (q := 526) ?_ X208 hx (hb hby at_522) (by decide) (by decide)
            exact Ends.retN X208 hx hlk hret (t := .boolean) (by simp) (hb hby at_526) (w := 1) rfl ⟨rfl, N208⟩ (by decide) (by decide)
          · refine Es.ifNo (q := 502) ?_ X198 hx (hb hby at_499) rfl (XT.ll_gt_f hc207)
            refine Es.iconst (q := 503) (z := (1 : Int32)) ?_ X198 hx (hb hby at_502) rfl rfl
            refine Es.goto (q := 507) ?_ X198 hx (hb hby at_503) (by decide) (by decide)
            refine Es.istore (q := 509) (l' := #[.val (.int x0), .val (.long x1), .second, .val (.int x2), .val (.int x3), .val (.int (4 : Int32)), .val (.long la), .second, .val (.long ua), .second, .val (.long lb), .second, .val (.long ub), .second, .val (.long lc), .second, .val (.long uc), .second, .val (.long ld), .second, .val (.long ud), .second, .val (.long ud), .second, .val (.long ((la - (256 : Int64)) + ((x3 &&& (4095 : Int32)).toInt64))), .second, .val (.int cp), .val (.ref b159), .val (.ref b193), .val (.long (cp.toInt64)), .second, .val (.int (1 : Int32))]) ?_ X198 hx (hb hby at_507) rfl rfl
            refine Es.aload (q := 511) ?_ X198 hx (hb hby at_509) rfl rfl rfl
            refine Es.iload (q := 513) ?_ X198 hx (hb hby at_511) rfl rfl
            obtain ⟨cq209, kq209, q209a, q209b, q209c⟩ := isOf hZ rfl Ex198
            obtain ⟨v209, _, ⟨T209, L209, k209, n209⟩, -, X209, ⟨Lc209, hQ209, l209, y209, z209⟩, st209⟩ := X198.virtualBack hx (y := (⟨"com/example/tagwright/tagwright/model/CodePointSet", "contains", "(I)Z"⟩ : MethodName)) (z := (⟨"com/example/tagwright/tagwright/model/CodePointSet", "contains", "(I)Z"⟩ : MethodName)) hown (mvT hZ (hw _ (List.mem_of_getElem? (i := 24) rfl))) (mvT hZ (hw _ (List.mem_of_getElem? (i := 25) rfl))) (notFace_of_selects (args := #[]) (mvT hZ (hw _ (List.mem_of_getElem? (i := 27) rfl)))) (mvT hZ (hw _ (List.mem_of_getElem? (i := 27) rfl))) (mvT hZ (hw _ (List.mem_of_getElem? (i := 26) rfl))) (by decide) (backOf (W := 0) (rmC4 l Z a0 hw [] b193 cp bb (upd (upd (upd (upd (upd (upd (upd (upd (fun _ => (0 : Int32)) 0 (la.toInt32)) 1 (ua.toInt32)) 2 (lb.toInt32)) 3 (ub.toInt32)) 4 (lc.toInt32)) 5 (uc.toInt32)) 6 (ld.toInt32)) 7 (ud.toInt32)) T198.heap n0 Zs201 Fa198 Va198) hZ (hw _ (List.mem_of_getElem? (i := 28) rfl)) (hw _ (List.mem_of_getElem? (i := 6) rfl)) (by decide) (by decide)) q209a q209c (g := (mkF m 513 #[.val (.int x0), .val (.long x1), .second, .val (.int x2), .val (.int x3), .val (.int (4 : Int32)), .val (.long la), .second, .val (.long ua), .second, .val (.long lb), .second, .val (.long ub), .second, .val (.long lc), .second, .val (.long uc), .second, .val (.long ld), .second, .val (.long ud), .second, .val (.long ud), .second, .val (.long ((la - (256 : Int64)) + ((x3 &&& (4095 : Int32)).toInt64))), .second, .val (.int cp), .val (.ref b159), .val (.ref b193), .val (.long (cp.toInt64)), .second, .val (.int (1 : Int32))] [(.int cp), (.ref b193)])) rfl (by rw [hml]; rfl) (Steps.refl _) (argsL := [(.int cp)]) (rest := []) (lenOf pd_1 rfl) rfl (by show 2 * 0 + _ ≤ _; exact Nat.le_of_eq rfl) (hb hby at_513) (fun _ _ => ⟨rfl, rfl, (by decide : 3 + 0 ≤ _), (by decide : 17 + 0 ≤ _)⟩)
            dsimp only [Pt.U, Pt.locs, Pt.cells, Pt.slots] at X209 l209 y209 z209 st209 hQ209
            subst l209 y209 z209
            obtain ⟨rfl, N209q, e209⟩ := hQ209
            have N209 := Fr.app N198 N209q
            refine Ends.go st209 ?_
            show Ends p e below s _ _ _ (T209.setTop (mkF m 516 #[.val (.int x0), .val (.long x1), .second, .val (.int x2), .val (.int x3), .val (.int (4 : Int32)), .val (.long la), .second, .val (.long ua), .second, .val (.long lb), .second, .val (.long ub), .second, .val (.long lc), .second, .val (.long uc), .second, .val (.long ld), .second, .val (.long ud), .second, .val (.long ud), .second, .val (.long ((la - (256 : Int64)) + ((x3 &&& (4095 : Int32)).toInt64))), .second, .val (.int cp), .val (.ref b159), .val (.ref b193), .val (.long (cp.toInt64)), .second, .val (.int (1 : Int32))] [(.int (fC4 b193 cp bb (upd (upd (upd (upd (upd (upd (upd (upd (fun _ => (0 : Int32)) 0 (la.toInt32)) 1 (ua.toInt32)) 2 (lb.toInt32)) 3 (ub.toInt32)) 4 (lc.toInt32)) 5 (uc.toInt32)) 6 (ld.toInt32)) 7 (ud.toInt32))))]))
            refine Es.iload (q := 518) ?_ X209 hx (hb hby at_516) rfl rfl
            refine Es.icmpNo (q := 521) ?_ X209 hx (hb hby at_518) rfl (XT.ii_ne_f ((own_c4 (la := la) (ua := ua) (lb := lb) (ub := ub) (lc := lc) (uc := uc) (ld := ld) (ud := ud) rfl rfl rfl rfl rfl rfl rfl rfl o0 o1 o2 o3 p0 p1 p2 r0 r1).trans (if_pos (by have t0 := hc202; rw [Int64.lt_iff_toInt_lt, c_i2l] at t0; have t1 := hc203; rw [Int64.lt_iff_toInt_lt, c_i2l] at t1; have t2 := hc204; rw [Int64.lt_iff_toInt_lt, c_i2l] at t2; have t3 := hc205; rw [Int64.lt_iff_toInt_lt, c_i2l] at t3; have t4 := hc207; rw [Int64.lt_iff_toInt_lt, c_i2l] at t4; omega)) : (fC4 b193 cp bb (upd (upd (upd (upd (upd (upd (upd (upd (fun _ => (0 : Int32)) 0 (la.toInt32)) 1 (ua.toInt32)) 2 (lb.toInt32)) 3 (ub.toInt32)) 4 (lc.toInt32)) 5 (uc.toInt32)) 6 (ld.toInt32)) 7 (ud.toInt32))) = (1 : Int32)))
            refine Es.iconst (q := 522) (z := (1 : Int32)) ?_ X209 hx (hb hby at_521) rfl rfl
            refine Es.goto (q := 526) ?_ X209 hx (hb hby at_522) (by decide) (by decide)
            exact Ends.retN X209 hx hlk hret (t := .boolean) (by simp) (hb hby at_526) (w := 1) rfl ⟨rfl, N209⟩ (by decide) (by decide)
      · refine Es.ifNo (q := 472) ?_ X198 hx (hb hby at_469) rfl (XT.ll_gt_f hc204)
        refine Es.lload (q := 474) ?_ X198 hx (hb hby at_472) rfl rfl
        refine Es.lload (q := 476) ?_ X198 hx (hb hby at_474) rfl rfl
        refine Es.lcmp (q := 477) ?_ X198 hx (hb hby at_476) rfl
        by_cases hc210 : uc < (cp.toInt64)
        · refine Es.ifNo (q := 480) ?_ X198 hx (hb hby at_477) rfl (XT.ll_le_f hc210)
          refine Es.iload (q := 482) ?_ X198 hx (hb hby at_480) rfl rfl
          refine Es.iconst (q := 483) (z := (4 : Int32)) ?_ X198 hx (hb hby at_482) rfl rfl
          refine Es.icmpNo (q := 486) ?_ X198 hx (hb hby at_483) rfl (XT.ii_lt_f (by decide))
          refine Es.lload (q := 488) ?_ X198 hx (hb hby at_486) rfl rfl
          refine Es.lload (q := 490) ?_ X198 hx (hb hby at_488) rfl rfl
          refine Es.lcmp (q := 491) ?_ X198 hx (hb hby at_490) rfl
          by_cases hc211 : (cp.toInt64) < ld
          · refine Es.ifYes (q := 506) ?_ X198 hx (hb hby at_491) (XT.ll_gt_t hc211) (by decide) (by decide)
            refine Es.iconst (q := 507) (z := (0 : Int32)) ?_ X198 hx (hb hby at_506) rfl rfl
            refine Es.istore (q := 509) (l' := #[.val (.int x0), .val (.long x1), .second, .val (.int x2), .val (.int x3), .val (.int (4 : Int32)), .val (.long la), .second, .val (.long ua), .second, .val (.long lb), .second, .val (.long ub), .second, .val (.long lc), .second, .val (.long uc), .second, .val (.long ld), .second, .val (.long ud), .second, .val (.long ud), .second, .val (.long ((la - (256 : Int64)) + ((x3 &&& (4095 : Int32)).toInt64))), .second, .val (.int cp), .val (.ref b159), .val (.ref b193), .val (.long (cp.toInt64)), .second, .val (.int (0 : Int32))]) ?_ X198 hx (hb hby at_507) rfl rfl
            refine Es.aload (q := 511) ?_ X198 hx (hb hby at_509) rfl rfl rfl
            refine Es.iload (q := 513) ?_ X198 hx (hb hby at_511) rfl rfl
            obtain ⟨cq212, kq212, q212a, q212b, q212c⟩ := isOf hZ rfl Ex198
            obtain ⟨v212, _, ⟨T212, L212, k212, n212⟩, -, X212, ⟨Lc212, hQ212, l212, y212, z212⟩, st212⟩ := X198.virtualBack hx (y := (⟨"com/example/tagwright/tagwright/model/CodePointSet", "contains", "(I)Z"⟩ : MethodName)) (z := (⟨"com/example/tagwright/tagwright/model/CodePointSet", "contains", "(I)Z"⟩ : MethodName)) hown (mvT hZ (hw _ (List.mem_of_getElem? (i := 24) rfl))) (mvT hZ (hw _ (List.mem_of_getElem? (i := 25) rfl))) (notFace_of_selects (args := #[]) (mvT hZ (hw _ (List.mem_of_getElem? (i := 27) rfl)))) (mvT hZ (hw _ (List.mem_of_getElem? (i := 27) rfl))) (mvT hZ (hw _ (List.mem_of_getElem? (i := 26) rfl))) (by decide) (backOf (W := 0) (rmC4 l Z a0 hw [] b193 cp bb (upd (upd (upd (upd (upd (upd (upd (upd (fun _ => (0 : Int32)) 0 (la.toInt32)) 1 (ua.toInt32)) 2 (lb.toInt32)) 3 (ub.toInt32)) 4 (lc.toInt32)) 5 (uc.toInt32)) 6 (ld.toInt32)) 7 (ud.toInt32)) T198.heap n0 Zs201 Fa198 Va198) hZ (hw _ (List.mem_of_getElem? (i := 28) rfl)) (hw _ (List.mem_of_getElem? (i := 6) rfl)) (by decide) (by decide)) q212a q212c (g := (mkF m 513 #[.val (.int x0), .val (.long x1), .second, .val (.int x2), .val (.int x3), .val (.int (4 : Int32)), .val (.long la), .second, .val (.long ua), .second, .val (.long lb), .second, .val (.long ub), .second, .val (.long lc), .second, .val (.long uc), .second, .val (.long ld), .second, .val (.long ud), .second, .val (.long ud), .second, .val (.long ((la - (256 : Int64)) + ((x3 &&& (4095 : Int32)).toInt64))), .second, .val (.int cp), .val (.ref b159), .val (.ref b193), .val (.long (cp.toInt64)), .second, .val (.int (0 : Int32))] [(.int cp), (.ref b193)])) rfl (by rw [hml]; rfl) (Steps.refl _) (argsL := [(.int cp)]) (rest := []) (lenOf pd_1 rfl) rfl (by show 2 * 0 + _ ≤ _; exact Nat.le_of_eq rfl) (hb hby at_513) (fun _ _ => ⟨rfl, rfl, (by decide : 3 + 0 ≤ _), (by decide : 17 + 0 ≤ _)⟩)
            dsimp only [Pt.U, Pt.locs, Pt.cells, Pt.slots] at X212 l212 y212 z212 st212 hQ212
            subst l212 y212 z212
            obtain ⟨rfl, N212q, e212⟩ := hQ212
            have N212 := Fr.app N198 N212q
            refine Ends.go st212 ?_
            show Ends p e below s _ _ _ (T212.setTop (mkF m 516 #[.val (.int x0), .val (.long x1), .second, .val (.int x2), .val (.int x3), .val (.int (4 : Int32)), .val (.long la), .second, .val (.long ua), .second, .val (.long lb), .second, .val (.long ub), .second, .val (.long lc), .second, .val (.long uc), .second, .val (.long ld), .second, .val (.long ud), .second, .val (.long ud), .second, .val (.long ((la - (256 : Int64)) + ((x3 &&& (4095 : Int32)).toInt64))), .second, .val (.int cp), .val (.ref b159), .val (.ref b193), .val (.long (cp.toInt64)), .second, .val (.int (0 : Int32))] [(.int (fC4 b193 cp bb (upd (upd (upd (upd (upd (upd (upd (upd (fun _ => (0 : Int32)) 0 (la.toInt32)) 1 (ua.toInt32)) 2 (lb.toInt32)) 3 (ub.toInt32)) 4 (lc.toInt32)) 5 (uc.toInt32)) 6 (ld.toInt32)) 7 (ud.toInt32))))]))
            refine Es.iload (q := 518) ?_ X212 hx (hb hby at_516) rfl rfl
            refine Es.icmpNo (q := 521) ?_ X212 hx (hb hby at_518) rfl (XT.ii_ne_f ((own_c4 (la := la) (ua := ua) (lb := lb) (ub := ub) (lc := lc) (uc := uc) (ld := ld) (ud := ud) rfl rfl rfl rfl rfl rfl rfl rfl o0 o1 o2 o3 p0 p1 p2 r0 r1).trans (if_neg (by have t0 := hc202; rw [Int64.lt_iff_toInt_lt, c_i2l] at t0; have t1 := hc203; rw [Int64.lt_iff_toInt_lt, c_i2l] at t1; have t2 := hc204; rw [Int64.lt_iff_toInt_lt, c_i2l] at t2; have t3 := hc210; rw [Int64.lt_iff_toInt_lt, c_i2l] at t3; have t4 := hc211; rw [Int64.lt_iff_toInt_lt, c_i2l] at t4; omega)) : (fC4 b193 cp bb (upd (upd (upd (upd (upd (upd (upd (upd (fun _ => (0 : Int32)) 0 (la.toInt32)) 1 (ua.toInt32)) 2 (lb.toInt32)) 3 (ub.toInt32)) 4 (lc.toInt32)) 5 (uc.toInt32)) 6 (ld.toInt32)) 7 (ud.toInt32))) = (0 : Int32)))
            refine Es.iconst (q := 522) (z := (1 : Int32)) ?_ X212 hx (hb hby at_521) rfl rfl
            refine Es.goto (q := 526) ?_ X212 hx (hb hby at_522) (by decide) (by decide)
            exact Ends.retN X212 hx hlk hret (t := .boolean) (by simp) (hb hby at_526) (w := 1) rfl ⟨rfl, N212⟩ (by decide) (by decide)
          · refine Es.ifNo (q := 494) ?_ X198 hx (hb hby at_491) rfl (XT.ll_gt_f hc211)
            refine Es.lload (q := 496) ?_ X198 hx (hb hby at_494) rfl rfl
            refine Es.lload (q := 498) ?_ X198 hx (hb hby at_496) rfl rfl
            refine Es.lcmp (q := 499) ?_ X198 hx (hb hby at_498) rfl
            by_cases hc213 : ud < (cp.toInt64)
            · refine Es.ifYes (q := 506) ?_ X198 hx (hb hby at_499) (XT.ll_gt_t hc213) (by decide) (by decide)
              refine Es.iconst (q := 507) (z := (0 : Int32)) ?_ X198 hx (hb hby at_506) rfl rfl
              refine Es.istore (q := 509) (l' := #[.val (.int x0), .val (.long x1), .second, .val (.int x2), .val (.int x3), .val (.int (4 : Int32)), .val (.long la), .second, .val (.long ua), .second, .val (.long lb), .second, .val (.long ub), .second, .val (.long lc), .second, .val (.long uc), .second, .val (.long ld), .second, .val (.long ud), .second, .val (.long ud), .second, .val (.long ((la - (256 : Int64)) + ((x3 &&& (4095 : Int32)).toInt64))), .second, .val (.int cp), .val (.ref b159), .val (.ref b193), .val (.long (cp.toInt64)), .second, .val (.int (0 : Int32))]) ?_ X198 hx (hb hby at_507) rfl rfl
              refine Es.aload (q := 511) ?_ X198 hx (hb hby at_509) rfl rfl rfl
              refine Es.iload (q := 513) ?_ X198 hx (hb hby at_511) rfl rfl
              obtain ⟨cq214, kq214, q214a, q214b, q214c⟩ := isOf hZ rfl Ex198
              obtain ⟨v214, _, ⟨T214, L214, k214, n214⟩, -, X214, ⟨Lc214, hQ214, l214, y214, z214⟩, st214⟩ := X198.virtualBack hx (y := (⟨"com/example/tagwright/tagwright/model/CodePointSet", "contains", "(I)Z"⟩ : MethodName)) (z := (⟨"com/example/tagwright/tagwright/model/CodePointSet", "contains", "(I)Z"⟩ : MethodName)) hown (mvT hZ (hw _ (List.mem_of_getElem? (i := 24) rfl))) (mvT hZ (hw _ (List.mem_of_getElem? (i := 25) rfl))) (notFace_of_selects (args := #[]) (mvT hZ (hw _ (List.mem_of_getElem? (i := 27) rfl)))) (mvT hZ (hw _ (List.mem_of_getElem? (i := 27) rfl))) (mvT hZ (hw _ (List.mem_of_getElem? (i := 26) rfl))) (by decide) (backOf (W := 0) (rmC4 l Z a0 hw [] b193 cp bb (upd (upd (upd (upd (upd (upd (upd (upd (fun _ => (0 : Int32)) 0 (la.toInt32)) 1 (ua.toInt32)) 2 (lb.toInt32)) 3 (ub.toInt32)) 4 (lc.toInt32)) 5 (uc.toInt32)) 6 (ld.toInt32)) 7 (ud.toInt32)) T198.heap n0 Zs201 Fa198 Va198) hZ (hw _ (List.mem_of_getElem? (i := 28) rfl)) (hw _ (List.mem_of_getElem? (i := 6) rfl)) (by decide) (by decide)) q214a q214c (g := (mkF m 513 #[.val (.int x0), .val (.long x1), .second, .val (.int x2), .val (.int x3), .val (.int (4 : Int32)), .val (.long la), .second, .val (.long ua), .second, .val (.long lb), .second, .val (.long ub), .second, .val (.long lc), .second, .val (.long uc), .second, .val (.long ld), .second, .val (.long ud), .second, .val (.long ud), .second, .val (.long ((la - (256 : Int64)) + ((x3 &&& (4095 : Int32)).toInt64))), .second, .val (.int cp), .val (.ref b159), .val (.ref b193), .val (.long (cp.toInt64)), .second, .val (.int (0 : Int32))] [(.int cp), (.ref b193)])) rfl (by rw [hml]; rfl) (Steps.refl _) (argsL := [(.int cp)]) (rest := []) (lenOf pd_1 rfl) rfl (by show 2 * 0 + _ ≤ _; exact Nat.le_of_eq rfl) (hb hby at_513) (fun _ _ => ⟨rfl, rfl, (by decide : 3 + 0 ≤ _), (by decide : 17 + 0 ≤ _)⟩)
              dsimp only [Pt.U, Pt.locs, Pt.cells, Pt.slots] at X214 l214 y214 z214 st214 hQ214
              subst l214 y214 z214
              obtain ⟨rfl, N214q, e214⟩ := hQ214
              have N214 := Fr.app N198 N214q
              refine Ends.go st214 ?_
              show Ends p e below s _ _ _ (T214.setTop (mkF m 516 #[.val (.int x0), .val (.long x1), .second, .val (.int x2), .val (.int x3), .val (.int (4 : Int32)), .val (.long la), .second, .val (.long ua), .second, .val (.long lb), .second, .val (.long ub), .second, .val (.long lc), .second, .val (.long uc), .second, .val (.long ld), .second, .val (.long ud), .second, .val (.long ud), .second, .val (.long ((la - (256 : Int64)) + ((x3 &&& (4095 : Int32)).toInt64))), .second, .val (.int cp), .val (.ref b159), .val (.ref b193), .val (.long (cp.toInt64)), .second, .val (.int (0 : Int32))] [(.int (fC4 b193 cp bb (upd (upd (upd (upd (upd (upd (upd (upd (fun _ => (0 : Int32)) 0 (la.toInt32)) 1 (ua.toInt32)) 2 (lb.toInt32)) 3 (ub.toInt32)) 4 (lc.toInt32)) 5 (uc.toInt32)) 6 (ld.toInt32)) 7 (ud.toInt32))))]))
              refine Es.iload (q := 518) ?_ X214 hx (hb hby at_516) rfl rfl
              refine Es.icmpNo (q := 521) ?_ X214 hx (hb hby at_518) rfl (XT.ii_ne_f ((own_c4 (la := la) (ua := ua) (lb := lb) (ub := ub) (lc := lc) (uc := uc) (ld := ld) (ud := ud) rfl rfl rfl rfl rfl rfl rfl rfl o0 o1 o2 o3 p0 p1 p2 r0 r1).trans (if_neg (by have t0 := hc202; rw [Int64.lt_iff_toInt_lt, c_i2l] at t0; have t1 := hc203; rw [Int64.lt_iff_toInt_lt, c_i2l] at t1; have t2 := hc204; rw [Int64.lt_iff_toInt_lt, c_i2l] at t2; have t3 := hc210; rw [Int64.lt_iff_toInt_lt, c_i2l] at t3; have t4 := hc211; rw [Int64.lt_iff_toInt_lt, c_i2l] at t4; have t5 := hc213; rw [Int64.lt_iff_toInt_lt, c_i2l] at t5; omega)) : (fC4 b193 cp bb (upd (upd (upd (upd (upd (upd (upd (upd (fun _ => (0 : Int32)) 0 (la.toInt32)) 1 (ua.toInt32)) 2 (lb.toInt32)) 3 (ub.toInt32)) 4 (lc.toInt32)) 5 (uc.toInt32)) 6 (ld.toInt32)) 7 (ud.toInt32))) = (0 : Int32)))
              refine Es.iconst (q := 522) (z := (1 : Int32)) ?_ X214 hx (hb hby at_521) rfl rfl
              refine Es.goto (q := 526) ?_ X214 hx (hb hby at_522) (by decide) (by decide)
              exact Ends.retN X214 hx hlk hret (t := .boolean) (by simp) (hb hby at_526) (w := 1) rfl ⟨rfl, N214⟩ (by decide) (by decide)
            · refine Es.ifNo (q := 502) ?_ X198 hx (hb hby at_499) rfl (XT.ll_gt_f hc213)
              refine Es.iconst (q := 503) (z := (1 : Int32)) ?_ X198 hx (hb hby at_502) rfl rfl
              refine Es.goto (q := 507) ?_ X198 hx (hb hby at_503) (by decide) (by decide)
              refine Es.istore (q := 509) (l' := #[.val (.int x0), .val (.long x1), .second, .val (.int x2), .val (.int x3), .val (.int (4 : Int32)), .val (.long la), .second, .val (.long ua), .second, .val (.long lb), .second, .val (.long ub), .second, .val (.long lc), .second, .val (.long uc), .second, .val (.long ld), .second, .val (.long ud), .second, .val (.long ud), .second, .val (.long ((la - (256 : Int64)) + ((x3 &&& (4095 : Int32)).toInt64))), .second, .val (.int cp), .val (.ref b159), .val (.ref b193), .val (.long (cp.toInt64)), .second, .val (.int (1 : Int32))]) ?_ X198 hx (hb hby at_507) rfl rfl
              refine Es.aload (q := 511) ?_ X198 hx (hb hby at_509) rfl rfl rfl
              refine Es.iload (q := 513) ?_ X198 hx (hb hby at_511) rfl rfl
              obtain ⟨cq215, kq215, q215a, q215b, q215c⟩ := isOf hZ rfl Ex198
              obtain ⟨v215, _, ⟨T215, L215, k215, n215⟩, -, X215, ⟨Lc215, hQ215, l215, y215, z215⟩, st215⟩ := X198.virtualBack hx (y := (⟨"com/example/tagwright/tagwright/model/CodePointSet", "contains", "(I)Z"⟩ : MethodName)) (z := (⟨"com/example/tagwright/tagwright/model/CodePointSet", "contains", "(I)Z"⟩ : MethodName)) hown (mvT hZ (hw _ (List.mem_of_getElem? (i := 24) rfl))) (mvT hZ (hw _ (List.mem_of_getElem? (i := 25) rfl))) (notFace_of_selects (args := #[]) (mvT hZ (hw _ (List.mem_of_getElem? (i := 27) rfl)))) (mvT hZ (hw _ (List.mem_of_getElem? (i := 27) rfl))) (mvT hZ (hw _ (List.mem_of_getElem? (i := 26) rfl))) (by decide) (backOf (W := 0) (rmC4 l Z a0 hw [] b193 cp bb (upd (upd (upd (upd (upd (upd (upd (upd (fun _ => (0 : Int32)) 0 (la.toInt32)) 1 (ua.toInt32)) 2 (lb.toInt32)) 3 (ub.toInt32)) 4 (lc.toInt32)) 5 (uc.toInt32)) 6 (ld.toInt32)) 7 (ud.toInt32)) T198.heap n0 Zs201 Fa198 Va198) hZ (hw _ (List.mem_of_getElem? (i := 28) rfl)) (hw _ (List.mem_of_getElem? (i := 6) rfl)) (by decide) (by decide)) q215a q215c (g := (mkF m 513 #[.val (.int x0), .val (.long x1), .second, .val (.int x2), .val (.int x3), .val (.int (4 : Int32)), .val (.long la), .second, .val (.long ua), .second, .val (.long lb), .second, .val (.long ub), .second, .val (.long lc), .second, .val (.long uc), .second, .val (.long ld), .second, .val (.long ud), .second, .val (.long ud), .second, .val (.long ((la - (256 : Int64)) + ((x3 &&& (4095 : Int32)).toInt64))), .second, .val (.int cp), .val (.ref b159), .val (.ref b193), .val (.long (cp.toInt64)), .second, .val (.int (1 : Int32))] [(.int cp), (.ref b193)])) rfl (by rw [hml]; rfl) (Steps.refl _) (argsL := [(.int cp)]) (rest := []) (lenOf pd_1 rfl) rfl (by show 2 * 0 + _ ≤ _; exact Nat.le_of_eq rfl) (hb hby at_513) (fun _ _ => ⟨rfl, rfl, (by decide : 3 + 0 ≤ _), (by decide : 17 + 0 ≤ _)⟩)
              dsimp only [Pt.U, Pt.locs, Pt.cells, Pt.slots] at X215 l215 y215 z215 st215 hQ215
              subst l215 y215 z215
              obtain ⟨rfl, N215q, e215⟩ := hQ215
              have N215 := Fr.app N198 N215q
              refine Ends.go st215 ?_
              show Ends p e below s _ _ _ (T215.setTop (mkF m 516 #[.val (.int x0), .val (.long x1), .second, .val (.int x2), .val (.int x3), .val (.int (4 : Int32)), .val (.long la), .second, .val (.long ua), .second, .val (.long lb), .second, .val (.long ub), .second, .val (.long lc), .second, .val (.long uc), .second, .val (.long ld), .second, .val (.long ud), .second, .val (.long ud), .second, .val (.long ((la - (256 : Int64)) + ((x3 &&& (4095 : Int32)).toInt64))), .second, .val (.int cp), .val (.ref b159), .val (.ref b193), .val (.long (cp.toInt64)), .second, .val (.int (1 : Int32))] [(.int (fC4 b193 cp bb (upd (upd (upd (upd (upd (upd (upd (upd (fun _ => (0 : Int32)) 0 (la.toInt32)) 1 (ua.toInt32)) 2 (lb.toInt32)) 3 (ub.toInt32)) 4 (lc.toInt32)) 5 (uc.toInt32)) 6 (ld.toInt32)) 7 (ud.toInt32))))]))
              refine Es.iload (q := 518) ?_ X215 hx (hb hby at_516) rfl rfl
              refine Es.icmpNo (q := 521) ?_ X215 hx (hb hby at_518) rfl (XT.ii_ne_f ((own_c4 (la := la) (ua := ua) (lb := lb) (ub := ub) (lc := lc) (uc := uc) (ld := ld) (ud := ud) rfl rfl rfl rfl rfl rfl rfl rfl o0 o1 o2 o3 p0 p1 p2 r0 r1).trans (if_pos (by have t0 := hc202; rw [Int64.lt_iff_toInt_lt, c_i2l] at t0; have t1 := hc203; rw [Int64.lt_iff_toInt_lt, c_i2l] at t1; have t2 := hc204; rw [Int64.lt_iff_toInt_lt, c_i2l] at t2; have t3 := hc210; rw [Int64.lt_iff_toInt_lt, c_i2l] at t3; have t4 := hc211; rw [Int64.lt_iff_toInt_lt, c_i2l] at t4; have t5 := hc213; rw [Int64.lt_iff_toInt_lt, c_i2l] at t5; omega)) : (fC4 b193 cp bb (upd (upd (upd (upd (upd (upd (upd (upd (fun _ => (0 : Int32)) 0 (la.toInt32)) 1 (ua.toInt32)) 2 (lb.toInt32)) 3 (ub.toInt32)) 4 (lc.toInt32)) 5 (uc.toInt32)) 6 (ld.toInt32)) 7 (ud.toInt32))) = (1 : Int32)))
              refine Es.iconst (q := 522) (z := (1 : Int32)) ?_ X215 hx (hb hby at_521) rfl rfl
              refine Es.goto (q := 526) ?_ X215 hx (hb hby at_522) (by decide) (by decide)
              exact Ends.retN X215 hx hlk hret (t := .boolean) (by simp) (hb hby at_526) (w := 1) rfl ⟨rfl, N215⟩ (by decide) (by decide)
        · refine Es.ifYes (q := 502) ?_ X198 hx (hb hby at_477) (XT.ll_le_t hc210) (by decide) (by decide)
          refine Es.iconst (q := 503) (z := (1 : Int32)) ?_ X198 hx (hb hby at_502) rfl rfl
          refine Es.goto (q := 507) ?_ X198 hx (hb hby at_503) (by decide) (by decide)
          refine Es.istore (q := 509) (l' := #[.val (.int x0), .val (.long x1), .second, .val (.int x2), .val (.int x3), .val (.int (4 : Int32)), .val (.long la), .second, .val (.long ua), .second, .val (.long lb), .second, .val (.long ub), .second, .val (.long lc), .second, .val (.long uc), .second, .val (.long ld), .second, .val (.long ud), .second, .val (.long ud), .second, .val (.long ((la - (256 : Int64)) + ((x3 &&& (4095 : Int32)).toInt64))), .second, .val (.int cp), .val (.ref b159), .val (.ref b193), .val (.long (cp.toInt64)), .second, .val (.int (1 : Int32))]) ?_ X198 hx (hb hby at_507) rfl rfl
          refine Es.aload (q := 511) ?_ X198 hx (hb hby at_509) rfl rfl rfl
          refine Es.iload (q := 513) ?_ X198 hx (hb hby at_511) rfl rfl
          obtain ⟨cq216, kq216, q216a, q216b, q216c⟩ := isOf hZ rfl Ex198
          obtain ⟨v216, _, ⟨T216, L216, k216, n216⟩, -, X216, ⟨Lc216, hQ216, l216, y216, z216⟩, st216⟩ := X198.virtualBack hx (y := (⟨"com/example/tagwright/tagwright/model/CodePointSet", "contains", "(I)Z"⟩ : MethodName)) (z := (⟨"com/example/tagwright/tagwright/model/CodePointSet", "contains", "(I)Z"⟩ : MethodName)) hown (mvT hZ (hw _ (List.mem_of_getElem? (i := 24) rfl))) (mvT hZ (hw _ (List.mem_of_getElem? (i := 25) rfl))) (notFace_of_selects (args := #[]) (mvT hZ (hw _ (List.mem_of_getElem? (i := 27) rfl)))) (mvT hZ (hw _ (List.mem_of_getElem? (i := 27) rfl))) (mvT hZ (hw _ (List.mem_of_getElem? (i := 26) rfl))) (by decide) (backOf (W := 0) (rmC4 l Z a0 hw [] b193 cp bb (upd (upd (upd (upd (upd (upd (upd (upd (fun _ => (0 : Int32)) 0 (la.toInt32)) 1 (ua.toInt32)) 2 (lb.toInt32)) 3 (ub.toInt32)) 4 (lc.toInt32)) 5 (uc.toInt32)) 6 (ld.toInt32)) 7 (ud.toInt32)) T198.heap n0 Zs201 Fa198 Va198) hZ (hw _ (List.mem_of_getElem? (i := 28) rfl)) (hw _ (List.mem_of_getElem? (i := 6) rfl)) (by decide) (by decide)) q216a q216c (g := (mkF m 513 #[.val (.int x0), .val (.long x1), .second, .val (.int x2), .val (.int x3), .val (.int (4 : Int32)), .val (.long la), .second, .val (.long ua), .second, .val (.long lb), .second, .val (.long ub), .second, .val (.long lc), .second, .val (.long uc), .second, .val (.long ld), .second, .val (.long ud), .second, .val (.long ud), .second, .val (.long ((la - (256 : Int64)) + ((x3 &&& (4095 : Int32)).toInt64))), .second, .val (.int cp), .val (.ref b159), .val (.ref b193), .val (.long (cp.toInt64)), .second, .val (.int (1 : Int32))] [(.int cp), (.ref b193)])) rfl (by rw [hml]; rfl) (Steps.refl _) (argsL := [(.int cp)]) (rest := []) (lenOf pd_1 rfl) rfl (by show 2 * 0 + _ ≤ _; exact Nat.le_of_eq rfl) (hb hby at_513) (fun _ _ => ⟨rfl, rfl, (by decide : 3 + 0 ≤ _), (by decide : 17 + 0 ≤ _)⟩)
          dsimp only [Pt.U, Pt.locs, Pt.cells, Pt.slots] at X216 l216 y216 z216 st216 hQ216
          subst l216 y216 z216
          obtain ⟨rfl, N216q, e216⟩ := hQ216
          have N216 := Fr.app N198 N216q
          refine Ends.go st216 ?_
          show Ends p e below s _ _ _ (T216.setTop (mkF m 516 #[.val (.int x0), .val (.long x1), .second, .val (.int x2), .val (.int x3), .val (.int (4 : Int32)), .val (.long la), .second, .val (.long ua), .second, .val (.long lb), .second, .val (.long ub), .second, .val (.long lc), .second, .val (.long uc), .second, .val (.long ld), .second, .val (.long ud), .second, .val (.long ud), .second, .val (.long ((la - (256 : Int64)) + ((x3 &&& (4095 : Int32)).toInt64))), .second, .val (.int cp), .val (.ref b159), .val (.ref b193), .val (.long (cp.toInt64)), .second, .val (.int (1 : Int32))] [(.int (fC4 b193 cp bb (upd (upd (upd (upd (upd (upd (upd (upd (fun _ => (0 : Int32)) 0 (la.toInt32)) 1 (ua.toInt32)) 2 (lb.toInt32)) 3 (ub.toInt32)) 4 (lc.toInt32)) 5 (uc.toInt32)) 6 (ld.toInt32)) 7 (ud.toInt32))))]))
          refine Es.iload (q := 518) ?_ X216 hx (hb hby at_516) rfl rfl
          refine Es.icmpNo (q := 521) ?_ X216 hx (hb hby at_518) rfl (XT.ii_ne_f ((own_c4 (la := la) (ua := ua) (lb := lb) (ub := ub) (lc := lc) (uc := uc) (ld := ld) (ud := ud) rfl rfl rfl rfl rfl rfl rfl rfl o0 o1 o2 o3 p0 p1 p2 r0 r1).trans (if_pos (by have t0 := hc202; rw [Int64.lt_iff_toInt_lt, c_i2l] at t0; have t1 := hc203; rw [Int64.lt_iff_toInt_lt, c_i2l] at t1; have t2 := hc204; rw [Int64.lt_iff_toInt_lt, c_i2l] at t2; have t3 := hc210; rw [Int64.lt_iff_toInt_lt, c_i2l] at t3; omega)) : (fC4 b193 cp bb (upd (upd (upd (upd (upd (upd (upd (upd (fun _ => (0 : Int32)) 0 (la.toInt32)) 1 (ua.toInt32)) 2 (lb.toInt32)) 3 (ub.toInt32)) 4 (lc.toInt32)) 5 (uc.toInt32)) 6 (ld.toInt32)) 7 (ud.toInt32))) = (1 : Int32)))
          refine Es.iconst (q := 522) (z := (1 : Int32)) ?_ X216 hx (hb hby at_521) rfl rfl
          refine Es.goto (q := 526) ?_ X216 hx (hb hby at_522) (by decide) (by decide)
          exact Ends.retN X216 hx hlk hret (t := .boolean) (by simp) (hb hby at_526) (w := 1) rfl ⟨rfl, N216⟩ (by decide) (by decide)
    · refine Es.ifNo (q := 450) ?_ X198 hx (hb hby at_447) rfl (XT.ll_gt_f hc203)
      refine Es.lload (q := 452) ?_ X198 hx (hb hby at_450) rfl rfl
      refine Es.lload (q := 454) ?_ X198 hx (hb hby at_452) rfl rfl
      refine Es.lcmp (q := 455) ?_ X198 hx (hb hby at_454) rfl
      by_cases hc217 : ub < (cp.toInt64)
      · refine Es.ifNo (q := 458) ?_ X198 hx (hb hby at_455) rfl (XT.ll_le_f hc217)
        refine Es.iload (q := 460) ?_ X198 hx (hb hby at_458) rfl rfl
        refine Es.iconst (q := 461) (z := (3 : Int32)) ?_ X198 hx (hb hby at_460) rfl rfl
        refine Es.icmpNo (q := 464) ?_ X198 hx (hb hby at_461) rfl (XT.ii_lt_f (by decide))
        refine Es.lload (q := 466) ?_ X198 hx (hb hby at_464) rfl rfl
        refine Es.lload (q := 468) ?_ X198 hx (hb hby at_466) rfl rfl
        refine Es.lcmp (q := 469) ?_ X198 hx (hb hby at_468) rfl
        by_cases hc218 : (cp.toInt64) < lc
        · refine Es.ifYes (q := 480) ?_ X198 hx (hb hby at_469) (XT.ll_gt_t hc218) (by decide) (by decide)
          refine Es.iload (q := 482) ?_ X198 hx (hb hby at_480) rfl rfl
          refine Es.iconst (q := 483) (z := (4 : Int32)) ?_ X198 hx (hb hby at_482) rfl rfl
          refine Es.icmpNo (q := 486) ?_ X198 hx (hb hby at_483) rfl (XT.ii_lt_f (by decide))
          refine Es.lload (q := 488) ?_ X198 hx (hb hby at_486) rfl rfl
          refine Es.lload (q := 490) ?_ X198 hx (hb hby at_488) rfl rfl
          refine Es.lcmp (q := 491) ?_ X198 hx (hb hby at_490) rfl
          by_cases hc219 : (cp.toInt64) < ld
          · refine Es.ifYes (q := 506) ?_ X198 hx (hb hby at_491) (XT.ll_gt_t hc219) (by decide) (by decide)
            refine Es.iconst (q := 507) (z := (0 : Int32)) ?_ X198 hx (hb hby at_506) rfl rfl
            refine Es.istore (q := 509) (l' := #[.val (.int x0), .val (.long x1), .second, .val (.int x2), .val (.int x3), .val (.int (4 : Int32)), .val (.long la), .second, .val (.long ua), .second, .val (.long lb), .second, .val (.long ub), .second, .val (.long lc), .second, .val (.long uc), .second, .val (.long ld), .second, .val (.long ud), .second, .val (.long ud), .second, .val (.long ((la - (256 : Int64)) + ((x3 &&& (4095 : Int32)).toInt64))), .second, .val (.int cp), .val (.ref b159), .val (.ref b193), .val (.long (cp.toInt64)), .second, .val (.int (0 : Int32))]) ?_ X198 hx (hb hby at_507) rfl rfl
            refine Es.aload (q := 511) ?_ X198 hx (hb hby at_509) rfl rfl rfl
            refine Es.iload (q := 513) ?_ X198 hx (hb hby at_511) rfl rfl
            obtain ⟨cq220, kq220, q220a, q220b, q220c⟩ := isOf hZ rfl Ex198
            obtain ⟨v220, _, ⟨T220, L220, k220, n220⟩, -, X220, ⟨Lc220, hQ220, l220, y220, z220⟩, st220⟩ := X198.virtualBack hx (y := (⟨"com/example/tagwright/tagwright/model/CodePointSet", "contains", "(I)Z"⟩ : MethodName)) (z := (⟨"com/example/tagwright/tagwright/model/CodePointSet", "contains", "(I)Z"⟩ : MethodName)) hown (mvT hZ (hw _ (List.mem_of_getElem? (i := 24) rfl))) (mvT hZ (hw _ (List.mem_of_getElem? (i := 25) rfl))) (notFace_of_selects (args := #[]) (mvT hZ (hw _ (List.mem_of_getElem? (i := 27) rfl)))) (mvT hZ (hw _ (List.mem_of_getElem? (i := 27) rfl))) (mvT hZ (hw _ (List.mem_of_getElem? (i := 26) rfl))) (by decide) (backOf (W := 0) (rmC4 l Z a0 hw [] b193 cp bb (upd (upd (upd (upd (upd (upd (upd (upd (fun _ => (0 : Int32)) 0 (la.toInt32)) 1 (ua.toInt32)) 2 (lb.toInt32)) 3 (ub.toInt32)) 4 (lc.toInt32)) 5 (uc.toInt32)) 6 (ld.toInt32)) 7 (ud.toInt32)) T198.heap n0 Zs201 Fa198 Va198) hZ (hw _ (List.mem_of_getElem? (i := 28) rfl)) (hw _ (List.mem_of_getElem? (i := 6) rfl)) (by decide) (by decide)) q220a q220c (g := (mkF m 513 #[.val (.int x0), .val (.long x1), .second, .val (.int x2), .val (.int x3), .val (.int (4 : Int32)), .val (.long la), .second, .val (.long ua), .second, .val (.long lb), .second, .val (.long ub), .second, .val (.long lc), .second, .val (.long uc), .second, .val (.long ld), .second, .val (.long ud), .second, .val (.long ud), .second, .val (.long ((la - (256 : Int64)) + ((x3 &&& (4095 : Int32)).toInt64))), .second, .val (.int cp), .val (.ref b159), .val (.ref b193), .val (.long (cp.toInt64)), .second, .val (.int (0 : Int32))] [(.int cp), (.ref b193)])) rfl (by rw [hml]; rfl) (Steps.refl _) (argsL := [(.int cp)]) (rest := []) (lenOf pd_1 rfl) rfl (by show 2 * 0 + _ ≤ _; exact Nat.le_of_eq rfl) (hb hby at_513) (fun _ _ => ⟨rfl, rfl, (by decide : 3 + 0 ≤ _), (by decide : 17 + 0 ≤ _)⟩)
            dsimp only [Pt.U, Pt.locs, Pt.cells, Pt.slots] at X220 l220 y220 z220 st220 hQ220
            subst l220 y220 z220
            obtain ⟨rfl, N220q, e220⟩ := hQ220
            have N220 := Fr.app N198 N220q
            refine Ends.go st220 ?_
            show Ends p e below s _ _ _ (T220.setTop (mkF m 516 #[.val (.int x0), .val (.long x1), .second, .val (.int x2), .val (.int x3), .val (.int (4 : Int32)), .val (.long la), .second, .val (.long ua), .second, .val (.long lb), .second, .val (.long ub), .second, .val (.long lc), .second, .val (.long uc), .second, .val (.long ld), .second, .val (.long ud), .second, .val (.long ud), .second, .val (.long ((la - (256 : Int64)) + ((x3 &&& (4095 : Int32)).toInt64))), .second, .val (.int cp), .val (.ref b159), .val (.ref b193), .val (.long (cp.toInt64)), .second, .val (.int (0 : Int32))] [(.int (fC4 b193 cp bb (upd (upd (upd (upd (upd (upd (upd (upd (fun _ => (0 : Int32)) 0 (la.toInt32)) 1 (ua.toInt32)) 2 (lb.toInt32)) 3 (ub.toInt32)) 4 (lc.toInt32)) 5 (uc.toInt32)) 6 (ld.toInt32)) 7 (ud.toInt32))))]))
            refine Es.iload (q := 518) ?_ X220 hx (hb hby at_516) rfl rfl
            refine Es.icmpNo (q := 521) ?_ X220 hx (hb hby at_518) rfl (XT.ii_ne_f ((own_c4 (la := la) (ua := ua) (lb := lb) (ub := ub) (lc := lc) (uc := uc) (ld := ld) (ud := ud) rfl rfl rfl rfl rfl rfl rfl rfl o0 o1 o2 o3 p0 p1 p2 r0 r1).trans (if_neg (by have t0 := hc202; rw [Int64.lt_iff_toInt_lt, c_i2l] at t0; have t1 := hc203; rw [Int64.lt_iff_toInt_lt, c_i2l] at t1; have t2 := hc217; rw [Int64.lt_iff_toInt_lt, c_i2l] at t2; have t3 := hc218; rw [Int64.lt_iff_toInt_lt, c_i2l] at t3; have t4 := hc219; rw [Int64.lt_iff_toInt_lt, c_i2l] at t4; omega)) : (fC4 b193 cp bb (upd (upd (upd (upd (upd (upd (upd (upd (fun _ => (0 : Int32)) 0 (la.toInt32)) 1 (ua.toInt32)) 2 (lb.toInt32)) 3 (ub.toInt32)) 4 (lc.toInt32)) 5 (uc.toInt32)) 6 (ld.toInt32)) 7 (ud.toInt32))) = (0 : Int32)))
            refine Es.iconst (q := 522) (z := (1 : Int32)) ?_ X220 hx (hb hby at_521) rfl rfl
            refine Es.goto (q := 526) ?_ X220 hx (hb hby at_522) (by decide) (by decide)
            exact Ends.retN X220 hx hlk hret (t := .boolean) (by simp) (hb hby at_526) (w := 1) rfl ⟨rfl, N220⟩ (by decide) (by decide)
          · refine Es.ifNo (q := 494) ?_ X198 hx (hb hby at_491) rfl (XT.ll_gt_f hc219)
            refine Es.lload (q := 496) ?_ X198 hx (hb hby at_494) rfl rfl
            refine Es.lload (q := 498) ?_ X198 hx (hb hby at_496) rfl rfl
            refine Es.lcmp (q := 499) ?_ X198 hx (hb hby at_498) rfl
            by_cases hc221 : ud < (cp.toInt64)
            · refine Es.ifYes (q := 506) ?_ X198 hx (hb hby at_499) (XT.ll_gt_t hc221) (by decide) (by decide)
              refine Es.iconst (q := 507) (z := (0 : Int32)) ?_ X198 hx (hb hby at_506) rfl rfl
              refine Es.istore (q := 509) (l' := #[.val (.int x0), .val (.long x1), .second, .val (.int x2), .val (.int x3), .val (.int (4 : Int32)), .val (.long la), .second, .val (.long ua), .second, .val (.long lb), .second, .val (.long ub), .second, .val (.long lc), .second, .val (.long uc), .second, .val (.long ld), .second, .val (.long ud), .second, .val (.long ud), .second, .val (.long ((la - (256 : Int64)) + ((x3 &&& (4095 : Int32)).toInt64))), .second, .val (.int cp), .val (.ref b159), .val (.ref b193), .val (.long (cp.toInt64)), .second, .val (.int (0 : Int32))]) ?_ X198 hx (hb hby at_507) rfl rfl
              refine Es.aload (q := 511) ?_ X198 hx (hb hby at_509) rfl rfl rfl
              refine Es.iload (q := 513) ?_ X198 hx (hb hby at_511) rfl rfl
              obtain ⟨cq222, kq222, q222a, q222b, q222c⟩ := isOf hZ rfl Ex198
              obtain ⟨v222, _, ⟨T222, L222, k222, n222⟩, -, X222, ⟨Lc222, hQ222, l222, y222, z222⟩, st222⟩ := X198.virtualBack hx (y := (⟨"com/example/tagwright/tagwright/model/CodePointSet", "contains", "(I)Z"⟩ : MethodName)) (z := (⟨"com/example/tagwright/tagwright/model/CodePointSet", "contains", "(I)Z"⟩ : MethodName)) hown (mvT hZ (hw _ (List.mem_of_getElem? (i := 24) rfl))) (mvT hZ (hw _ (List.mem_of_getElem? (i := 25) rfl))) (notFace_of_selects (args := #[]) (mvT hZ (hw _ (List.mem_of_getElem? (i := 27) rfl)))) (mvT hZ (hw _ (List.mem_of_getElem? (i := 27) rfl))) (mvT hZ (hw _ (List.mem_of_getElem? (i := 26) rfl))) (by decide) (backOf (W := 0) (rmC4 l Z a0 hw [] b193 cp bb (upd (upd (upd (upd (upd (upd (upd (upd (fun _ => (0 : Int32)) 0 (la.toInt32)) 1 (ua.toInt32)) 2 (lb.toInt32)) 3 (ub.toInt32)) 4 (lc.toInt32)) 5 (uc.toInt32)) 6 (ld.toInt32)) 7 (ud.toInt32)) T198.heap n0 Zs201 Fa198 Va198) hZ (hw _ (List.mem_of_getElem? (i := 28) rfl)) (hw _ (List.mem_of_getElem? (i := 6) rfl)) (by decide) (by decide)) q222a q222c (g := (mkF m 513 #[.val (.int x0), .val (.long x1), .second, .val (.int x2), .val (.int x3), .val (.int (4 : Int32)), .val (.long la), .second, .val (.long ua), .second, .val (.long lb), .second, .val (.long ub), .second, .val (.long lc), .second, .val (.long uc), .second, .val (.long ld), .second, .val (.long ud), .second, .val (.long ud), .second, .val (.long ((la - (256 : Int64)) + ((x3 &&& (4095 : Int32)).toInt64))), .second, .val (.int cp), .val (.ref b159), .val (.ref b193), .val (.long (cp.toInt64)), .second, .val (.int (0 : Int32))] [(.int cp), (.ref b193)])) rfl (by rw [hml]; rfl) (Steps.refl _) (argsL := [(.int cp)]) (rest := []) (lenOf pd_1 rfl) rfl (by show 2 * 0 + _ ≤ _; exact Nat.le_of_eq rfl) (hb hby at_513) (fun _ _ => ⟨rfl, rfl, (by decide : 3 + 0 ≤ _), (by decide : 17 + 0 ≤ _)⟩)
              dsimp only [Pt.U, Pt.locs, Pt.cells, Pt.slots] at X222 l222 y222 z222 st222 hQ222
              subst l222 y222 z222
              obtain ⟨rfl, N222q, e222⟩ := hQ222
              have N222 := Fr.app N198 N222q
              refine Ends.go st222 ?_
              show Ends p e below s _ _ _ (T222.setTop (mkF m 516 #[.val (.int x0), .val (.long x1), .second, .val (.int x2), .val (.int x3), .val (.int (4 : Int32)), .val (.long la), .second, .val (.long ua), .second, .val (.long lb), .second, .val (.long ub), .second, .val (.long lc), .second, .val (.long uc), .second, .val (.long ld), .second, .val (.long ud), .second, .val (.long ud), .second, .val (.long ((la - (256 : Int64)) + ((x3 &&& (4095 : Int32)).toInt64))), .second, .val (.int cp), .val (.ref b159), .val (.ref b193), .val (.long (cp.toInt64)), .second, .val (.int (0 : Int32))] [(.int (fC4 b193 cp bb (upd (upd (upd (upd (upd (upd (upd (upd (fun _ => (0 : Int32)) 0 (la.toInt32)) 1 (ua.toInt32)) 2 (lb.toInt32)) 3 (ub.toInt32)) 4 (lc.toInt32)) 5 (uc.toInt32)) 6 (ld.toInt32)) 7 (ud.toInt32))))]))
              refine Es.iload (q := 518) ?_ X222 hx (hb hby at_516) rfl rfl
              refine Es.icmpNo (q := 521) ?_ X222 hx (hb hby at_518) rfl (XT.ii_ne_f ((own_c4 (la := la) (ua := ua) (lb := lb) (ub := ub) (lc := lc) (uc := uc) (ld := ld) (ud := ud) rfl rfl rfl rfl rfl rfl rfl rfl o0 o1 o2 o3 p0 p1 p2 r0 r1).trans (if_neg (by have t0 := hc202; rw [Int64.lt_iff_toInt_lt, c_i2l] at t0; have t1 := hc203; rw [Int64.lt_iff_toInt_lt, c_i2l] at t1; have t2 := hc217; rw [Int64.lt_iff_toInt_lt, c_i2l] at t2; have t3 := hc218; rw [Int64.lt_iff_toInt_lt, c_i2l] at t3; have t4 := hc219; rw [Int64.lt_iff_toInt_lt, c_i2l] at t4; have t5 := hc221; rw [Int64.lt_iff_toInt_lt, c_i2l] at t5; omega)) : (fC4 b193 cp bb (upd (upd (upd (upd (upd (upd (upd (upd (fun _ => (0 : Int32)) 0 (la.toInt32)) 1 (ua.toInt32)) 2 (lb.toInt32)) 3 (ub.toInt32)) 4 (lc.toInt32)) 5 (uc.toInt32)) 6 (ld.toInt32)) 7 (ud.toInt32))) = (0 : Int32)))
              refine Es.iconst (q := 522) (z := (1 : Int32)) ?_ X222 hx (hb hby at_521) rfl rfl
              refine Es.goto (q := 526) ?_ X222 hx (hb hby at_522) (by decide) (by decide)
              exact Ends.retN X222 hx hlk hret (t := .boolean) (by simp) (hb hby at_526) (w := 1) rfl ⟨rfl, N222⟩ (by decide) (by decide)
            · refine Es.ifNo (q := 502) ?_ X198 hx (hb hby at_499) rfl (XT.ll_gt_f hc221)
              refine Es.iconst (q := 503) (z := (1 : Int32)) ?_ X198 hx (hb hby at_502) rfl rfl
              refine Es.goto (q := 507) ?_ X198 hx (hb hby at_503) (by decide) (by decide)
              refine Es.istore (q := 509) (l' := #[.val (.int x0), .val (.long x1), .second, .val (.int x2), .val (.int x3), .val (.int (4 : Int32)), .val (.long la), .second, .val (.long ua), .second, .val (.long lb), .second, .val (.long ub), .second, .val (.long lc), .second, .val (.long uc), .second, .val (.long ld), .second, .val (.long ud), .second, .val (.long ud), .second, .val (.long ((la - (256 : Int64)) + ((x3 &&& (4095 : Int32)).toInt64))), .second, .val (.int cp), .val (.ref b159), .val (.ref b193), .val (.long (cp.toInt64)), .second, .val (.int (1 : Int32))]) ?_ X198 hx (hb hby at_507) rfl rfl
              refine Es.aload (q := 511) ?_ X198 hx (hb hby at_509) rfl rfl rfl
              refine Es.iload (q := 513) ?_ X198 hx (hb hby at_511) rfl rfl
              obtain ⟨cq223, kq223, q223a, q223b, q223c⟩ := isOf hZ rfl Ex198
              obtain ⟨v223, _, ⟨T223, L223, k223, n223⟩, -, X223, ⟨Lc223, hQ223, l223, y223, z223⟩, st223⟩ := X198.virtualBack hx (y := (⟨"com/example/tagwright/tagwright/model/CodePointSet", "contains", "(I)Z"⟩ : MethodName)) (z := (⟨"com/example/tagwright/tagwright/model/CodePointSet", "contains", "(I)Z"⟩ : MethodName)) hown (mvT hZ (hw _ (List.mem_of_getElem? (i := 24) rfl))) (mvT hZ (hw _ (List.mem_of_getElem? (i := 25) rfl))) (notFace_of_selects (args := #[]) (mvT hZ (hw _ (List.mem_of_getElem? (i := 27) rfl)))) (mvT hZ (hw _ (List.mem_of_getElem? (i := 27) rfl))) (mvT hZ (hw _ (List.mem_of_getElem? (i := 26) rfl))) (by decide) (backOf (W := 0) (rmC4 l Z a0 hw [] b193 cp bb (upd (upd (upd (upd (upd (upd (upd (upd (fun _ => (0 : Int32)) 0 (la.toInt32)) 1 (ua.toInt32)) 2 (lb.toInt32)) 3 (ub.toInt32)) 4 (lc.toInt32)) 5 (uc.toInt32)) 6 (ld.toInt32)) 7 (ud.toInt32)) T198.heap n0 Zs201 Fa198 Va198) hZ (hw _ (List.mem_of_getElem? (i := 28) rfl)) (hw _ (List.mem_of_getElem? (i := 6) rfl)) (by decide) (by decide)) q223a q223c (g := (mkF m 513 #[.val (.int x0), .val (.long x1), .second, .val (.int x2), .val (.int x3), .val (.int (4 : Int32)), .val (.long la), .second, .val (.long ua), .second, .val (.long lb), .second, .val (.long ub), .second, .val (.long lc), .second, .val (.long uc), .second, .val (.long ld), .second, .val (.long ud), .second, .val (.long ud), .second, .val (.long ((la - (256 : Int64)) + ((x3 &&& (4095 : Int32)).toInt64))), .second, .val (.int cp), .val (.ref b159), .val (.ref b193), .val (.long (cp.toInt64)), .second, .val (.int (1 : Int32))] [(.int cp), (.ref b193)])) rfl (by rw [hml]; rfl) (Steps.refl _) (argsL := [(.int cp)]) (rest := []) (lenOf pd_1 rfl) rfl (by show 2 * 0 + _ ≤ _; exact Nat.le_of_eq rfl) (hb hby at_513) (fun _ _ => ⟨rfl, rfl, (by decide : 3 + 0 ≤ _), (by decide : 17 + 0 ≤ _)⟩)
              dsimp only [Pt.U, Pt.locs, Pt.cells, Pt.slots] at X223 l223 y223 z223 st223 hQ223
              subst l223 y223 z223
              obtain ⟨rfl, N223q, e223⟩ := hQ223
              have N223 := Fr.app N198 N223q
              refine Ends.go st223 ?_
              show Ends p e below s _ _ _ (T223.setTop (mkF m 516 #[.val (.int x0), .val (.long x1), .second, .val (.int x2), .val (.int x3), .val (.int (4 : Int32)), .val (.long la), .second, .val (.long ua), .second, .val (.long lb), .second, .val (.long ub), .second, .val (.long lc), .second, .val (.long uc), .second, .val (.long ld), .second, .val (.long ud), .second, .val (.long ud), .second, .val (.long ((la - (256 : Int64)) + ((x3 &&& (4095 : Int32)).toInt64))), .second, .val (.int cp), .val (.ref b159), .val (.ref b193), .val (.long (cp.toInt64)), .second, .val (.int (1 : Int32))] [(.int (fC4 b193 cp bb (upd (upd (upd (upd (upd (upd (upd (upd (fun _ => (0 : Int32)) 0 (la.toInt32)) 1 (ua.toInt32)) 2 (lb.toInt32)) 3 (ub.toInt32)) 4 (lc.toInt32)) 5 (uc.toInt32)) 6 (ld.toInt32)) 7 (ud.toInt32))))]))
              refine Es.iload (q := 518) ?_ X223 hx (hb hby at_516) rfl rfl
              refine Es.icmpNo (q := 521) ?_ X223 hx (hb hby at_518) rfl (XT.ii_ne_f ((own_c4 (la := la) (ua := ua) (lb := lb) (ub := ub) (lc := lc) (uc := uc) (ld := ld) (ud := ud) rfl rfl rfl rfl rfl rfl rfl rfl o0 o1 o2 o3 p0 p1 p2 r0 r1).trans (if_pos (by have t0 := hc202; rw [Int64.lt_iff_toInt_lt, c_i2l] at t0; have t1 := hc203; rw [Int64.lt_iff_toInt_lt, c_i2l] at t1; have t2 := hc217; rw [Int64.lt_iff_toInt_lt, c_i2l] at t2; have t3 := hc218; rw [Int64.lt_iff_toInt_lt, c_i2l] at t3; have t4 := hc219; rw [Int64.lt_iff_toInt_lt, c_i2l] at t4; have t5 := hc221; rw [Int64.lt_iff_toInt_lt, c_i2l] at t5; omega)) : (fC4 b193 cp bb (upd (upd (upd (upd (upd (upd (upd (upd (fun _ => (0 : Int32)) 0 (la.toInt32)) 1 (ua.toInt32)) 2 (lb.toInt32)) 3 (ub.toInt32)) 4 (lc.toInt32)) 5 (uc.toInt32)) 6 (ld.toInt32)) 7 (ud.toInt32))) = (1 : Int32)))
              refine Es.iconst (q := 522) (z := (1 : Int32)) ?_ X223 hx (hb hby at_521) rfl rfl
              refine Es.goto (q := 526) ?_ X223 hx (hb hby at_522) (by decide) (by decide)
              exact Ends.retN X223 hx hlk hret (t := .boolean) (by simp) (hb hby at_526) (w := 1) rfl ⟨rfl, N223⟩ (by decide) (by decide)
        · refine Es.ifNo (q := 472) ?_ X198 hx (hb hby at_469) rfl (XT.ll_gt_f hc218)
          refine Es.lload (q := 474) ?_ X198 hx (hb hby at_472) rfl rfl
          refine Es.lload (q := 476) ?_ X198 hx (hb hby at_474) rfl rfl
          refine Es.lcmp (q := 477) ?_ X198 hx (hb hby at_476) rfl
          by_cases hc224 : uc < (cp.toInt64)
          · refine Es.ifNo (q := 480) ?_ X198 hx (hb hby at_477) rfl (XT.ll_le_f hc224)
            refine Es.iload (q := 482) ?_ X198 hx (hb hby at_480) rfl rfl
            refine Es.iconst (q := 483) (z := (4 : Int32)) ?_ X198 hx (hb hby at_482) rfl rfl
            refine Es.icmpNo (q := 486) ?_ X198 hx (hb hby at_483) rfl (XT.ii_lt_f (by decide))
            refine Es.lload (q := 488) ?_ X198 hx (hb hby at_486) rfl rfl
            refine Es.lload (q := 490) ?_ X198 hx (hb hby at_488) rfl rfl
            refine Es.lcmp (q := 491) ?_ X198 hx (hb hby at_490) rfl
            by_cases hc225 : (cp.toInt64) < ld
            · refine Es.ifYes (q := 506) ?_ X198 hx (hb hby at_491) (XT.ll_gt_t hc225) (by decide) (by decide)
              refine Es.iconst (q := 507) (z := (0 : Int32)) ?_ X198 hx (hb hby at_506) rfl rfl
              refine Es.istore (q := 509) (l' := #[.val (.int x0), .val (.long x1), .second, .val (.int x2), .val (.int x3), .val (.int (4 : Int32)), .val (.long la), .second, .val (.long ua), .second, .val (.long lb), .second, .val (.long ub), .second, .val (.long lc), .second, .val (.long uc), .second, .val (.long ld), .second, .val (.long ud), .second, .val (.long ud), .second, .val (.long ((la - (256 : Int64)) + ((x3 &&& (4095 : Int32)).toInt64))), .second, .val (.int cp), .val (.ref b159), .val (.ref b193), .val (.long (cp.toInt64)), .second, .val (.int (0 : Int32))]) ?_ X198 hx (hb hby at_507) rfl rfl
              refine Es.aload (q := 511) ?_ X198 hx (hb hby at_509) rfl rfl rfl
              refine Es.iload (q := 513) ?_ X198 hx (hb hby at_511) rfl rfl
              obtain ⟨cq226, kq226, q226a, q226b, q226c⟩ := isOf hZ rfl Ex198
              obtain ⟨v226, _, ⟨T226, L226, k226, n226⟩, -, X226, ⟨Lc226, hQ226, l226, y226, z226⟩, st226⟩ := X198.virtualBack hx (y := (⟨"com/example/tagwright/tagwright/model/CodePointSet", "contains", "(I)Z"⟩ : MethodName)) (z := (⟨"com/example/tagwright/tagwright/model/CodePointSet", "contains", "(I)Z"⟩ : MethodName)) hown (mvT hZ (hw _ (List.mem_of_getElem? (i := 24) rfl))) (mvT hZ (hw _ (List.mem_of_getElem? (i := 25) rfl))) (notFace_of_selects (args := #[]) (mvT hZ (hw _ (List.mem_of_getElem? (i := 27) rfl)))) (mvT hZ (hw _ (List.mem_of_getElem? (i := 27) rfl))) (mvT hZ (hw _ (List.mem_of_getElem? (i := 26) rfl))) (by decide) (backOf (W := 0) (rmC4 l Z a0 hw [] b193 cp bb (upd (upd (upd (upd (upd (upd (upd (upd (fun _ => (0 : Int32)) 0 (la.toInt32)) 1 (ua.toInt32)) 2 (lb.toInt32)) 3 (ub.toInt32)) 4 (lc.toInt32)) 5 (uc.toInt32)) 6 (ld.toInt32)) 7 (ud.toInt32)) T198.heap n0 Zs201 Fa198 Va198) hZ (hw _ (List.mem_of_getElem? (i := 28) rfl)) (hw _ (List.mem_of_getElem? (i := 6) rfl)) (by decide) (by decide)) q226a q226c (g := (mkF m 513 #[.val (.int x0), .val (.long x1), .second, .val (.int x2), .val (.int x3), .val (.int (4 : Int32)), .val (.long la), .second, .val (.long ua), .second, .val (.long lb), .second, .val (.long ub), .second, .val (.long lc), .second, .val (.long uc), .second, .val (.long ld), .second, .val (.long ud), .second, .val (.long ud), .second, .val (.long ((la - (256 : Int64)) + ((x3 &&& (4095 : Int32)).toInt64))), .second, .val (.int cp), .val (.ref b159), .val (.ref b193), .val (.long (cp.toInt64)), .second, .val (.int (0 : Int32))] [(.int cp), (.ref b193)])) rfl (by rw [hml]; rfl) (Steps.refl _) (argsL := [(.int cp)]) (rest := []) (lenOf pd_1 rfl) rfl (by show 2 * 0 + _ ≤ _; exact Nat.le_of_eq rfl) (hb hby at_513) (fun _ _ => ⟨rfl, rfl, (by decide : 3 + 0 ≤ _), (by decide : 17 + 0 ≤ _)⟩)
              dsimp only [Pt.U, Pt.locs, Pt.cells, Pt.slots] at X226 l226 y226 z226 st226 hQ226
              subst l226 y226 z226
              obtain ⟨rfl, N226q, e226⟩ := hQ226
              have N226 := Fr.app N198 N226q
              refine Ends.go st226 ?_
              show Ends p e below s _ _ _ (T226.setTop (mkF m 516 #[.val (.int x0), .val (.long x1), .second, .val (.int x2), .val (.int x3), .val (.int (4 : Int32)), .val (.long la), .second, .val (.long ua), .second, .val (.long lb), .second, .val (.long ub), .second, .val (.long lc), .second, .val (.long uc), .second, .val (.long ld), .second, .val (.long ud), .second, .val (.long ud), .second, .val (.long ((la - (256 : Int64)) + ((x3 &&& (4095 : Int32)).toInt64))), .second, .val (.int cp), .val (.ref b159), .val (.ref b193), .val (.long (cp.toInt64)), .second, .val (.int (0 : Int32))] [(.int (fC4 b193 cp bb (upd (upd (upd (upd (upd (upd (upd (upd (fun _ => (0 : Int32)) 0 (la.toInt32)) 1 (ua.toInt32)) 2 (lb.toInt32)) 3 (ub.toInt32)) 4 (lc.toInt32)) 5 (uc.toInt32)) 6 (ld.toInt32)) 7 (ud.toInt32))))]))
              refine Es.iload (q := 518) ?_ X226 hx (hb hby at_516) rfl rfl
              refine Es.icmpNo (q := 521) ?_ X226 hx (hb hby at_518) rfl (XT.ii_ne_f ((own_c4 (la := la) (ua := ua) (lb := lb) (ub := ub) (lc := lc) (uc := uc) (ld := ld) (ud := ud) rfl rfl rfl rfl rfl rfl rfl rfl o0 o1 o2 o3 p0 p1 p2 r0 r1).trans (if_neg (by have t0 := hc202; rw [Int64.lt_iff_toInt_lt, c_i2l] at t0; have t1 := hc203; rw [Int64.lt_iff_toInt_lt, c_i2l] at t1; have t2 := hc217; rw [Int64.lt_iff_toInt_lt, c_i2l] at t2; have t3 := hc218; rw [Int64.lt_iff_toInt_lt, c_i2l] at t3; have t4 := hc224; rw [Int64.lt_iff_toInt_lt, c_i2l] at t4; have t5 := hc225; rw [Int64.lt_iff_toInt_lt, c_i2l] at t5; omega)) : (fC4 b193 cp bb (upd (upd (upd (upd (upd (upd (upd (upd (fun _ => (0 : Int32)) 0 (la.toInt32)) 1 (ua.toInt32)) 2 (lb.toInt32)) 3 (ub.toInt32)) 4 (lc.toInt32)) 5 (uc.toInt32)) 6 (ld.toInt32)) 7 (ud.toInt32))) = (0 : Int32)))
              refine Es.iconst (q := 522) (z := (1 : Int32)) ?_ X226 hx (hb hby at_521) rfl rfl
              refine Es.goto (q := 526) ?_ X226 hx (hb hby at_522) (by decide) (by decide)
              exact Ends.retN X226 hx hlk hret (t := .boolean) (by simp) (hb hby at_526) (w := 1) rfl ⟨rfl, N226⟩ (by decide) (by decide)
            · refine Es.ifNo (q := 494) ?_ X198 hx (hb hby at_491) rfl (XT.ll_gt_f hc225)
              refine Es.lload (q := 496) ?_ X198 hx (hb hby at_494) rfl rfl
              refine Es.lload (q := 498) ?_ X198 hx (hb hby at_496) rfl rfl
              refine Es.lcmp (q := 499) ?_ X198 hx (hb hby at_498) rfl
              by_cases hc227 : ud < (cp.toInt64)
              · refine Es.ifYes (q := 506) ?_ X198 hx (hb hby at_499) (XT.ll_gt_t hc227) (by decide) (by decide)
                refine Es.iconst (q := 507) (z := (0 : Int32)) ?_ X198 hx (hb hby at_506) rfl rfl
                refine Es.istore (q := 509) (l' := #[.val (.int x0), .val (.long x1), .second, .val (.int x2), .val (.int x3), .val (.int (4 : Int32)), .val (.long la), .second, .val (.long ua), .second, .val (.long lb), .second, .val (.long ub), .second, .val (.long lc), .second, .val (.long uc), .second, .val (.long ld), .second, .val (.long ud), .second, .val (.long ud), .second, .val (.long ((la - (256 : Int64)) + ((x3 &&& (4095 : Int32)).toInt64))), .second, .val (.int cp), .val (.ref b159), .val (.ref b193), .val (.long (cp.toInt64)), .second, .val (.int (0 : Int32))]) ?_ X198 hx (hb hby at_507) rfl rfl
                refine Es.aload (q := 511) ?_ X198 hx (hb hby at_509) rfl rfl rfl
                refine Es.iload (q := 513) ?_ X198 hx (hb hby at_511) rfl rfl
                obtain ⟨cq228, kq228, q228a, q228b, q228c⟩ := isOf hZ rfl Ex198
                obtain ⟨v228, _, ⟨T228, L228, k228, n228⟩, -, X228, ⟨Lc228, hQ228, l228, y228, z228⟩, st228⟩ := X198.virtualBack hx (y := (⟨"com/example/tagwright/tagwright/model/CodePointSet", "contains", "(I)Z"⟩ : MethodName)) (z := (⟨"com/example/tagwright/tagwright/model/CodePointSet", "contains", "(I)Z"⟩ : MethodName)) hown (mvT hZ (hw _ (List.mem_of_getElem? (i := 24) rfl))) (mvT hZ (hw _ (List.mem_of_getElem? (i := 25) rfl))) (notFace_of_selects (args := #[]) (mvT hZ (hw _ (List.mem_of_getElem? (i := 27) rfl)))) (mvT hZ (hw _ (List.mem_of_getElem? (i := 27) rfl))) (mvT hZ (hw _ (List.mem_of_getElem? (i := 26) rfl))) (by decide) (backOf (W := 0) (rmC4 l Z a0 hw [] b193 cp bb (upd (upd (upd (upd (upd (upd (upd (upd (fun _ => (0 : Int32)) 0 (la.toInt32)) 1 (ua.toInt32)) 2 (lb.toInt32)) 3 (ub.toInt32)) 4 (lc.toInt32)) 5 (uc.toInt32)) 6 (ld.toInt32)) 7 (ud.toInt32)) T198.heap n0 Zs201 Fa198 Va198) hZ (hw _ (List.mem_of_getElem? (i := 28) rfl)) (hw _ (List.mem_of_getElem? (i := 6) rfl)) (by decide) (by decide)) q228a q228c (g := (mkF m 513 #[.val (.int x0), .val (.long x1), .second, .val (.int x2), .val (.int x3), .val (.int (4 : Int32)), .val (.long la), .second, .val (.long ua), .second, .val (.long lb), .second, .val (.long ub), .second, .val (.long lc), .second, .val (.long uc), .second, .val (.long ld), .second, .val (.long ud), .second, .val (.long ud), .second, .val (.long ((la - (256 : Int64)) + ((x3 &&& (4095 : Int32)).toInt64))), .second, .val (.int cp), .val (.ref b159), .val (.ref b193), .val (.long (cp.toInt64)), .second, .val (.int (0 : Int32))] [(.int cp), (.ref b193)])) rfl (by rw [hml]; rfl) (Steps.refl _) (argsL := [(.int cp)]) (rest := []) (lenOf pd_1 rfl) rfl (by show 2 * 0 + _ ≤ _; exact Nat.le_of_eq rfl) (hb hby at_513) (fun _ _ => ⟨rfl, rfl, (by decide : 3 + 0 ≤ _), (by decide : 17 + 0 ≤ _)⟩)
                dsimp only [Pt.U, Pt.locs, Pt.cells, Pt.slots] at X228 l228 y228 z228 st228 hQ228
                subst l228 y228 z228
                obtain ⟨rfl, N228q, e228⟩ := hQ228
                have N228 := Fr.app N198 N228q
                refine Ends.go st228 ?_
                show Ends p e below s _ _ _ (T228.setTop (mkF m 516 #[.val (.int x0), .val (.long x1), .second, .val (.int x2), .val (.int x3), .val (.int (4 : Int32)), .val (.long la), .second, .val (.long ua), .second, .val (.long lb), .second, .val (.long ub), .second, .val (.long lc), .second, .val (.long uc), .second, .val (.long ld), .second, .val (.long ud), .second, .val (.long ud), .second, .val (.long ((la - (256 : Int64)) + ((x3 &&& (4095 : Int32)).toInt64))), .second, .val (.int cp), .val (.ref b159), .val (.ref b193), .val (.long (cp.toInt64)), .second, .val (.int (0 : Int32))] [(.int (fC4 b193 cp bb (upd (upd (upd (upd (upd (upd (upd (upd (fun _ => (0 : Int32)) 0 (la.toInt32)) 1 (ua.toInt32)) 2 (lb.toInt32)) 3 (ub.toInt32)) 4 (lc.toInt32)) 5 (uc.toInt32)) 6 (ld.toInt32)) 7 (ud.toInt32))))]))
                refine Es.iload (q := 518) ?_ X228 hx (hb hby at_516) rfl rfl
                refine Es.icmpNo (q := 521) ?_ X228 hx (hb hby at_518) rfl (XT.ii_ne_f ((own_c4 (la := la) (ua := ua) (lb := lb) (ub := ub) (lc := lc) (uc := uc) (ld := ld) (ud := ud) rfl rfl rfl rfl rfl rfl rfl rfl o0 o1 o2 o3 p0 p1 p2 r0 r1).trans (if_neg (by have t0 := hc202; rw [Int64.lt_iff_toInt_lt, c_i2l] at t0; have t1 := hc203; rw [Int64.lt_iff_toInt_lt, c_i2l] at t1; have t2 := hc217; rw [Int64.lt_iff_toInt_lt, c_i2l] at t2; have t3 := hc218; rw [Int64.lt_iff_toInt_lt, c_i2l] at t3; have t4 := hc224; rw [Int64.lt_iff_toInt_lt, c_i2l] at t4; have t5 := hc225; rw [Int64.lt_iff_toInt_lt, c_i2l] at t5; have t6 := hc227; rw [Int64.lt_iff_toInt_lt, c_i2l] at t6; omega)) : (fC4 b193 cp bb (upd (upd (upd (upd (upd (upd (upd (upd (fun _ => (0 : Int32)) 0 (la.toInt32)) 1 (ua.toInt32)) 2 (lb.toInt32)) 3 (ub.toInt32)) 4 (lc.toInt32)) 5 (uc.toInt32)) 6 (ld.toInt32)) 7 (ud.toInt32))) = (0 : Int32)))
                refine Es.iconst (q := 522) (z := (1 : Int32)) ?_ X228 hx (hb hby at_521) rfl rfl
                refine Es.goto (q := 526) ?_ X228 hx (hb hby at_522) (by decide) (by decide)
                exact Ends.retN X228 hx hlk hret (t := .boolean) (by simp) (hb hby at_526) (w := 1) rfl ⟨rfl, N228⟩ (by decide) (by decide)
              · refine Es.ifNo (q := 502) ?_ X198 hx (hb hby at_499) rfl (XT.ll_gt_f hc227)
                refine Es.iconst (q := 503) (z := (1 : Int32)) ?_ X198 hx (hb hby at_502) rfl rfl
                refine Es.goto (q := 507) ?_ X198 hx (hb hby at_503) (by decide) (by decide)
                refine Es.istore (q := 509) (l' := #[.val (.int x0), .val (.long x1), .second, .val (.int x2), .val (.int x3), .val (.int (4 : Int32)), .val (.long la), .second, .val (.long ua), .second, .val (.long lb), .second, .val (.long ub), .second, .val (.long lc), .second, .val (.long uc), .second, .val (.long ld), .second, .val (.long ud), .second, .val (.long ud), .second, .val (.long ((la - (256 : Int64)) + ((x3 &&& (4095 : Int32)).toInt64))), .second, .val (.int cp), .val (.ref b159), .val (.ref b193), .val (.long (cp.toInt64)), .second, .val (.int (1 : Int32))]) ?_ X198 hx (hb hby at_507) rfl rfl
                refine Es.aload (q := 511) ?_ X198 hx (hb hby at_509) rfl rfl rfl
                refine Es.iload (q := 513) ?_ X198 hx (hb hby at_511) rfl rfl
                obtain ⟨cq229, kq229, q229a, q229b, q229c⟩ := isOf hZ rfl Ex198
                obtain ⟨v229, _, ⟨T229, L229, k229, n229⟩, -, X229, ⟨Lc229, hQ229, l229, y229, z229⟩, st229⟩ := X198.virtualBack hx (y := (⟨"com/example/tagwright/tagwright/model/CodePointSet", "contains", "(I)Z"⟩ : MethodName)) (z := (⟨"com/example/tagwright/tagwright/model/CodePointSet", "contains", "(I)Z"⟩ : MethodName)) hown (mvT hZ (hw _ (List.mem_of_getElem? (i := 24) rfl))) (mvT hZ (hw _ (List.mem_of_getElem? (i := 25) rfl))) (notFace_of_selects (args := #[]) (mvT hZ (hw _ (List.mem_of_getElem? (i := 27) rfl)))) (mvT hZ (hw _ (List.mem_of_getElem? (i := 27) rfl))) (mvT hZ (hw _ (List.mem_of_getElem? (i := 26) rfl))) (by decide) (backOf (W := 0) (rmC4 l Z a0 hw [] b193 cp bb (upd (upd (upd (upd (upd (upd (upd (upd (fun _ => (0 : Int32)) 0 (la.toInt32)) 1 (ua.toInt32)) 2 (lb.toInt32)) 3 (ub.toInt32)) 4 (lc.toInt32)) 5 (uc.toInt32)) 6 (ld.toInt32)) 7 (ud.toInt32)) T198.heap n0 Zs201 Fa198 Va198) hZ (hw _ (List.mem_of_getElem? (i := 28) rfl)) (hw _ (List.mem_of_getElem? (i := 6) rfl)) (by decide) (by decide)) q229a q229c (g := (mkF m 513 #[.val (.int x0), .val (.long x1), .second, .val (.int x2), .val (.int x3), .val (.int (4 : Int32)), .val (.long la), .second, .val (.long ua), .second, .val (.long lb), .second, .val (.long ub), .second, .val (.long lc), .second, .val (.long uc), .second, .val (.long ld), .second, .val (.long ud), .second, .val (.long ud), .second, .val (.long ((la - (256 : Int64)) + ((x3 &&& (4095 : Int32)).toInt64))), .second, .val (.int cp), .val (.ref b159), .val (.ref b193), .val (.long (cp.toInt64)), .second, .val (.int (1 : Int32))] [(.int cp), (.ref b193)])) rfl (by rw [hml]; rfl) (Steps.refl _) (argsL := [(.int cp)]) (rest := []) (lenOf pd_1 rfl) rfl (by show 2 * 0 + _ ≤ _; exact Nat.le_of_eq rfl) (hb hby at_513) (fun _ _ => ⟨rfl, rfl, (by decide : 3 + 0 ≤ _), (by decide : 17 + 0 ≤ _)⟩)
                dsimp only [Pt.U, Pt.locs, Pt.cells, Pt.slots] at X229 l229 y229 z229 st229 hQ229
                subst l229 y229 z229
                obtain ⟨rfl, N229q, e229⟩ := hQ229
                have N229 := Fr.app N198 N229q
                refine Ends.go st229 ?_
                show Ends p e below s _ _ _ (T229.setTop (mkF m 516 #[.val (.int x0), .val (.long x1), .second, .val (.int x2), .val (.int x3), .val (.int (4 : Int32)), .val (.long la), .second, .val (.long ua), .second, .val (.long lb), .second, .val (.long ub), .second, .val (.long lc), .second, .val (.long uc), .second, .val (.long ld), .second, .val (.long ud), .second, .val (.long ud), .second, .val (.long ((la - (256 : Int64)) + ((x3 &&& (4095 : Int32)).toInt64))), .second, .val (.int cp), .val (.ref b159), .val (.ref b193), .val (.long (cp.toInt64)), .second, .val (.int (1 : Int32))] [(.int (fC4 b193 cp bb (upd (upd (upd (upd (upd (upd (upd (upd (fun _ => (0 : Int32)) 0 (la.toInt32)) 1 (ua.toInt32)) 2 (lb.toInt32)) 3 (ub.toInt32)) 4 (lc.toInt32)) 5 (uc.toInt32)) 6 (ld.toInt32)) 7 (ud.toInt32))))]))
                refine Es.iload (q := 518) ?_ X229 hx (hb hby at_516) rfl rfl
                refine Es.icmpNo (q := 521) ?_ X229 hx (hb hby at_518) rfl (XT.ii_ne_f ((own_c4 (la := la) (ua := ua) (lb := lb) (ub := ub) (lc := lc) (uc := uc) (ld := ld) (ud := ud) rfl rfl rfl rfl rfl rfl rfl rfl o0 o1 o2 o3 p0 p1 p2 r0 r1).trans (if_pos (by have t0 := hc202; rw [Int64.lt_iff_toInt_lt, c_i2l] at t0; have t1 := hc203; rw [Int64.lt_iff_toInt_lt, c_i2l] at t1; have t2 := hc217; rw [Int64.lt_iff_toInt_lt, c_i2l] at t2; have t3 := hc218; rw [Int64.lt_iff_toInt_lt, c_i2l] at t3; have t4 := hc224; rw [Int64.lt_iff_toInt_lt, c_i2l] at t4; have t5 := hc225; rw [Int64.lt_iff_toInt_lt, c_i2l] at t5; have t6 := hc227; rw [Int64.lt_iff_toInt_lt, c_i2l] at t6; omega)) : (fC4 b193 cp bb (upd (upd (upd (upd (upd (upd (upd (upd (fun _ => (0 : Int32)) 0 (la.toInt32)) 1 (ua.toInt32)) 2 (lb.toInt32)) 3 (ub.toInt32)) 4 (lc.toInt32)) 5 (uc.toInt32)) 6 (ld.toInt32)) 7 (ud.toInt32))) = (1 : Int32)))
                refine Es.iconst (q := 522) (z := (1 : Int32)) ?_ X229 hx (hb hby at_521) rfl rfl
                refine Es.goto (q := 526) ?_ X229 hx (hb hby at_522) (by decide) (by decide)
                exact Ends.retN X229 hx hlk hret (t := .boolean) (by simp) (hb hby at_526) (w := 1) rfl ⟨rfl, N229⟩ (by decide) (by decide)
          · refine Es.ifYes (q := 502) ?_ X198 hx (hb hby at_477) (XT.ll_le_t hc224) (by decide) (by decide)
            refine Es.iconst (q := 503) (z := (1 : Int32)) ?_ X198 hx (hb hby at_502) rfl rfl
            refine Es.goto (q := 507) ?_ X198 hx (hb hby at_503) (by decide) (by decide)
            refine Es.istore (q := 509) (l' := #[.val (.int x0), .val (.long x1), .second, .val (.int x2), .val (.int x3), .val (.int (4 : Int32)), .val (.long la), .second, .val (.long ua), .second, .val (.long lb), .second, .val (.long ub), .second, .val (.long lc), .second, .val (.long uc), .second, .val (.long ld), .second, .val (.long ud), .second, .val (.long ud), .second, .val (.long ((la - (256 : Int64)) + ((x3 &&& (4095 : Int32)).toInt64))), .second, .val (.int cp), .val (.ref b159), .val (.ref b193), .val (.long (cp.toInt64)), .second, .val (.int (1 : Int32))]) ?_ X198 hx (hb hby at_507) rfl rfl
            refine Es.aload (q := 511) ?_ X198 hx (hb hby at_509) rfl rfl rfl
            refine Es.iload (q := 513) ?_ X198 hx (hb hby at_511) rfl rfl
            obtain ⟨cq230, kq230, q230a, q230b, q230c⟩ := isOf hZ rfl Ex198
            obtain ⟨v230, _, ⟨T230, L230, k230, n230⟩, -, X230, ⟨Lc230, hQ230, l230, y230, z230⟩, st230⟩ := X198.virtualBack hx (y := (⟨"com/example/tagwright/tagwright/model/CodePointSet", "contains", "(I)Z"⟩ : MethodName)) (z := (⟨"com/example/tagwright/tagwright/model/CodePointSet", "contains", "(I)Z"⟩ : MethodName)) hown (mvT hZ (hw _ (List.mem_of_getElem? (i := 24) rfl))) (mvT hZ (hw _ (List.mem_of_getElem? (i := 25) rfl))) (notFace_of_selects (args := #[]) (mvT hZ (hw _ (List.mem_of_getElem? (i := 27) rfl)))) (mvT hZ (hw _ (List.mem_of_getElem? (i := 27) rfl))) (mvT hZ (hw _ (List.mem_of_getElem? (i := 26) rfl))) (by decide) (backOf (W := 0) (rmC4 l Z a0 hw [] b193 cp bb (upd (upd (upd (upd (upd (upd (upd (upd (fun _ => (0 : Int32)) 0 (la.toInt32)) 1 (ua.toInt32)) 2 (lb.toInt32)) 3 (ub.toInt32)) 4 (lc.toInt32)) 5 (uc.toInt32)) 6 (ld.toInt32)) 7 (ud.toInt32)) T198.heap n0 Zs201 Fa198 Va198) hZ (hw _ (List.mem_of_getElem? (i := 28) rfl)) (hw _ (List.mem_of_getElem? (i := 6) rfl)) (by decide) (by decide)) q230a q230c (g := (mkF m 513 #[.val (.int x0), .val (.long x1), .second, .val (.int x2), .val (.int x3), .val (.int (4 : Int32)), .val (.long la), .second, .val (.long ua), .second, .val (.long lb), .second, .val (.long ub), .second, .val (.long lc), .second, .val (.long uc), .second, .val (.long ld), .second, .val (.long ud), .second, .val (.long ud), .second, .val (.long ((la - (256 : Int64)) + ((x3 &&& (4095 : Int32)).toInt64))), .second, .val (.int cp), .val (.ref b159), .val (.ref b193), .val (.long (cp.toInt64)), .second, .val (.int (1 : Int32))] [(.int cp), (.ref b193)])) rfl (by rw [hml]; rfl) (Steps.refl _) (argsL := [(.int cp)]) (rest := []) (lenOf pd_1 rfl) rfl (by show 2 * 0 + _ ≤ _; exact Nat.le_of_eq rfl) (hb hby at_513) (fun _ _ => ⟨rfl, rfl, (by decide : 3 + 0 ≤ _), (by decide : 17 + 0 ≤ _)⟩)
            dsimp only [Pt.U, Pt.locs, Pt.cells, Pt.slots] at X230 l230 y230 z230 st230 hQ230
            subst l230 y230 z230
            obtain ⟨rfl, N230q, e230⟩ := hQ230
            have N230 := Fr.app N198 N230q
            refine Ends.go st230 ?_
            show Ends p e below s _ _ _ (T230.setTop (mkF m 516 #[.val (.int x0), .val (.long x1), .second, .val (.int x2), .val (.int x3), .val (.int (4 : Int32)), .val (.long la), .second, .val (.long ua), .second, .val (.long lb), .second, .val (.long ub), .second, .val (.long lc), .second, .val (.long uc), .second, .val (.long ld), .second, .val (.long ud), .second, .val (.long ud), .second, .val (.long ((la - (256 : Int64)) + ((x3 &&& (4095 : Int32)).toInt64))), .second, .val (.int cp), .val (.ref b159), .val (.ref b193), .val (.long (cp.toInt64)), .second, .val (.int (1 : Int32))] [(.int (fC4 b193 cp bb (upd (upd (upd (upd (upd (upd (upd (upd (fun _ => (0 : Int32)) 0 (la.toInt32)) 1 (ua.toInt32)) 2 (lb.toInt32)) 3 (ub.toInt32)) 4 (lc.toInt32)) 5 (uc.toInt32)) 6 (ld.toInt32)) 7 (ud.toInt32))))]))
            refine Es.iload (q := 518) ?_ X230 hx (hb hby at_516) rfl rfl
            refine Es.icmpNo (q := 521) ?_ X230 hx (hb hby at_518) rfl (XT.ii_ne_f ((own_c4 (la := la) (ua := ua) (lb := lb) (ub := ub) (lc := lc) (uc := uc) (ld := ld) (ud := ud) rfl rfl rfl rfl rfl rfl rfl rfl o0 o1 o2 o3 p0 p1 p2 r0 r1).trans (if_pos (by have t0 := hc202; rw [Int64.lt_iff_toInt_lt, c_i2l] at t0; have t1 := hc203; rw [Int64.lt_iff_toInt_lt, c_i2l] at t1; have t2 := hc217; rw [Int64.lt_iff_toInt_lt, c_i2l] at t2; have t3 := hc218; rw [Int64.lt_iff_toInt_lt, c_i2l] at t3; have t4 := hc224; rw [Int64.lt_iff_toInt_lt, c_i2l] at t4; omega)) : (fC4 b193 cp bb (upd (upd (upd (upd (upd (upd (upd (upd (fun _ => (0 : Int32)) 0 (la.toInt32)) 1 (ua.toInt32)) 2 (lb.toInt32)) 3 (ub.toInt32)) 4 (lc.toInt32)) 5 (uc.toInt32)) 6 (ld.toInt32)) 7 (ud.toInt32))) = (1 : Int32)))
            refine Es.iconst (q := 522) (z := (1 : Int32)) ?_ X230 hx (hb hby at_521) rfl rfl
            refine Es.goto (q := 526) ?_ X230 hx (hb hby at_522) (by decide) (by decide)
            exact Ends.retN X230 hx hlk hret (t := .boolean) (by simp) (hb hby at_526) (w := 1) rfl ⟨rfl, N230⟩ (by decide) (by decide)
      · refine Es.ifYes (q := 502) ?_ X198 hx (hb hby at_455) (XT.ll_le_t hc217) (by decide) (by decide)
        refine Es.iconst (q := 503) (z := (1 : Int32)) ?_ X198 hx (hb hby at_502) rfl rfl
        refine Es.goto (q := 507) ?_ X198 hx (hb hby at_503) (by decide) (by decide)
        refine Es.istore (q := 509) (l' := #[.val (.int x0), .val (.long x1), .second, .val (.int x2), .val (.int x3), .val (.int (4 : Int32)), .val (.long la), .second, .val (.long ua), .second, .val (.long lb), .second, .val (.long ub), .second, .val (.long lc), .second, .val (.long uc), .second, .val (.long ld), .second, .val (.long ud), .second, .val (.long ud), .second, .val (.long ((la - (256 : Int64)) + ((x3 &&& (4095 : Int32)).toInt64))), .second, .val (.int cp), .val (.ref b159), .val (.ref b193), .val (.long (cp.toInt64)), .second, .val (.int (1 : Int32))]) ?_ X198 hx (hb hby at_507) rfl rfl
        refine Es.aload (q := 511) ?_ X198 hx (hb hby at_509) rfl rfl rfl
        refine Es.iload (q := 513) ?_ X198 hx (hb hby at_511) rfl rfl
        obtain ⟨cq231, kq231, q231a, q231b, q231c⟩ := isOf hZ rfl Ex198
        obtain ⟨v231, _, ⟨T231, L231, k231, n231⟩, -, X231, ⟨Lc231, hQ231, l231, y231, z231⟩, st231⟩ := X198.virtualBack hx (y := (⟨"com/example/tagwright/tagwright/model/CodePointSet", "contains", "(I)Z"⟩ : MethodName)) (z := (⟨"com/example/tagwright/tagwright/model/CodePointSet", "contains", "(I)Z"⟩ : MethodName)) hown (mvT hZ (hw _ (List.mem_of_getElem? (i := 24) rfl))) (mvT hZ (hw _ (List.mem_of_getElem? (i := 25) rfl))) (notFace_of_selects (args := #[]) (mvT hZ (hw _ (List.mem_of_getElem? (i := 27) rfl)))) (mvT hZ (hw _ (List.mem_of_getElem? (i := 27) rfl))) (mvT hZ (hw _ (List.mem_of_getElem? (i := 26) rfl))) (by decide) (backOf (W := 0) (rmC4 l Z a0 hw [] b193 cp bb (upd (upd (upd (upd (upd (upd (upd (upd (fun _ => (0 : Int32)) 0 (la.toInt32)) 1 (ua.toInt32)) 2 (lb.toInt32)) 3 (ub.toInt32)) 4 (lc.toInt32)) 5 (uc.toInt32)) 6 (ld.toInt32)) 7 (ud.toInt32)) T198.heap n0 Zs201 Fa198 Va198) hZ (hw _ (List.mem_of_getElem? (i := 28) rfl)) (hw _ (List.mem_of_getElem? (i := 6) rfl)) (by decide) (by decide)) q231a q231c (g := (mkF m 513 #[.val (.int x0), .val (.long x1), .second, .val (.int x2), .val (.int x3), .val (.int (4 : Int32)), .val (.long la), .second, .val (.long ua), .second, .val (.long lb), .second, .val (.long ub), .second, .val (.long lc), .second, .val (.long uc), .second, .val (.long ld), .second, .val (.long ud), .second, .val (.long ud), .second, .val (.long ((la - (256 : Int64)) + ((x3 &&& (4095 : Int32)).toInt64))), .second, .val (.int cp), .val (.ref b159), .val (.ref b193), .val (.long (cp.toInt64)), .second, .val (.int (1 : Int32))] [(.int cp), (.ref b193)])) rfl (by rw [hml]; rfl) (Steps.refl _) (argsL := [(.int cp)]) (rest := []) (lenOf pd_1 rfl) rfl (by show 2 * 0 + _ ≤ _; exact Nat.le_of_eq rfl) (hb hby at_513) (fun _ _ => ⟨rfl, rfl, (by decide : 3 + 0 ≤ _), (by decide : 17 + 0 ≤ _)⟩)
        dsimp only [Pt.U, Pt.locs, Pt.cells, Pt.slots] at X231 l231 y231 z231 st231 hQ231
        subst l231 y231 z231
        obtain ⟨rfl, N231q, e231⟩ := hQ231
        have N231 := Fr.app N198 N231q
        refine Ends.go st231 ?_
        show Ends p e below s _ _ _ (T231.setTop (mkF m 516 #[.val (.int x0), .val (.long x1), .second, .val (.int x2), .val (.int x3), .val (.int (4 : Int32)), .val (.long la), .second, .val (.long ua), .second, .val (.long lb), .second, .val (.long ub), .second, .val (.long lc), .second, .val (.long uc), .second, .val (.long ld), .second, .val (.long ud), .second, .val (.long ud), .second, .val (.long ((la - (256 : Int64)) + ((x3 &&& (4095 : Int32)).toInt64))), .second, .val (.int cp), .val (.ref b159), .val (.ref b193), .val (.long (cp.toInt64)), .second, .val (.int (1 : Int32))] [(.int (fC4 b193 cp bb (upd (upd (upd (upd (upd (upd (upd (upd (fun _ => (0 : Int32)) 0 (la.toInt32)) 1 (ua.toInt32)) 2 (lb.toInt32)) 3 (ub.toInt32)) 4 (lc.toInt32)) 5 (uc.toInt32)) 6 (ld.toInt32)) 7 (ud.toInt32))))]))
        refine Es.iload (q := 518) ?_ X231 hx (hb hby at_516) rfl rfl
        refine Es.icmpNo (q := 521) ?_ X231 hx (hb hby at_518) rfl (XT.ii_ne_f ((own_c4 (la := la) (ua := ua) (lb := lb) (ub := ub) (lc := lc) (uc := uc) (ld := ld) (ud := ud) rfl rfl rfl rfl rfl rfl rfl rfl o0 o1 o2 o3 p0 p1 p2 r0 r1).trans (if_pos (by have t0 := hc202; rw [Int64.lt_iff_toInt_lt, c_i2l] at t0; have t1 := hc203; rw [Int64.lt_iff_toInt_lt, c_i2l] at t1; have t2 := hc217; rw [Int64.lt_iff_toInt_lt, c_i2l] at t2; omega)) : (fC4 b193 cp bb (upd (upd (upd (upd (upd (upd (upd (upd (fun _ => (0 : Int32)) 0 (la.toInt32)) 1 (ua.toInt32)) 2 (lb.toInt32)) 3 (ub.toInt32)) 4 (lc.toInt32)) 5 (uc.toInt32)) 6 (ld.toInt32)) 7 (ud.toInt32))) = (1 : Int32)))
        refine Es.iconst (q := 522) (z := (1 : Int32)) ?_ X231 hx (hb hby at_521) rfl rfl
        refine Es.goto (q := 526) ?_ X231 hx (hb hby at_522) (by decide) (by decide)
        exact Ends.retN X231 hx hlk hret (t := .boolean) (by simp) (hb hby at_526) (w := 1) rfl ⟨rfl, N231⟩ (by decide) (by decide)
  · refine Es.ifNo (q := 428) ?_ X198 hx (hb hby at_425) rfl (XT.ll_gt_f hc202)
    refine Es.lload (q := 430) ?_ X198 hx (hb hby at_428) rfl rfl
    refine Es.lload (q := 432) ?_ X198 hx (hb hby at_430) rfl rfl
    refine Es.lcmp (q := 433) ?_ X198 hx (hb hby at_432) rfl
    by_cases hc232 : ua < (cp.toInt64)
    · refine Es.ifNo (q := 436) ?_ X198 hx (hb hby at_433) rfl (XT.ll_le_f hc232)
      refine Es.iload (q := 438) ?_ X198 hx (hb hby at_436) rfl rfl
      refine Es.iconst (q := 439) (z := (2 : Int32)) ?_ X198 hx (hb hby at_438) rfl rfl
      refine Es.icmpNo (q := 442) ?_ X198 hx (hb hby at_439) rfl (XT.ii_lt_f (by decide))
      refine Es.lload (q := 444) ?_ X198 hx (hb hby at_442) rfl rfl
      refine Es.lload (q := 446) ?_ X198 hx (hb hby at_444) rfl rfl
      refine Es.lcmp (q := 447) ?_ X198 hx (hb hby at_446) rfl
      by_cases hc233 : (cp.toInt64) < lb
      · refine Es.ifYes (q := 458) ?_ X198 hx (hb hby at_447) (XT.ll_gt_t hc233) (by decide) (by decide)
        refine Es.iload (q := 460) ?_ X198 hx (hb hby at_458) rfl rfl
        refine Es.iconst (q := 461) (z := (3 : Int32)) ?_ X198 hx (hb hby at_460) rfl rfl
        refine Es.icmpNo (q := 464) ?_ X198 hx (hb hby at_461) rfl (XT.ii_lt_f (by decide))
        refine Es.lload (q := 466) ?_ X198 hx (hb hby at_464) rfl rfl
        refine Es.lload (q := 468) ?_ X198 hx (hb hby at_466) rfl rfl
        refine Es.lcmp (q := 469) ?_ X198 hx (hb hby at_468) rfl
        by_cases hc234 : (cp.toInt64) < lc
        · refine Es.ifYes (q := 480) ?_ X198 hx (hb hby at_469) (XT.ll_gt_t hc234) (by decide) (by decide)
          refine Es.iload (q := 482) ?_ X198 hx (hb hby at_480) rfl rfl
          refine Es.iconst (q := 483) (z := (4 : Int32)) ?_ X198 hx (hb hby at_482) rfl rfl
          refine Es.icmpNo (q := 486) ?_ X198 hx (hb hby at_483) rfl (XT.ii_lt_f (by decide))
          refine Es.lload (q := 488) ?_ X198 hx (hb hby at_486) rfl rfl
          refine Es.lload (q := 490) ?_ X198 hx (hb hby at_488) rfl rfl
          refine Es.lcmp (q := 491) ?_ X198 hx (hb hby at_490) rfl
          by_cases hc235 : (cp.toInt64) < ld
          · refine Es.ifYes (q := 506) ?_ X198 hx (hb hby at_491) (XT.ll_gt_t hc235) (by decide) (by decide)
            refine Es.iconst (q := 507) (z := (0 : Int32)) ?_ X198 hx (hb hby at_506) rfl rfl
            refine Es.istore (q := 509) (l' := #[.val (.int x0), .val (.long x1), .second, .val (.int x2), .val (.int x3), .val (.int (4 : Int32)), .val (.long la), .second, .val (.long ua), .second, .val (.long lb), .second, .val (.long ub), .second, .val (.long lc), .second, .val (.long uc), .second, .val (.long ld), .second, .val (.long ud), .second, .val (.long ud), .second, .val (.long ((la - (256 : Int64)) + ((x3 &&& (4095 : Int32)).toInt64))), .second, .val (.int cp), .val (.ref b159), .val (.ref b193), .val (.long (cp.toInt64)), .second, .val (.int (0 : Int32))]) ?_ X198 hx (hb hby at_507) rfl rfl
            refine Es.aload (q := 511) ?_ X198 hx (hb hby at_509) rfl rfl rfl
            refine Es.iload (q := 513) ?_ X198 hx (hb hby at_511) rfl rfl
            obtain ⟨cq236, kq236, q236a, q236b, q236c⟩ := isOf hZ rfl Ex198
            obtain ⟨v236, _, ⟨T236, L236, k236, n236⟩, -, X236, ⟨Lc236, hQ236, l236, y236, z236⟩, st236⟩ := X198.virtualBack hx (y := (⟨"com/example/tagwright/tagwright/model/CodePointSet", "contains", "(I)Z"⟩ : MethodName)) (z := (⟨"com/example/tagwright/tagwright/model/CodePointSet", "contains", "(I)Z"⟩ : MethodName)) hown (mvT hZ (hw _ (List.mem_of_getElem? (i := 24) rfl))) (mvT hZ (hw _ (List.mem_of_getElem? (i := 25) rfl))) (notFace_of_selects (args := #[]) (mvT hZ (hw _ (List.mem_of_getElem? (i := 27) rfl)))) (mvT hZ (hw _ (List.mem_of_getElem? (i := 27) rfl))) (mvT hZ (hw _ (List.mem_of_getElem? (i := 26) rfl))) (by decide) (backOf (W := 0) (rmC4 l Z a0 hw [] b193 cp bb (upd (upd (upd (upd (upd (upd (upd (upd (fun _ => (0 : Int32)) 0 (la.toInt32)) 1 (ua.toInt32)) 2 (lb.toInt32)) 3 (ub.toInt32)) 4 (lc.toInt32)) 5 (uc.toInt32)) 6 (ld.toInt32)) 7 (ud.toInt32)) T198.heap n0 Zs201 Fa198 Va198) hZ (hw _ (List.mem_of_getElem? (i := 28) rfl)) (hw _ (List.mem_of_getElem? (i := 6) rfl)) (by decide) (by decide)) q236a q236c (g := (mkF m 513 #[.val (.int x0), .val (.long x1), .second, .val (.int x2), .val (.int x3), .val (.int (4 : Int32)), .val (.long la), .second, .val (.long ua), .second, .val (.long lb), .second, .val (.long ub), .second, .val (.long lc), .second, .val (.long uc), .second, .val (.long ld), .second, .val (.long ud), .second, .val (.long ud), .second, .val (.long ((la - (256 : Int64)) + ((x3 &&& (4095 : Int32)).toInt64))), .second, .val (.int cp), .val (.ref b159), .val (.ref b193), .val (.long (cp.toInt64)), .second, .val (.int (0 : Int32))] [(.int cp), (.ref b193)])) rfl (by rw [hml]; rfl) (Steps.refl _) (argsL := [(.int cp)]) (rest := []) (lenOf pd_1 rfl) rfl (by show 2 * 0 + _ ≤ _; exact Nat.le_of_eq rfl) (hb hby at_513) (fun _ _ => ⟨rfl, rfl, (by decide : 3 + 0 ≤ _), (by decide : 17 + 0 ≤ _)⟩)
            dsimp only [Pt.U, Pt.locs, Pt.cells, Pt.slots] at X236 l236 y236 z236 st236 hQ236
            subst l236 y236 z236
            obtain ⟨rfl, N236q, e236⟩ := hQ236
            have N236 := Fr.app N198 N236q
            refine Ends.go st236 ?_
            show Ends p e below s _ _ _ (T236.setTop (mkF m 516 #[.val (.int x0), .val (.long x1), .second, .val (.int x2), .val (.int x3), .val (.int (4 : Int32)), .val (.long la), .second, .val (.long ua), .second, .val (.long lb), .second, .val (.long ub), .second, .val (.long lc), .second, .val (.long uc), .second, .val (.long ld), .second, .val (.long ud), .second, .val (.long ud), .second, .val (.long ((la - (256 : Int64)) + ((x3 &&& (4095 : Int32)).toInt64))), .second, .val (.int cp), .val (.ref b159), .val (.ref b193), .val (.long (cp.toInt64)), .second, .val (.int (0 : Int32))] [(.int (fC4 b193 cp bb (upd (upd (upd (upd (upd (upd (upd (upd (fun _ => (0 : Int32)) 0 (la.toInt32)) 1 (ua.toInt32)) 2 (lb.toInt32)) 3 (ub.toInt32)) 4 (lc.toInt32)) 5 (uc.toInt32)) 6 (ld.toInt32)) 7 (ud.toInt32))))]))
            refine Es.iload (q := 518) ?_ X236 hx (hb hby at_516) rfl rfl
            refine Es.icmpNo (q := 521) ?_ X236 hx (hb hby at_518) rfl (XT.ii_ne_f ((own_c4 (la := la) (ua := ua) (lb := lb) (ub := ub) (lc := lc) (uc := uc) (ld := ld) (ud := ud) rfl rfl rfl rfl rfl rfl rfl rfl o0 o1 o2 o3 p0 p1 p2 r0 r1).trans (if_neg (by have t0 := hc202; rw [Int64.lt_iff_toInt_lt, c_i2l] at t0; have t1 := hc232; rw [Int64.lt_iff_toInt_lt, c_i2l] at t1; have t2 := hc233; rw [Int64.lt_iff_toInt_lt, c_i2l] at t2; have t3 := hc234; rw [Int64.lt_iff_toInt_lt, c_i2l] at t3; have t4 := hc235; rw [Int64.lt_iff_toInt_lt, c_i2l] at t4; omega)) : (fC4 b193 cp bb (upd (upd (upd (upd (upd (upd (upd (upd (fun _ => (0 : Int32)) 0 (la.toInt32)) 1 (ua.toInt32)) 2 (lb.toInt32)) 3 (ub.toInt32)) 4 (lc.toInt32)) 5 (uc.toInt32)) 6 (ld.toInt32)) 7 (ud.toInt32))) = (0 : Int32)))
            refine Es.iconst (q := 522) (z := (1 : Int32)) ?_ X236 hx (hb hby at_521) rfl rfl
            refine Es.goto (q := 526) ?_ X236 hx (hb hby at_522) (by decide) (by decide)
            exact Ends.retN X236 hx hlk hret (t := .boolean) (by simp) (hb hby at_526) (w := 1) rfl ⟨rfl, N236⟩ (by decide) (by decide)
          · refine Es.ifNo (q := 494) ?_ X198 hx (hb hby at_491) rfl (XT.ll_gt_f hc235)
            refine Es.lload (q := 496) ?_ X198 hx (hb hby at_494) rfl rfl
            refine Es.lload (q := 498) ?_ X198 hx (hb hby at_496) rfl rfl
            refine Es.lcmp (q := 499) ?_ X198 hx (hb hby at_498) rfl
            by_cases hc237 : ud < (cp.toInt64)
            · refine Es.ifYes (q := 506) ?_ X198 hx (hb hby at_499) (XT.ll_gt_t hc237) (by decide) (by decide)
              refine Es.iconst (q := 507) (z := (0 : Int32)) ?_ X198 hx (hb hby at_506) rfl rfl
              refine Es.istore (q := 509) (l' := #[.val (.int x0), .val (.long x1), .second, .val (.int x2), .val (.int x3), .val (.int (4 : Int32)), .val (.long la), .second, .val (.long ua), .second, .val (.long lb), .second, .val (.long ub), .second, .val (.long lc), .second, .val (.long uc), .second, .val (.long ld), .second, .val (.long ud), .second, .val (.long ud), .second, .val (.long ((la - (256 : Int64)) + ((x3 &&& (4095 : Int32)).toInt64))), .second, .val (.int cp), .val (.ref b159), .val (.ref b193), .val (.long (cp.toInt64)), .second, .val (.int (0 : Int32))]) ?_ X198 hx (hb hby at_507) rfl rfl
              refine Es.aload (q := 511) ?_ X198 hx (hb hby at_509) rfl rfl rfl
              refine Es.iload (q := 513) ?_ X198 hx (hb hby at_511) rfl rfl
              obtain ⟨cq238, kq238, q238a, q238b, q238c⟩ := isOf hZ rfl Ex198
              obtain ⟨v238, _, ⟨T238, L238, k238, n238⟩, -, X238, ⟨Lc238, hQ238, l238, y238, z238⟩, st238⟩ := X198.virtualBack hx (y := (⟨"com/example/tagwright/tagwright/model/CodePointSet", "contains", "(I)Z"⟩ : MethodName)) (z := (⟨"com/example/tagwright/tagwright/model/CodePointSet", "contains", "(I)Z"⟩ : MethodName)) hown (mvT hZ (hw _ (List.mem_of_getElem? (i := 24) rfl))) (mvT hZ (hw _ (List.mem_of_getElem? (i := 25) rfl))) (notFace_of_selects (args := #[]) (mvT hZ (hw _ (List.mem_of_getElem? (i := 27) rfl)))) (mvT hZ (hw _ (List.mem_of_getElem? (i := 27) rfl))) (mvT hZ (hw _ (List.mem_of_getElem? (i := 26) rfl))) (by decide) (backOf (W := 0) (rmC4 l Z a0 hw [] b193 cp bb (upd (upd (upd (upd (upd (upd (upd (upd (fun _ => (0 : Int32)) 0 (la.toInt32)) 1 (ua.toInt32)) 2 (lb.toInt32)) 3 (ub.toInt32)) 4 (lc.toInt32)) 5 (uc.toInt32)) 6 (ld.toInt32)) 7 (ud.toInt32)) T198.heap n0 Zs201 Fa198 Va198) hZ (hw _ (List.mem_of_getElem? (i := 28) rfl)) (hw _ (List.mem_of_getElem? (i := 6) rfl)) (by decide) (by decide)) q238a q238c (g := (mkF m 513 #[.val (.int x0), .val (.long x1), .second, .val (.int x2), .val (.int x3), .val (.int (4 : Int32)), .val (.long la), .second, .val (.long ua), .second, .val (.long lb), .second, .val (.long ub), .second, .val (.long lc), .second, .val (.long uc), .second, .val (.long ld), .second, .val (.long ud), .second, .val (.long ud), .second, .val (.long ((la - (256 : Int64)) + ((x3 &&& (4095 : Int32)).toInt64))), .second, .val (.int cp), .val (.ref b159), .val (.ref b193), .val (.long (cp.toInt64)), .second, .val (.int (0 : Int32))] [(.int cp), (.ref b193)])) rfl (by rw [hml]; rfl) (Steps.refl _) (argsL := [(.int cp)]) (rest := []) (lenOf pd_1 rfl) rfl (by show 2 * 0 + _ ≤ _; exact Nat.le_of_eq rfl) (hb hby at_513) (fun _ _ => ⟨rfl, rfl, (by decide : 3 + 0 ≤ _), (by decide : 17 + 0 ≤ _)⟩)
              dsimp only [Pt.U, Pt.locs, Pt.cells, Pt.slots] at X238 l238 y238 z238 st238 hQ238
              subst l238 y238 z238
              obtain ⟨rfl, N238q, e238⟩ := hQ238
              have N238 := Fr.app N198 N238q
              refine Ends.go st238 ?_
              show Ends p e below s _ _ _ (T238.setTop (mkF m 516 #[.val (.int x0), .val (.long x1), .second, .val (.int x2), .val (.int x3), .val (.int (4 : Int32)), .val (.long la), .second, .val (.long ua), .second, .val (.long lb), .second, .val (.long ub), .second, .val (.long lc), .second, .val (.long uc), .second, .val (.long ld), .second, .val (.long ud), .second, .val (.long ud), .second, .val (.long ((la - (256 : Int64)) + ((x3 &&& (4095 : Int32)).toInt64))), .second, .val (.int cp), .val (.ref b159), .val (.ref b193), .val (.long (cp.toInt64)), .second, .val (.int (0 : Int32))] [(.int (fC4 b193 cp bb (upd (upd (upd (upd (upd (upd (upd (upd (fun _ => (0 : Int32)) 0 (la.toInt32)) 1 (ua.toInt32)) 2 (lb.toInt32)) 3 (ub.toInt32)) 4 (lc.toInt32)) 5 (uc.toInt32)) 6 (ld.toInt32)) 7 (ud.toInt32))))]))
              refine Es.iload (q := 518) ?_ X238 hx (hb hby at_516) rfl rfl
              refine Es.icmpNo (q := 521) ?_ X238 hx (hb hby at_518) rfl (XT.ii_ne_f ((own_c4 (la := la) (ua := ua) (lb := lb) (ub := ub) (lc := lc) (uc := uc) (ld := ld) (ud := ud) rfl rfl rfl rfl rfl rfl rfl rfl o0 o1 o2 o3 p0 p1 p2 r0 r1).trans (if_neg (by have t0 := hc202; rw [Int64.lt_iff_toInt_lt, c_i2l] at t0; have t1 := hc232; rw [Int64.lt_iff_toInt_lt, c_i2l] at t1; have t2 := hc233; rw [Int64.lt_iff_toInt_lt, c_i2l] at t2; have t3 := hc234; rw [Int64.lt_iff_toInt_lt, c_i2l] at t3; have t4 := hc235; rw [Int64.lt_iff_toInt_lt, c_i2l] at t4; have t5 := hc237; rw [Int64.lt_iff_toInt_lt, c_i2l] at t5; omega)) : (fC4 b193 cp bb (upd (upd (upd (upd (upd (upd (upd (upd (fun _ => (0 : Int32)) 0 (la.toInt32)) 1 (ua.toInt32)) 2 (lb.toInt32)) 3 (ub.toInt32)) 4 (lc.toInt32)) 5 (uc.toInt32)) 6 (ld.toInt32)) 7 (ud.toInt32))) = (0 : Int32)))
              refine Es.iconst (q := 522) (z := (1 : Int32)) ?_ X238 hx (hb hby at_521) rfl rfl
              refine Es.goto (q := 526) ?_ X238 hx (hb hby at_522) (by decide) (by decide)
              exact Ends.retN X238 hx hlk hret (t := .boolean) (by simp) (hb hby at_526) (w := 1) rfl ⟨rfl, N238⟩ (by decide) (by decide)
            · refine Es.ifNo (q := 502) ?_ X198 hx (hb hby at_499) rfl (XT.ll_gt_f hc237)
              refine Es.iconst (q := 503) (z := (1 : Int32)) ?_ X198 hx (hb hby at_502) rfl rfl
              refine Es.goto (q := 507) ?_ X198 hx (hb hby at_503) (by decide) (by decide)
              refine Es.istore (q := 509) (l' := #[.val (.int x0), .val (.long x1), .second, .val (.int x2), .val (.int x3), .val (.int (4 : Int32)), .val (.long la), .second, .val (.long ua), .second, .val (.long lb), .second, .val (.long ub), .second, .val (.long lc), .second, .val (.long uc), .second, .val (.long ld), .second, .val (.long ud), .second, .val (.long ud), .second, .val (.long ((la - (256 : Int64)) + ((x3 &&& (4095 : Int32)).toInt64))), .second, .val (.int cp), .val (.ref b159), .val (.ref b193), .val (.long (cp.toInt64)), .second, .val (.int (1 : Int32))]) ?_ X198 hx (hb hby at_507) rfl rfl
              refine Es.aload (q := 511) ?_ X198 hx (hb hby at_509) rfl rfl rfl
              refine Es.iload (q := 513) ?_ X198 hx (hb hby at_511) rfl rfl
              obtain ⟨cq239, kq239, q239a, q239b, q239c⟩ := isOf hZ rfl Ex198
              obtain ⟨v239, _, ⟨T239, L239, k239, n239⟩, -, X239, ⟨Lc239, hQ239, l239, y239, z239⟩, st239⟩ := X198.virtualBack hx (y := (⟨"com/example/tagwright/tagwright/model/CodePointSet", "contains", "(I)Z"⟩ : MethodName)) (z := (⟨"com/example/tagwright/tagwright/model/CodePointSet", "contains", "(I)Z"⟩ : MethodName)) hown (mvT hZ (hw _ (List.mem_of_getElem? (i := 24) rfl))) (mvT hZ (hw _ (List.mem_of_getElem? (i := 25) rfl))) (notFace_of_selects (args := #[]) (mvT hZ (hw _ (List.mem_of_getElem? (i := 27) rfl)))) (mvT hZ (hw _ (List.mem_of_getElem? (i := 27) rfl))) (mvT hZ (hw _ (List.mem_of_getElem? (i := 26) rfl))) (by decide) (backOf (W := 0) (rmC4 l Z a0 hw [] b193 cp bb (upd (upd (upd (upd (upd (upd (upd (upd (fun _ => (0 : Int32)) 0 (la.toInt32)) 1 (ua.toInt32)) 2 (lb.toInt32)) 3 (ub.toInt32)) 4 (lc.toInt32)) 5 (uc.toInt32)) 6 (ld.toInt32)) 7 (ud.toInt32)) T198.heap n0 Zs201 Fa198 Va198) hZ (hw _ (List.mem_of_getElem? (i := 28) rfl)) (hw _ (List.mem_of_getElem? (i := 6) rfl)) (by decide) (by decide)) q239a q239c (g := (mkF m 513 #[.val (.int x0), .val (.long x1), .second, .val (.int x2), .val (.int x3), .val (.int (4 : Int32)), .val (.long la), .second, .val (.long ua), .second, .val (.long lb), .second, .val (.long ub), .second, .val (.long lc), .second, .val (.long uc), .second, .val (.long ld), .second, .val (.long ud), .second, .val (.long ud), .second, .val (.long ((la - (256 : Int64)) + ((x3 &&& (4095 : Int32)).toInt64))), .second, .val (.int cp), .val (.ref b159), .val (.ref b193), .val (.long (cp.toInt64)), .second, .val (.int (1 : Int32))] [(.int cp), (.ref b193)])) rfl (by rw [hml]; rfl) (Steps.refl _) (argsL := [(.int cp)]) (rest := []) (lenOf pd_1 rfl) rfl (by show 2 * 0 + _ ≤ _; exact Nat.le_of_eq rfl) (hb hby at_513) (fun _ _ => ⟨rfl, rfl, (by decide : 3 + 0 ≤ _), (by decide : 17 + 0 ≤ _)⟩)
              dsimp only [Pt.U, Pt.locs, Pt.cells, Pt.slots] at X239 l239 y239 z239 st239 hQ239
              subst l239 y239 z239
              obtain ⟨rfl, N239q, e239⟩ := hQ239
              have N239 := Fr.app N198 N239q
              refine Ends.go st239 ?_
              show Ends p e below s _ _ _ (T239.setTop (mkF m 516 #[.val (.int x0), .val (.long x1), .second, .val (.int x2), .val (.int x3), .val (.int (4 : Int32)), .val (.long la), .second, .val (.long ua), .second, .val (.long lb), .second, .val (.long ub), .second, .val (.long lc), .second, .val (.long uc), .second, .val (.long ld), .second, .val (.long ud), .second, .val (.long ud), .second, .val (.long ((la - (256 : Int64)) + ((x3 &&& (4095 : Int32)).toInt64))), .second, .val (.int cp), .val (.ref b159), .val (.ref b193), .val (.long (cp.toInt64)), .second, .val (.int (1 : Int32))] [(.int (fC4 b193 cp bb (upd (upd (upd (upd (upd (upd (upd (upd (fun _ => (0 : Int32)) 0 (la.toInt32)) 1 (ua.toInt32)) 2 (lb.toInt32)) 3 (ub.toInt32)) 4 (lc.toInt32)) 5 (uc.toInt32)) 6 (ld.toInt32)) 7 (ud.toInt32))))]))
              refine Es.iload (q := 518) ?_ X239 hx (hb hby at_516) rfl rfl
              refine Es.icmpNo (q := 521) ?_ X239 hx (hb hby at_518) rfl (XT.ii_ne_f ((own_c4 (la := la) (ua := ua) (lb := lb) (ub := ub) (lc := lc) (uc := uc) (ld := ld) (ud := ud) rfl rfl rfl rfl rfl rfl rfl rfl o0 o1 o2 o3 p0 p1 p2 r0 r1).trans (if_pos (by have t0 := hc202; rw [Int64.lt_iff_toInt_lt, c_i2l] at t0; have t1 := hc232; rw [Int64.lt_iff_toInt_lt, c_i2l] at t1; have t2 := hc233; rw [Int64.lt_iff_toInt_lt, c_i2l] at t2; have t3 := hc234; rw [Int64.lt_iff_toInt_lt, c_i2l] at t3; have t4 := hc235; rw [Int64.lt_iff_toInt_lt, c_i2l] at t4; have t5 := hc237; rw [Int64.lt_iff_toInt_lt, c_i2l] at t5; omega)) : (fC4 b193 cp bb (upd (upd (upd (upd (upd (upd (upd (upd (fun _ => (0 : Int32)) 0 (la.toInt32)) 1 (ua.toInt32)) 2 (lb.toInt32)) 3 (ub.toInt32)) 4 (lc.toInt32)) 5 (uc.toInt32)) 6 (ld.toInt32)) 7 (ud.toInt32))) = (1 : Int32)))
              refine Es.iconst (q := 522) (z := (1 : Int32)) ?_ X239 hx (hb hby at_521) rfl rfl
              refine Es.goto (q := 526) ?_ X239 hx (hb hby at_522) (by decide) (by decide)
              exact Ends.retN X239 hx hlk hret (t := .boolean) (by simp) (hb hby at_526) (w := 1) rfl ⟨rfl, N239⟩ (by decide) (by decide)
        · refine Es.ifNo (q := 472) ?_ X198 hx (hb hby at_469) rfl (XT.ll_gt_f hc234)
          refine Es.lload (q := 474) ?_ X198 hx (hb hby at_472) rfl rfl
          refine Es.lload (q := 476) ?_ X198 hx (hb hby at_474) rfl rfl
          refine Es.lcmp (q := 477) ?_ X198 hx (hb hby at_476) rfl
          by_cases hc240 : uc < (cp.toInt64)
          · refine Es.ifNo (q := 480) ?_ X198 hx (hb hby at_477) rfl (XT.ll_le_f hc240)
            refine Es.iload (q := 482) ?_ X198 hx (hb hby at_480) rfl rfl
            refine Es.iconst (q := 483) (z := (4 : Int32)) ?_ X198 hx (hb hby at_482) rfl rfl
            refine Es.icmpNo (q := 486) ?_ X198 hx (hb hby at_483) rfl (XT.ii_lt_f (by decide))
            refine Es.lload (q := 488) ?_ X198 hx (hb hby at_486) rfl rfl
            refine Es.lload (q := 490) ?_ X198 hx (hb hby at_488) rfl rfl
            refine Es.lcmp (q := 491) ?_ X198 hx (hb hby at_490) rfl
            by_cases hc241 : (cp.toInt64) < ld
            · refine Es.ifYes (q := 506) ?_ X198 hx (hb hby at_491) (XT.ll_gt_t hc241) (by decide) (by decide)
              refine Es.iconst (q := 507) (z := (0 : Int32)) ?_ X198 hx (hb hby at_506) rfl rfl
              refine Es.istore (q := 509) (l' := #[.val (.int x0), .val (.long x1), .second, .val (.int x2), .val (.int x3), .val (.int (4 : Int32)), .val (.long la), .second, .val (.long ua), .second, .val (.long lb), .second, .val (.long ub), .second, .val (.long lc), .second, .val (.long uc), .second, .val (.long ld), .second, .val (.long ud), .second, .val (.long ud), .second, .val (.long ((la - (256 : Int64)) + ((x3 &&& (4095 : Int32)).toInt64))), .second, .val (.int cp), .val (.ref b159), .val (.ref b193), .val (.long (cp.toInt64)), .second, .val (.int (0 : Int32))]) ?_ X198 hx (hb hby at_507) rfl rfl
              refine Es.aload (q := 511) ?_ X198 hx (hb hby at_509) rfl rfl rfl
              refine Es.iload (q := 513) ?_ X198 hx (hb hby at_511) rfl rfl
              obtain ⟨cq242, kq242, q242a, q242b, q242c⟩ := isOf hZ rfl Ex198
              obtain ⟨v242, _, ⟨T242, L242, k242, n242⟩, -, X242, ⟨Lc242, hQ242, l242, y242, z242⟩, st242⟩ := X198.virtualBack hx (y := (⟨"com/example/tagwright/tagwright/model/CodePointSet", "contains", "(I)Z"⟩ : MethodName)) (z := (⟨"com/example/tagwright/tagwright/model/CodePointSet", "contains", "(I)Z"⟩ : MethodName)) hown (mvT hZ (hw _ (List.mem_of_getElem? (i := 24) rfl))) (mvT hZ (hw _ (List.mem_of_getElem? (i := 25) rfl))) (notFace_of_selects (args := #[]) (mvT hZ (hw _ (List.mem_of_getElem? (i := 27) rfl)))) (mvT hZ (hw _ (List.mem_of_getElem? (i := 27) rfl))) (mvT hZ (hw _ (List.mem_of_getElem? (i := 26) rfl))) (by decide) (backOf (W := 0) (rmC4 l Z a0 hw [] b193 cp bb (upd (upd (upd (upd (upd (upd (upd (upd (fun _ => (0 : Int32)) 0 (la.toInt32)) 1 (ua.toInt32)) 2 (lb.toInt32)) 3 (ub.toInt32)) 4 (lc.toInt32)) 5 (uc.toInt32)) 6 (ld.toInt32)) 7 (ud.toInt32)) T198.heap n0 Zs201 Fa198 Va198) hZ (hw _ (List.mem_of_getElem? (i := 28) rfl)) (hw _ (List.mem_of_getElem? (i := 6) rfl)) (by decide) (by decide)) q242a q242c (g := (mkF m 513 #[.val (.int x0), .val (.long x1), .second, .val (.int x2), .val (.int x3), .val (.int (4 : Int32)), .val (.long la), .second, .val (.long ua), .second, .val (.long lb), .second, .val (.long ub), .second, .val (.long lc), .second, .val (.long uc), .second, .val (.long ld), .second, .val (.long ud), .second, .val (.long ud), .second, .val (.long ((la - (256 : Int64)) + ((x3 &&& (4095 : Int32)).toInt64))), .second, .val (.int cp), .val (.ref b159), .val (.ref b193), .val (.long (cp.toInt64)), .second, .val (.int (0 : Int32))] [(.int cp), (.ref b193)])) rfl (by rw [hml]; rfl) (Steps.refl _) (argsL := [(.int cp)]) (rest := []) (lenOf pd_1 rfl) rfl (by show 2 * 0 + _ ≤ _; exact Nat.le_of_eq rfl) (hb hby at_513) (fun _ _ => ⟨rfl, rfl, (by decide : 3 + 0 ≤ _), (by decide : 17 + 0 ≤ _)⟩)
              dsimp only [Pt.U, Pt.locs, Pt.cells, Pt.slots] at X242 l242 y242 z242 st242 hQ242
              subst l242 y242 z242
              obtain ⟨rfl, N242q, e242⟩ := hQ242
              have N242 := Fr.app N198 N242q
              refine Ends.go st242 ?_
              show Ends p e below s _ _ _ (T242.setTop (mkF m 516 #[.val (.int x0), .val (.long x1), .second, .val (.int x2), .val (.int x3), .val (.int (4 : Int32)), .val (.long la), .second, .val (.long ua), .second, .val (.long lb), .second, .val (.long ub), .second, .val (.long lc), .second, .val (.long uc), .second, .val (.long ld), .second, .val (.long ud), .second, .val (.long ud), .second, .val (.long ((la - (256 : Int64)) + ((x3 &&& (4095 : Int32)).toInt64))), .second, .val (.int cp), .val (.ref b159), .val (.ref b193), .val (.long (cp.toInt64)), .second, .val (.int (0 : Int32))] [(.int (fC4 b193 cp bb (upd (upd (upd (upd (upd (upd (upd (upd (fun _ => (0 : Int32)) 0 (la.toInt32)) 1 (ua.toInt32)) 2 (lb.toInt32)) 3 (ub.toInt32)) 4 (lc.toInt32)) 5 (uc.toInt32)) 6 (ld.toInt32)) 7 (ud.toInt32))))]))
              refine Es.iload (q := 518) ?_ X242 hx (hb hby at_516) rfl rfl
              refine Es.icmpNo (q := 521) ?_ X242 hx (hb hby at_518) rfl (XT.ii_ne_f ((own_c4 (la := la) (ua := ua) (lb := lb) (ub := ub) (lc := lc) (uc := uc) (ld := ld) (ud := ud) rfl rfl rfl rfl rfl rfl rfl rfl o0 o1 o2 o3 p0 p1 p2 r0 r1).trans (if_neg (by have t0 := hc202; rw [Int64.lt_iff_toInt_lt, c_i2l] at t0; have t1 := hc232; rw [Int64.lt_iff_toInt_lt, c_i2l] at t1; have t2 := hc233; rw [Int64.lt_iff_toInt_lt, c_i2l] at t2; have t3 := hc234; rw [Int64.lt_iff_toInt_lt, c_i2l] at t3; have t4 := hc240; rw [Int64.lt_iff_toInt_lt, c_i2l] at t4; have t5 := hc241; rw [Int64.lt_iff_toInt_lt, c_i2l] at t5; omega)) : (fC4 b193 cp bb (upd (upd (upd (upd (upd (upd (upd (upd (fun _ => (0 : Int32)) 0 (la.toInt32)) 1 (ua.toInt32)) 2 (lb.toInt32)) 3 (ub.toInt32)) 4 (lc.toInt32)) 5 (uc.toInt32)) 6 (ld.toInt32)) 7 (ud.toInt32))) = (0 : Int32)))
              refine Es.iconst (q := 522) (z := (1 : Int32)) ?_ X242 hx (hb hby at_521) rfl rfl
              refine Es.goto (q := 526) ?_ X242 hx (hb hby at_522) (by decide) (by decide)
              exact Ends.retN X242 hx hlk hret (t := .boolean) (by simp) (hb hby at_526) (w := 1) rfl ⟨rfl, N242⟩ (by decide) (by decide)
            · refine Es.ifNo (q := 494) ?_ X198 hx (hb hby at_491) rfl (XT.ll_gt_f hc241)
              refine Es.lload (q := 496) ?_ X198 hx (hb hby at_494) rfl rfl
              refine Es.lload (q := 498) ?_ X198 hx (hb hby at_496) rfl rfl
              refine Es.lcmp (q := 499) ?_ X198 hx (hb hby at_498) rfl
              by_cases hc243 : ud < (cp.toInt64)
              · refine Es.ifYes (q := 506) ?_ X198 hx (hb hby at_499) (XT.ll_gt_t hc243) (by decide) (by decide)
                refine Es.iconst (q := 507) (z := (0 : Int32)) ?_ X198 hx (hb hby at_506) rfl rfl
                refine Es.istore (q := 509) (l' := #[.val (.int x0), .val (.long x1), .second, .val (.int x2), .val (.int x3), .val (.int (4 : Int32)), .val (.long la), .second, .val (.long ua), .second, .val (.long lb), .second, .val (.long ub), .second, .val (.long lc), .second, .val (.long uc), .second, .val (.long ld), .second, .val (.long ud), .second, .val (.long ud), .second, .val (.long ((la - (256 : Int64)) + ((x3 &&& (4095 : Int32)).toInt64))), .second, .val (.int cp), .val (.ref b159), .val (.ref b193), .val (.long (cp.toInt64)), .second, .val (.int (0 : Int32))]) ?_ X198 hx (hb hby at_507) rfl rfl
                refine Es.aload (q := 511) ?_ X198 hx (hb hby at_509) rfl rfl rfl
                refine Es.iload (q := 513) ?_ X198 hx (hb hby at_511) rfl rfl
                obtain ⟨cq244, kq244, q244a, q244b, q244c⟩ := isOf hZ rfl Ex198
                obtain ⟨v244, _, ⟨T244, L244, k244, n244⟩, -, X244, ⟨Lc244, hQ244, l244, y244, z244⟩, st244⟩ := X198.virtualBack hx (y := (⟨"com/example/tagwright/tagwright/model/CodePointSet", "contains", "(I)Z"⟩ : MethodName)) (z := (⟨"com/example/tagwright/tagwright/model/CodePointSet", "contains", "(I)Z"⟩ : MethodName)) hown (mvT hZ (hw _ (List.mem_of_getElem? (i := 24) rfl))) (mvT hZ (hw _ (List.mem_of_getElem? (i := 25) rfl))) (notFace_of_selects (args := #[]) (mvT hZ (hw _ (List.mem_of_getElem? (i := 27) rfl)))) (mvT hZ (hw _ (List.mem_of_getElem? (i := 27) rfl))) (mvT hZ (hw _ (List.mem_of_getElem? (i := 26) rfl))) (by decide) (backOf (W := 0) (rmC4 l Z a0 hw [] b193 cp bb (upd (upd (upd (upd (upd (upd (upd (upd (fun _ => (0 : Int32)) 0 (la.toInt32)) 1 (ua.toInt32)) 2 (lb.toInt32)) 3 (ub.toInt32)) 4 (lc.toInt32)) 5 (uc.toInt32)) 6 (ld.toInt32)) 7 (ud.toInt32)) T198.heap n0 Zs201 Fa198 Va198) hZ (hw _ (List.mem_of_getElem? (i := 28) rfl)) (hw _ (List.mem_of_getElem? (i := 6) rfl)) (by decide) (by decide)) q244a q244c (g := (mkF m 513 #[.val (.int x0), .val (.long x1), .second, .val (.int x2), .val (.int x3), .val (.int (4 : Int32)), .val (.long la), .second, .val (.long ua), .second, .val (.long lb), .second, .val (.long ub), .second, .val (.long lc), .second, .val (.long uc), .second, .val (.long ld), .second, .val (.long ud), .second, .val (.long ud), .second, .val (.long ((la - (256 : Int64)) + ((x3 &&& (4095 : Int32)).toInt64))), .second, .val (.int cp), .val (.ref b159), .val (.ref b193), .val (.long (cp.toInt64)), .second, .val (.int (0 : Int32))] [(.int cp), (.ref b193)])) rfl (by rw [hml]; rfl) (Steps.refl _) (argsL := [(.int cp)]) (rest := []) (lenOf pd_1 rfl) rfl (by show 2 * 0 + _ ≤ _; exact Nat.le_of_eq rfl) (hb hby at_513) (fun _ _ => ⟨rfl, rfl, (by decide : 3 + 0 ≤ _), (by decide : 17 + 0 ≤ _)⟩)
                dsimp only [Pt.U, Pt.locs, Pt.cells, Pt.slots] at X244 l244 y244 z244 st244 hQ244
                subst l244 y244 z244
                obtain ⟨rfl, N244q, e244⟩ := hQ244
                have N244 := Fr.app N198 N244q
                refine Ends.go st244 ?_
                show Ends p e below s _ _ _ (T244.setTop (mkF m 516 #[.val (.int x0), .val (.long x1), .second, .val (.int x2), .val (.int x3), .val (.int (4 : Int32)), .val (.long la), .second, .val (.long ua), .second, .val (.long lb), .second, .val (.long ub), .second, .val (.long lc), .second, .val (.long uc), .second, .val (.long ld), .second, .val (.long ud), .second, .val (.long ud), .second, .val (.long ((la - (256 : Int64)) + ((x3 &&& (4095 : Int32)).toInt64))), .second, .val (.int cp), .val (.ref b159), .val (.ref b193), .val (.long (cp.toInt64)), .second, .val (.int (0 : Int32))] [(.int (fC4 b193 cp bb (upd (upd (upd (upd (upd (upd (upd (upd (fun _ => (0 : Int32)) 0 (la.toInt32)) 1 (ua.toInt32)) 2 (lb.toInt32)) 3 (ub.toInt32)) 4 (lc.toInt32)) 5 (uc.toInt32)) 6 (ld.toInt32)) 7 (ud.toInt32))))]))
                refine Es.iload (q := 518) ?_ X244 hx (hb hby at_516) rfl rfl
                refine Es.icmpNo (q := 521) ?_ X244 hx (hb hby at_518) rfl (XT.ii_ne_f ((own_c4 (la := la) (ua := ua) (lb := lb) (ub := ub) (lc := lc) (uc := uc) (ld := ld) (ud := ud) rfl rfl rfl rfl rfl rfl rfl rfl o0 o1 o2 o3 p0 p1 p2 r0 r1).trans (if_neg (by have t0 := hc202; rw [Int64.lt_iff_toInt_lt, c_i2l] at t0; have t1 := hc232; rw [Int64.lt_iff_toInt_lt, c_i2l] at t1; have t2 := hc233; rw [Int64.lt_iff_toInt_lt, c_i2l] at t2; have t3 := hc234; rw [Int64.lt_iff_toInt_lt, c_i2l] at t3; have t4 := hc240; rw [Int64.lt_iff_toInt_lt, c_i2l] at t4; have t5 := hc241; rw [Int64.lt_iff_toInt_lt, c_i2l] at t5; have t6 := hc243; rw [Int64.lt_iff_toInt_lt, c_i2l] at t6; omega)) : (fC4 b193 cp bb (upd (upd (upd (upd (upd (upd (upd (upd (fun _ => (0 : Int32)) 0 (la.toInt32)) 1 (ua.toInt32)) 2 (lb.toInt32)) 3 (ub.toInt32)) 4 (lc.toInt32)) 5 (uc.toInt32)) 6 (ld.toInt32)) 7 (ud.toInt32))) = (0 : Int32)))
                refine Es.iconst (q := 522) (z := (1 : Int32)) ?_ X244 hx (hb hby at_521) rfl rfl
                refine Es.goto (q := 526) ?_ X244 hx (hb hby at_522) (by decide) (by decide)
                exact Ends.retN X244 hx hlk hret (t := .boolean) (by simp) (hb hby at_526) (w := 1) rfl ⟨rfl, N244⟩ (by decide) (by decide)
              · refine Es.ifNo (q := 502) ?_ X198 hx (hb hby at_499) rfl (XT.ll_gt_f hc243)
                refine Es.iconst (q := 503) (z := (1 : Int32)) ?_ X198 hx (hb hby at_502) rfl rfl
                refine Es.goto (q := 507) ?_ X198 hx (hb hby at_503) (by decide) (by decide)
                refine Es.istore (q := 509) (l' := #[.val (.int x0), .val (.long x1), .second, .val (.int x2), .val (.int x3), .val (.int (4 : Int32)), .val (.long la), .second, .val (.long ua), .second, .val (.long lb), .second, .val (.long ub), .second, .val (.long lc), .second, .val (.long uc), .second, .val (.long ld), .second, .val (.long ud), .second, .val (.long ud), .second, .val (.long ((la - (256 : Int64)) + ((x3 &&& (4095 : Int32)).toInt64))), .second, .val (.int cp), .val (.ref b159), .val (.ref b193), .val (.long (cp.toInt64)), .second, .val (.int (1 : Int32))]) ?_ X198 hx (hb hby at_507) rfl rfl
                refine Es.aload (q := 511) ?_ X198 hx (hb hby at_509) rfl rfl rfl
                refine Es.iload (q := 513) ?_ X198 hx (hb hby at_511) rfl rfl
                obtain ⟨cq245, kq245, q245a, q245b, q245c⟩ := isOf hZ rfl Ex198
                obtain ⟨v245, _, ⟨T245, L245, k245, n245⟩, -, X245, ⟨Lc245, hQ245, l245, y245, z245⟩, st245⟩ := X198.virtualBack hx (y := (⟨"com/example/tagwright/tagwright/model/CodePointSet", "contains", "(I)Z"⟩ : MethodName)) (z := (⟨"com/example/tagwright/tagwright/model/CodePointSet", "contains", "(I)Z"⟩ : MethodName)) hown (mvT hZ (hw _ (List.mem_of_getElem? (i := 24) rfl))) (mvT hZ (hw _ (List.mem_of_getElem? (i := 25) rfl))) (notFace_of_selects (args := #[]) (mvT hZ (hw _ (List.mem_of_getElem? (i := 27) rfl)))) (mvT hZ (hw _ (List.mem_of_getElem? (i := 27) rfl))) (mvT hZ (hw _ (List.mem_of_getElem? (i := 26) rfl))) (by decide) (backOf (W := 0) (rmC4 l Z a0 hw [] b193 cp bb (upd (upd (upd (upd (upd (upd (upd (upd (fun _ => (0 : Int32)) 0 (la.toInt32)) 1 (ua.toInt32)) 2 (lb.toInt32)) 3 (ub.toInt32)) 4 (lc.toInt32)) 5 (uc.toInt32)) 6 (ld.toInt32)) 7 (ud.toInt32)) T198.heap n0 Zs201 Fa198 Va198) hZ (hw _ (List.mem_of_getElem? (i := 28) rfl)) (hw _ (List.mem_of_getElem? (i := 6) rfl)) (by decide) (by decide)) q245a q245c (g := (mkF m 513 #[.val (.int x0), .val (.long x1), .second, .val (.int x2), .val (.int x3), .val (.int (4 : Int32)), .val (.long la), .second, .val (.long ua), .second, .val (.long lb), .second, .val (.long ub), .second, .val (.long lc), .second, .val (.long uc), .second, .val (.long ld), .second, .val (.long ud), .second, .val (.long ud), .second, .val (.long ((la - (256 : Int64)) + ((x3 &&& (4095 : Int32)).toInt64))), .second, .val (.int cp), .val (.ref b159), .val (.ref b193), .val (.long (cp.toInt64)), .second, .val (.int (1 : Int32))] [(.int cp), (.ref b193)])) rfl (by rw [hml]; rfl) (Steps.refl _) (argsL := [(.int cp)]) (rest := []) (lenOf pd_1 rfl) rfl (by show 2 * 0 + _ ≤ _; exact Nat.le_of_eq rfl) (hb hby at_513) (fun _ _ => ⟨rfl, rfl, (by decide : 3 + 0 ≤ _), (by decide : 17 + 0 ≤ _)⟩)
                dsimp only [Pt.U, Pt.locs, Pt.cells, Pt.slots] at X245 l245 y245 z245 st245 hQ245
                subst l245 y245 z245
                obtain ⟨rfl, N245q, e245⟩ := hQ245
                have N245 := Fr.app N198 N245q
                refine Ends.go st245 ?_
                show Ends p e below s _ _ _ (T245.setTop (mkF m 516 #[.val (.int x0), .val (.long x1), .second, .val (.int x2), .val (.int x3), .val (.int (4 : Int32)), .val (.long la), .second, .val (.long ua), .second, .val (.long lb), .second, .val (.long ub), .second, .val (.long lc), .second, .val (.long uc), .second, .val (.long ld), .second, .val (.long ud), .second, .val (.long ud), .second, .val (.long ((la - (256 : Int64)) + ((x3 &&& (4095 : Int32)).toInt64))), .second, .val (.int cp), .val (.ref b159), .val (.ref b193), .val (.long (cp.toInt64)), .second, .val (.int (1 : Int32))] [(.int (fC4 b193 cp bb (upd (upd (upd (upd (upd (upd (upd (upd (fun _ => (0 : Int32)) 0 (la.toInt32)) 1 (ua.toInt32)) 2 (lb.toInt32)) 3 (ub.toInt32)) 4 (lc.toInt32)) 5 (uc.toInt32)) 6 (ld.toInt32)) 7 (ud.toInt32))))]))
                refine Es.iload (q := 518) ?_ X245 hx (hb hby at_516) rfl rfl
                refine Es.icmpNo (q := 521) ?_ X245 hx (hb hby at_518) rfl (XT.ii_ne_f ((own_c4 (la := la) (ua := ua) (lb := lb) (ub := ub) (lc := lc) (uc := uc) (ld := ld) (ud := ud) rfl rfl rfl rfl rfl rfl rfl rfl o0 o1 o2 o3 p0 p1 p2 r0 r1).trans (if_pos (by have t0 := hc202; rw [Int64.lt_iff_toInt_lt, c_i2l] at t0; have t1 := hc232; rw [Int64.lt_iff_toInt_lt, c_i2l] at t1; have t2 := hc233; rw [Int64.lt_iff_toInt_lt, c_i2l] at t2; have t3 := hc234; rw [Int64.lt_iff_toInt_lt, c_i2l] at t3; have t4 := hc240; rw [Int64.lt_iff_toInt_lt, c_i2l] at t4; have t5 := hc241; rw [Int64.lt_iff_toInt_lt, c_i2l] at t5; have t6 := hc243; rw [Int64.lt_iff_toInt_lt, c_i2l] at t6; omega)) : (fC4 b193 cp bb (upd (upd (upd (upd (upd (upd (upd (upd (fun _ => (0 : Int32)) 0 (la.toInt32)) 1 (ua.toInt32)) 2 (lb.toInt32)) 3 (ub.toInt32)) 4 (lc.toInt32)) 5 (uc.toInt32)) 6 (ld.toInt32)) 7 (ud.toInt32))) = (1 : Int32)))
                refine Es.iconst (q := 522) (z := (1 : Int32)) ?_ X245 hx (hb hby at_521) rfl rfl
                refine Es.goto (q := 526) ?_ X245 hx (hb hby at_522) (by decide) (by decide)
                exact Ends.retN X245 hx hlk hret (t := .boolean) (by simp) (hb hby at_526) (w := 1) rfl ⟨rfl, N245⟩ (by decide) (by decide)
          · refine Es.ifYes (q := 502) ?_ X198 hx (hb hby at_477) (XT.ll_le_t hc240) (by decide) (by decide)
            refine Es.iconst (q := 503) (z := (1 : Int32)) ?_ X198 hx (hb hby at_502) rfl rfl
            refine Es.goto (q := 507) ?_ X198 hx (hb hby at_503) (by decide) (by decide)
            refine Es.istore (q := 509) (l' := #[.val (.int x0), .val (.long x1), .second, .val (.int x2), .val (.int x3), .val (.int (4 : Int32)), .val (.long la), .second, .val (.long ua), .second, .val (.long lb), .second, .val (.long ub), .second, .val (.long lc), .second, .val (.long uc), .second, .val (.long ld), .second, .val (.long ud), .second, .val (.long ud), .second, .val (.long ((la - (256 : Int64)) + ((x3 &&& (4095 : Int32)).toInt64))), .second, .val (.int cp), .val (.ref b159), .val (.ref b193), .val (.long (cp.toInt64)), .second, .val (.int (1 : Int32))]) ?_ X198 hx (hb hby at_507) rfl rfl
            refine Es.aload (q := 511) ?_ X198 hx (hb hby at_509) rfl rfl rfl
            refine Es.iload (q := 513) ?_ X198 hx (hb hby at_511) rfl rfl
            obtain ⟨cq246, kq246, q246a, q246b, q246c⟩ := isOf hZ rfl Ex198
            obtain ⟨v246, _, ⟨T246, L246, k246, n246⟩, -, X246, ⟨Lc246, hQ246, l246, y246, z246⟩, st246⟩ := X198.virtualBack hx (y := (⟨"com/example/tagwright/tagwright/model/CodePointSet", "contains", "(I)Z"⟩ : MethodName)) (z := (⟨"com/example/tagwright/tagwright/model/CodePointSet", "contains", "(I)Z"⟩ : MethodName)) hown (mvT hZ (hw _ (List.mem_of_getElem? (i := 24) rfl))) (mvT hZ (hw _ (List.mem_of_getElem? (i := 25) rfl))) (notFace_of_selects (args := #[]) (mvT hZ (hw _ (List.mem_of_getElem? (i := 27) rfl)))) (mvT hZ (hw _ (List.mem_of_getElem? (i := 27) rfl))) (mvT hZ (hw _ (List.mem_of_getElem? (i := 26) rfl))) (by decide) (backOf (W := 0) (rmC4 l Z a0 hw [] b193 cp bb (upd (upd (upd (upd (upd (upd (upd (upd (fun _ => (0 : Int32)) 0 (la.toInt32)) 1 (ua.toInt32)) 2 (lb.toInt32)) 3 (ub.toInt32)) 4 (lc.toInt32)) 5 (uc.toInt32)) 6 (ld.toInt32)) 7 (ud.toInt32)) T198.heap n0 Zs201 Fa198 Va198) hZ (hw _ (List.mem_of_getElem? (i := 28) rfl)) (hw _ (List.mem_of_getElem? (i := 6) rfl)) (by decide) (by decide)) q246a q246c (g := (mkF m 513 #[.val (.int x0), .val (.long x1), .second, .val (.int x2), .val (.int x3), .val (.int (4 : Int32)), .val (.long la), .second, .val (.long ua), .second, .val (.long lb), .second, .val (.long ub), .second, .val (.long lc), .second, .val (.long uc), .second, .val (.long ld), .second, .val (.long ud), .second, .val (.long ud), .second, .val (.long ((la - (256 : Int64)) + ((x3 &&& (4095 : Int32)).toInt64))), .second, .val (.int cp), .val (.ref b159), .val (.ref b193), .val (.long (cp.toInt64)), .second, .val (.int (1 : Int32))] [(.int cp), (.ref b193)])) rfl (by rw [hml]; rfl) (Steps.refl _) (argsL := [(.int cp)]) (rest := []) (lenOf pd_1 rfl) rfl (by show 2 * 0 + _ ≤ _; exact Nat.le_of_eq rfl) (hb hby at_513) (fun _ _ => ⟨rfl, rfl, (by decide : 3 + 0 ≤ _), (by decide : 17 + 0 ≤ _)⟩)
            dsimp only [Pt.U, Pt.locs, Pt.cells, Pt.slots] at X246 l246 y246 z246 st246 hQ246
            subst l246 y246 z246
            obtain ⟨rfl, N246q, e246⟩ := hQ246
            have N246 := Fr.app N198 N246q
            refine Ends.go st246 ?_
            show Ends p e below s _ _ _ (T246.setTop (mkF m 516 #[.val (.int x0), .val (.long x1), .second, .val (.int x2), .val (.int x3), .val (.int (4 : Int32)), .val (.long la), .second, .val (.long ua), .second, .val (.long lb), .second, .val (.long ub), .second, .val (.long lc), .second, .val (.long uc), .second, .val (.long ld), .second, .val (.long ud), .second, .val (.long ud), .second, .val (.long ((la - (256 : Int64)) + ((x3 &&& (4095 : Int32)).toInt64))), .second, .val (.int cp), .val (.ref b159), .val (.ref b193), .val (.long (cp.toInt64)), .second, .val (.int (1 : Int32))] [(.int (fC4 b193 cp bb (upd (upd (upd (upd (upd (upd (upd (upd (fun _ => (0 : Int32)) 0 (la.toInt32)) 1 (ua.toInt32)) 2 (lb.toInt32)) 3 (ub.toInt32)) 4 (lc.toInt32)) 5 (uc.toInt32)) 6 (ld.toInt32)) 7 (ud.toInt32))))]))
            refine Es.iload (q := 518) ?_ X246 hx (hb hby at_516) rfl rfl
            refine Es.icmpNo (q := 521) ?_ X246 hx (hb hby at_518) rfl (XT.ii_ne_f ((own_c4 (la := la) (ua := ua) (lb := lb) (ub := ub) (lc := lc) (uc := uc) (ld := ld) (ud := ud) rfl rfl rfl rfl rfl rfl rfl rfl o0 o1 o2 o3 p0 p1 p2 r0 r1).trans (if_pos (by have t0 := hc202; rw [Int64.lt_iff_toInt_lt, c_i2l] at t0; have t1 := hc232; rw [Int64.lt_iff_toInt_lt, c_i2l] at t1; have t2 := hc233; rw [Int64.lt_iff_toInt_lt, c_i2l] at t2; have t3 := hc234; rw [Int64.lt_iff_toInt_lt, c_i2l] at t3; have t4 := hc240; rw [Int64.lt_iff_toInt_lt, c_i2l] at t4; omega)) : (fC4 b193 cp bb (upd (upd (upd (upd (upd (upd (upd (upd (fun _ => (0 : Int32)) 0 (la.toInt32)) 1 (ua.toInt32)) 2 (lb.toInt32)) 3 (ub.toInt32)) 4 (lc.toInt32)) 5 (uc.toInt32)) 6 (ld.toInt32)) 7 (ud.toInt32))) = (1 : Int32)))
            refine Es.iconst (q := 522) (z := (1 : Int32)) ?_ X246 hx (hb hby at_521) rfl rfl
            refine Es.goto (q := 526) ?_ X246 hx (hb hby at_522) (by decide) (by decide)
            exact Ends.retN X246 hx hlk hret (t := .boolean) (by simp) (hb hby at_526) (w := 1) rfl ⟨rfl, N246⟩ (by decide) (by decide)
      · refine Es.ifNo (q := 450) ?_ X198 hx (hb hby at_447) rfl (XT.ll_gt_f hc233)
        refine Es.lload (q := 452) ?_ X198 hx (hb hby at_450) rfl rfl
        refine Es.lload (q := 454) ?_ X198 hx (hb hby at_452) rfl rfl
        refine Es.lcmp (q := 455) ?_ X198 hx (hb hby at_454) rfl
        by_cases hc247 : ub < (cp.toInt64)
        · refine Es.ifNo (q := 458) ?_ X198 hx (hb hby at_455) rfl (XT.ll_le_f hc247)
          refine Es.iload (q := 460) ?_ X198 hx (hb hby at_458) rfl rfl
          refine Es.iconst (q := 461) (z := (3 : Int32)) ?_ X198 hx (hb hby at_460) rfl rfl
          refine Es.icmpNo (q := 464) ?_ X198 hx (hb hby at_461) rfl (XT.ii_lt_f (by decide))
          refine Es.lload (q := 466) ?_ X198 hx (hb hby at_464) rfl rfl
          refine Es.lload (q := 468) ?_ X198 hx (hb hby at_466) rfl rfl
          refine Es.lcmp (q := 469) ?_ X198 hx (hb hby at_468) rfl
          by_cases hc248 : (cp.toInt64) < lc
          · refine Es.ifYes (q := 480) ?_ X198 hx (hb hby at_469) (XT.ll_gt_t hc248) (by decide) (by decide)
            refine Es.iload (q := 482) ?_ X198 hx (hb hby at_480) rfl rfl
            refine Es.iconst (q := 483) (z := (4 : Int32)) ?_ X198 hx (hb hby at_482) rfl rfl
            refine Es.icmpNo (q := 486) ?_ X198 hx (hb hby at_483) rfl (XT.ii_lt_f (by decide))
            refine Es.lload (q := 488) ?_ X198 hx (hb hby at_486) rfl rfl
            refine Es.lload (q := 490) ?_ X198 hx (hb hby at_488) rfl rfl
            refine Es.lcmp (q := 491) ?_ X198 hx (hb hby at_490) rfl
            by_cases hc249 : (cp.toInt64) < ld
            · refine Es.ifYes (q := 506) ?_ X198 hx (hb hby at_491) (XT.ll_gt_t hc249) (by decide) (by decide)
              refine Es.iconst (q := 507) (z := (0 : Int32)) ?_ X198 hx (hb hby at_506) rfl rfl
              refine Es.istore (q := 509) (l' := #[.val (.int x0), .val (.long x1), .second, .val (.int x2), .val (.int x3), .val (.int (4 : Int32)), .val (.long la), .second, .val (.long ua), .second, .val (.long lb), .second, .val (.long ub), .second, .val (.long lc), .second, .val (.long uc), .second, .val (.long ld), .second, .val (.long ud), .second, .val (.long ud), .second, .val (.long ((la - (256 : Int64)) + ((x3 &&& (4095 : Int32)).toInt64))), .second, .val (.int cp), .val (.ref b159), .val (.ref b193), .val (.long (cp.toInt64)), .second, .val (.int (0 : Int32))]) ?_ X198 hx (hb hby at_507) rfl rfl
              refine Es.aload (q := 511) ?_ X198 hx (hb hby at_509) rfl rfl rfl
              refine Es.iload (q := 513) ?_ X198 hx (hb hby at_511) rfl rfl
              obtain ⟨cq250, kq250, q250a, q250b, q250c⟩ := isOf hZ rfl Ex198
              obtain ⟨v250, _, ⟨T250, L250, k250, n250⟩, -, X250, ⟨Lc250, hQ250, l250, y250, z250⟩, st250⟩ := X198.virtualBack hx (y := (⟨"com/example/tagwright/tagwright/model/CodePointSet", "contains", "(I)Z"⟩ : MethodName)) (z := (⟨"com/example/tagwright/tagwright/model/CodePointSet", "contains", "(I)Z"⟩ : MethodName)) hown (mvT hZ (hw _ (List.mem_of_getElem? (i := 24) rfl))) (mvT hZ (hw _ (List.mem_of_getElem? (i := 25) rfl))) (notFace_of_selects (args := #[]) (mvT hZ (hw _ (List.mem_of_getElem? (i := 27) rfl)))) (mvT hZ (hw _ (List.mem_of_getElem? (i := 27) rfl))) (mvT hZ (hw _ (List.mem_of_getElem? (i := 26) rfl))) (by decide) (backOf (W := 0) (rmC4 l Z a0 hw [] b193 cp bb (upd (upd (upd (upd (upd (upd (upd (upd (fun _ => (0 : Int32)) 0 (la.toInt32)) 1 (ua.toInt32)) 2 (lb.toInt32)) 3 (ub.toInt32)) 4 (lc.toInt32)) 5 (uc.toInt32)) 6 (ld.toInt32)) 7 (ud.toInt32)) T198.heap n0 Zs201 Fa198 Va198) hZ (hw _ (List.mem_of_getElem? (i := 28) rfl)) (hw _ (List.mem_of_getElem? (i := 6) rfl)) (by decide) (by decide)) q250a q250c (g := (mkF m 513 #[.val (.int x0), .val (.long x1), .second, .val (.int x2), .val (.int x3), .val (.int (4 : Int32)), .val (.long la), .second, .val (.long ua), .second, .val (.long lb), .second, .val (.long ub), .second, .val (.long lc), .second, .val (.long uc), .second, .val (.long ld), .second, .val (.long ud), .second, .val (.long ud), .second, .val (.long ((la - (256 : Int64)) + ((x3 &&& (4095 : Int32)).toInt64))), .second, .val (.int cp), .val (.ref b159), .val (.ref b193), .val (.long (cp.toInt64)), .second, .val (.int (0 : Int32))] [(.int cp), (.ref b193)])) rfl (by rw [hml]; rfl) (Steps.refl _) (argsL := [(.int cp)]) (rest := []) (lenOf pd_1 rfl) rfl (by show 2 * 0 + _ ≤ _; exact Nat.le_of_eq rfl) (hb hby at_513) (fun _ _ => ⟨rfl, rfl, (by decide : 3 + 0 ≤ _), (by decide : 17 + 0 ≤ _)⟩)
              dsimp only [Pt.U, Pt.locs, Pt.cells, Pt.slots] at X250 l250 y250 z250 st250 hQ250
              subst l250 y250 z250
              obtain ⟨rfl, N250q, e250⟩ := hQ250
              have N250 := Fr.app N198 N250q
              refine Ends.go st250 ?_
              show Ends p e below s _ _ _ (T250.setTop (mkF m 516 #[.val (.int x0), .val (.long x1), .second, .val (.int x2), .val (.int x3), .val (.int (4 : Int32)), .val (.long la), .second, .val (.long ua), .second, .val (.long lb), .second, .val (.long ub), .second, .val (.long lc), .second, .val (.long uc), .second, .val (.long ld), .second, .val (.long ud), .second, .val (.long ud), .second, .val (.long ((la - (256 : Int64)) + ((x3 &&& (4095 : Int32)).toInt64))), .second, .val (.int cp), .val (.ref b159), .val (.ref b193), .val (.long (cp.toInt64)), .second, .val (.int (0 : Int32))] [(.int (fC4 b193 cp bb (upd (upd (upd (upd (upd (upd (upd (upd (fun _ => (0 : Int32)) 0 (la.toInt32)) 1 (ua.toInt32)) 2 (lb.toInt32)) 3 (ub.toInt32)) 4 (lc.toInt32)) 5 (uc.toInt32)) 6 (ld.toInt32)) 7 (ud.toInt32))))]))
              refine Es.iload (q := 518) ?_ X250 hx (hb hby at_516) rfl rfl
              refine Es.icmpNo (q := 521) ?_ X250 hx (hb hby at_518) rfl (XT.ii_ne_f ((own_c4 (la := la) (ua := ua) (lb := lb) (ub := ub) (lc := lc) (uc := uc) (ld := ld) (ud := ud) rfl rfl rfl rfl rfl rfl rfl rfl o0 o1 o2 o3 p0 p1 p2 r0 r1).trans (if_neg (by have t0 := hc202; rw [Int64.lt_iff_toInt_lt, c_i2l] at t0; have t1 := hc232; rw [Int64.lt_iff_toInt_lt, c_i2l] at t1; have t2 := hc233; rw [Int64.lt_iff_toInt_lt, c_i2l] at t2; have t3 := hc247; rw [Int64.lt_iff_toInt_lt, c_i2l] at t3; have t4 := hc248; rw [Int64.lt_iff_toInt_lt, c_i2l] at t4; have t5 := hc249; rw [Int64.lt_iff_toInt_lt, c_i2l] at t5; omega)) : (fC4 b193 cp bb (upd (upd (upd (upd (upd (upd (upd (upd (fun _ => (0 : Int32)) 0 (la.toInt32)) 1 (ua.toInt32)) 2 (lb.toInt32)) 3 (ub.toInt32)) 4 (lc.toInt32)) 5 (uc.toInt32)) 6 (ld.toInt32)) 7 (ud.toInt32))) = (0 : Int32)))
              refine Es.iconst (q := 522) (z := (1 : Int32)) ?_ X250 hx (hb hby at_521) rfl rfl
              refine Es.goto (q := 526) ?_ X250 hx (hb hby at_522) (by decide) (by decide)
              exact Ends.retN X250 hx hlk hret (t := .boolean) (by simp) (hb hby at_526) (w := 1) rfl ⟨rfl, N250⟩ (by decide) (by decide)
            · refine Es.ifNo (q := 494) ?_ X198 hx (hb hby at_491) rfl (XT.ll_gt_f hc249)
              refine Es.lload (q := 496) ?_ X198 hx (hb hby at_494) rfl rfl
              refine Es.lload (q := 498) ?_ X198 hx (hb hby at_496) rfl rfl
              refine Es.lcmp (q := 499) ?_ X198 hx (hb hby at_498) rfl
              by_cases hc251 : ud < (cp.toInt64)
              · refine Es.ifYes (q := 506) ?_ X198 hx (hb hby at_499) (XT.ll_gt_t hc251) (by decide) (by decide)
                refine Es.iconst (q := 507) (z := (0 : Int32)) ?_ X198 hx (hb hby at_506) rfl rfl
                refine Es.istore (q := 509) (l' := #[.val (.int x0), .val (.long x1), .second, .val (.int x2), .val (.int x3), .val (.int (4 : Int32)), .val (.long la), .second, .val (.long ua), .second, .val (.long lb), .second, .val (.long ub), .second, .val (.long lc), .second, .val (.long uc), .second, .val (.long ld), .second, .val (.long ud), .second, .val (.long ud), .second, .val (.long ((la - (256 : Int64)) + ((x3 &&& (4095 : Int32)).toInt64))), .second, .val (.int cp), .val (.ref b159), .val (.ref b193), .val (.long (cp.toInt64)), .second, .val (.int (0 : Int32))]) ?_ X198 hx (hb hby at_507) rfl rfl
                refine Es.aload (q := 511) ?_ X198 hx (hb hby at_509) rfl rfl rfl
                refine Es.iload (q := 513) ?_ X198 hx (hb hby at_511) rfl rfl
                obtain ⟨cq252, kq252, q252a, q252b, q252c⟩ := isOf hZ rfl Ex198
                obtain ⟨v252, _, ⟨T252, L252, k252, n252⟩, -, X252, ⟨Lc252, hQ252, l252, y252, z252⟩, st252⟩ := X198.virtualBack hx (y := (⟨"com/example/tagwright/tagwright/model/CodePointSet", "contains", "(I)Z"⟩ : MethodName)) (z := (⟨"com/example/tagwright/tagwright/model/CodePointSet", "contains", "(I)Z"⟩ : MethodName)) hown (mvT hZ (hw _ (List.mem_of_getElem? (i := 24) rfl))) (mvT hZ (hw _ (List.mem_of_getElem? (i := 25) rfl))) (notFace_of_selects (args := #[]) (mvT hZ (hw _ (List.mem_of_getElem? (i := 27) rfl)))) (mvT hZ (hw _ (List.mem_of_getElem? (i := 27) rfl))) (mvT hZ (hw _ (List.mem_of_getElem? (i := 26) rfl))) (by decide) (backOf (W := 0) (rmC4 l Z a0 hw [] b193 cp bb (upd (upd (upd (upd (upd (upd (upd (upd (fun _ => (0 : Int32)) 0 (la.toInt32)) 1 (ua.toInt32)) 2 (lb.toInt32)) 3 (ub.toInt32)) 4 (lc.toInt32)) 5 (uc.toInt32)) 6 (ld.toInt32)) 7 (ud.toInt32)) T198.heap n0 Zs201 Fa198 Va198) hZ (hw _ (List.mem_of_getElem? (i := 28) rfl)) (hw _ (List.mem_of_getElem? (i := 6) rfl)) (by decide) (by decide)) q252a q252c (g := (mkF m 513 #[.val (.int x0), .val (.long x1), .second, .val (.int x2), .val (.int x3), .val (.int (4 : Int32)), .val (.long la), .second, .val (.long ua), .second, .val (.long lb), .second, .val (.long ub), .second, .val (.long lc), .second, .val (.long uc), .second, .val (.long ld), .second, .val (.long ud), .second, .val (.long ud), .second, .val (.long ((la - (256 : Int64)) + ((x3 &&& (4095 : Int32)).toInt64))), .second, .val (.int cp), .val (.ref b159), .val (.ref b193), .val (.long (cp.toInt64)), .second, .val (.int (0 : Int32))] [(.int cp), (.ref b193)])) rfl (by rw [hml]; rfl) (Steps.refl _) (argsL := [(.int cp)]) (rest := []) (lenOf pd_1 rfl) rfl (by show 2 * 0 + _ ≤ _; exact Nat.le_of_eq rfl) (hb hby at_513) (fun _ _ => ⟨rfl, rfl, (by decide : 3 + 0 ≤ _), (by decide : 17 + 0 ≤ _)⟩)
                dsimp only [Pt.U, Pt.locs, Pt.cells, Pt.slots] at X252 l252 y252 z252 st252 hQ252
                subst l252 y252 z252
                obtain ⟨rfl, N252q, e252⟩ := hQ252
                have N252 := Fr.app N198 N252q
                refine Ends.go st252 ?_
                show Ends p e below s _ _ _ (T252.setTop (mkF m 516 #[.val (.int x0), .val (.long x1), .second, .val (.int x2), .val (.int x3), .val (.int (4 : Int32)), .val (.long la), .second, .val (.long ua), .second, .val (.long lb), .second, .val (.long ub), .second, .val (.long lc), .second, .val (.long uc), .second, .val (.long ld), .second, .val (.long ud), .second, .val (.long ud), .second, .val (.long ((la - (256 : Int64)) + ((x3 &&& (4095 : Int32)).toInt64))), .second, .val (.int cp), .val (.ref b159), .val (.ref b193), .val (.long (cp.toInt64)), .second, .val (.int (0 : Int32))] [(.int (fC4 b193 cp bb (upd (upd (upd (upd (upd (upd (upd (upd (fun _ => (0 : Int32)) 0 (la.toInt32)) 1 (ua.toInt32)) 2 (lb.toInt32)) 3 (ub.toInt32)) 4 (lc.toInt32)) 5 (uc.toInt32)) 6 (ld.toInt32)) 7 (ud.toInt32))))]))
                refine Es.iload (q := 518) ?_ X252 hx (hb hby at_516) rfl rfl
                refine Es.icmpNo (q := 521) ?_ X252 hx (hb hby at_518) rfl (XT.ii_ne_f ((own_c4 (la := la) (ua := ua) (lb := lb) (ub := ub) (lc := lc) (uc := uc) (ld := ld) (ud := ud) rfl rfl rfl rfl rfl rfl rfl rfl o0 o1 o2 o3 p0 p1 p2 r0 r1).trans (if_neg (by have t0 := hc202; rw [Int64.lt_iff_toInt_lt, c_i2l] at t0; have t1 := hc232; rw [Int64.lt_iff_toInt_lt, c_i2l] at t1; have t2 := hc233; rw [Int64.lt_iff_toInt_lt, c_i2l] at t2; have t3 := hc247; rw [Int64.lt_iff_toInt_lt, c_i2l] at t3; have t4 := hc248; rw [Int64.lt_iff_toInt_lt, c_i2l] at t4; have t5 := hc249; rw [Int64.lt_iff_toInt_lt, c_i2l] at t5; have t6 := hc251; rw [Int64.lt_iff_toInt_lt, c_i2l] at t6; omega)) : (fC4 b193 cp bb (upd (upd (upd (upd (upd (upd (upd (upd (fun _ => (0 : Int32)) 0 (la.toInt32)) 1 (ua.toInt32)) 2 (lb.toInt32)) 3 (ub.toInt32)) 4 (lc.toInt32)) 5 (uc.toInt32)) 6 (ld.toInt32)) 7 (ud.toInt32))) = (0 : Int32)))
                refine Es.iconst (q := 522) (z := (1 : Int32)) ?_ X252 hx (hb hby at_521) rfl rfl
                refine Es.goto (q := 526) ?_ X252 hx (hb hby at_522) (by decide) (by decide)
                exact Ends.retN X252 hx hlk hret (t := .boolean) (by simp) (hb hby at_526) (w := 1) rfl ⟨rfl, N252⟩ (by decide) (by decide)
              · refine Es.ifNo (q := 502) ?_ X198 hx (hb hby at_499) rfl (XT.ll_gt_f hc251)
                refine Es.iconst (q := 503) (z := (1 : Int32)) ?_ X198 hx (hb hby at_502) rfl rfl
                refine Es.goto (q := 507) ?_ X198 hx (hb hby at_503) (by decide) (by decide)
                refine Es.istore (q := 509) (l' := #[.val (.int x0), .val (.long x1), .second, .val (.int x2), .val (.int x3), .val (.int (4 : Int32)), .val (.long la), .second, .val (.long ua), .second, .val (.long lb), .second, .val (.long ub), .second, .val (.long lc), .second, .val (.long uc), .second, .val (.long ld), .second, .val (.long ud), .second, .val (.long ud), .second, .val (.long ((la - (256 : Int64)) + ((x3 &&& (4095 : Int32)).toInt64))), .second, .val (.int cp), .val (.ref b159), .val (.ref b193), .val (.long (cp.toInt64)), .second, .val (.int (1 : Int32))]) ?_ X198 hx (hb hby at_507) rfl rfl
                refine Es.aload (q := 511) ?_ X198 hx (hb hby at_509) rfl rfl rfl
                refine Es.iload (q := 513) ?_ X198 hx (hb hby at_511) rfl rfl
                obtain ⟨cq253, kq253, q253a, q253b, q253c⟩ := isOf hZ rfl Ex198
                obtain ⟨v253, _, ⟨T253, L253, k253, n253⟩, -, X253, ⟨Lc253, hQ253, l253, y253, z253⟩, st253⟩ := X198.virtualBack hx (y := (⟨"com/example/tagwright/tagwright/model/CodePointSet", "contains", "(I)Z"⟩ : MethodName)) (z := (⟨"com/example/tagwright/tagwright/model/CodePointSet", "contains", "(I)Z"⟩ : MethodName)) hown (mvT hZ (hw _ (List.mem_of_getElem? (i := 24) rfl))) (mvT hZ (hw _ (List.mem_of_getElem? (i := 25) rfl))) (notFace_of_selects (args := #[]) (mvT hZ (hw _ (List.mem_of_getElem? (i := 27) rfl)))) (mvT hZ (hw _ (List.mem_of_getElem? (i := 27) rfl))) (mvT hZ (hw _ (List.mem_of_getElem? (i := 26) rfl))) (by decide) (backOf (W := 0) (rmC4 l Z a0 hw [] b193 cp bb (upd (upd (upd (upd (upd (upd (upd (upd (fun _ => (0 : Int32)) 0 (la.toInt32)) 1 (ua.toInt32)) 2 (lb.toInt32)) 3 (ub.toInt32)) 4 (lc.toInt32)) 5 (uc.toInt32)) 6 (ld.toInt32)) 7 (ud.toInt32)) T198.heap n0 Zs201 Fa198 Va198) hZ (hw _ (List.mem_of_getElem? (i := 28) rfl)) (hw _ (List.mem_of_getElem? (i := 6) rfl)) (by decide) (by decide)) q253a q253c (g := (mkF m 513 #[.val (.int x0), .val (.long x1), .second, .val (.int x2), .val (.int x3), .val (.int (4 : Int32)), .val (.long la), .second, .val (.long ua), .second, .val (.long lb), .second, .val (.long ub), .second, .val (.long lc), .second, .val (.long uc), .second, .val (.long ld), .second, .val (.long ud), .second, .val (.long ud), .second, .val (.long ((la - (256 : Int64)) + ((x3 &&& (4095 : Int32)).toInt64))), .second, .val (.int cp), .val (.ref b159), .val (.ref b193), .val (.long (cp.toInt64)), .second, .val (.int (1 : Int32))] [(.int cp), (.ref b193)])) rfl (by rw [hml]; rfl) (Steps.refl _) (argsL := [(.int cp)]) (rest := []) (lenOf pd_1 rfl) rfl (by show 2 * 0 + _ ≤ _; exact Nat.le_of_eq rfl) (hb hby at_513) (fun _ _ => ⟨rfl, rfl, (by decide : 3 + 0 ≤ _), (by decide : 17 + 0 ≤ _)⟩)
                dsimp only [Pt.U, Pt.locs, Pt.cells, Pt.slots] at X253 l253 y253 z253 st253 hQ253
                subst l253 y253 z253
                obtain ⟨rfl, N253q, e253⟩ := hQ253
                have N253 := Fr.app N198 N253q
                refine Ends.go st253 ?_
                show Ends p e below s _ _ _ (T253.setTop (mkF m 516 #[.val (.int x0), .val (.long x1), .second, .val (.int x2), .val (.int x3), .val (.int (4 : Int32)), .val (.long la), .second, .val (.long ua), .second, .val (.long lb), .second, .val (.long ub), .second, .val (.long lc), .second, .val (.long uc), .second, .val (.long ld), .second, .val (.long ud), .second, .val (.long ud), .second, .val (.long ((la - (256 : Int64)) + ((x3 &&& (4095 : Int32)).toInt64))), .second, .val (.int cp), .val (.ref b159), .val (.ref b193), .val (.long (cp.toInt64)), .second, .val (.int (1 : Int32))] [(.int (fC4 b193 cp bb (upd (upd (upd (upd (upd (upd (upd (upd (fun _ => (0 : Int32)) 0 (la.toInt32)) 1 (ua.toInt32)) 2 (lb.toInt32)) 3 (ub.toInt32)) 4 (lc.toInt32)) 5 (uc.toInt32)) 6 (ld.toInt32)) 7 (ud.toInt32))))]))
                refine Es.iload (q := 518) ?_ X253 hx (hb hby at_516) rfl rfl
                refine Es.icmpNo (q := 521) ?_ X253 hx (hb hby at_518) rfl (XT.ii_ne_f ((own_c4 (la := la) (ua := ua) (lb := lb) (ub := ub) (lc := lc) (uc := uc) (ld := ld) (ud := ud) rfl rfl rfl rfl rfl rfl rfl rfl o0 o1 o2 o3 p0 p1 p2 r0 r1).trans (if_pos (by have t0 := hc202; rw [Int64.lt_iff_toInt_lt, c_i2l] at t0; have t1 := hc232; rw [Int64.lt_iff_toInt_lt, c_i2l] at t1; have t2 := hc233; rw [Int64.lt_iff_toInt_lt, c_i2l] at t2; have t3 := hc247; rw [Int64.lt_iff_toInt_lt, c_i2l] at t3; have t4 := hc248; rw [Int64.lt_iff_toInt_lt, c_i2l] at t4; have t5 := hc249; rw [Int64.lt_iff_toInt_lt, c_i2l] at t5; have t6 := hc251; rw [Int64.lt_iff_toInt_lt, c_i2l] at t6; omega)) : (fC4 b193 cp bb (upd (upd (upd (upd (upd (upd (upd (upd (fun _ => (0 : Int32)) 0 (la.toInt32)) 1 (ua.toInt32)) 2 (lb.toInt32)) 3 (ub.toInt32)) 4 (lc.toInt32)) 5 (uc.toInt32)) 6 (ld.toInt32)) 7 (ud.toInt32))) = (1 : Int32)))
                refine Es.iconst (q := 522) (z := (1 : Int32)) ?_ X253 hx (hb hby at_521) rfl rfl
                refine Es.goto (q := 526) ?_ X253 hx (hb hby at_522) (by decide) (by decide)
                exact Ends.retN X253 hx hlk hret (t := .boolean) (by simp) (hb hby at_526) (w := 1) rfl ⟨rfl, N253⟩ (by decide) (by decide)
          · refine Es.ifNo (q := 472) ?_ X198 hx (hb hby at_469) rfl (XT.ll_gt_f hc248)
            refine Es.lload (q := 474) ?_ X198 hx (hb hby at_472) rfl rfl
            refine Es.lload (q := 476) ?_ X198 hx (hb hby at_474) rfl rfl
            refine Es.lcmp (q := 477) ?_ X198 hx (hb hby at_476) rfl
            by_cases hc254 : uc < (cp.toInt64)
            · refine Es.ifNo (q := 480) ?_ X198 hx (hb hby at_477) rfl (XT.ll_le_f hc254)
              refine Es.iload (q := 482) ?_ X198 hx (hb hby at_480) rfl rfl
              refine Es.iconst (q := 483) (z := (4 : Int32)) ?_ X198 hx (hb hby at_482) rfl rfl
              refine Es.icmpNo (q := 486) ?_ X198 hx (hb hby at_483) rfl (XT.ii_lt_f (by decide))
              refine Es.lload (q := 488) ?_ X198 hx (hb hby at_486) rfl rfl
              refine Es.lload (q := 490) ?_ X198 hx (hb hby at_488) rfl rfl
              refine Es.lcmp (q := 491) ?_ X198 hx (hb hby at_490) rfl
              by_cases hc255 : (cp.toInt64) < ld
              · refine Es.ifYes (q := 506) ?_ X198 hx (hb hby at_491) (XT.ll_gt_t hc255) (by decide) (by decide)
                refine Es.iconst (q := 507) (z := (0 : Int32)) ?_ X198 hx (hb hby at_506) rfl rfl
                refine Es.istore (q := 509) (l' := #[.val (.int x0), .val (.long x1), .second, .val (.int x2), .val (.int x3), .val (.int (4 : Int32)), .val (.long la), .second, .val (.long ua), .second, .val (.long lb), .second, .val (.long ub), .second, .val (.long lc), .second, .val (.long uc), .second, .val (.long ld), .second, .val (.long ud), .second, .val (.long ud), .second, .val (.long ((la - (256 : Int64)) + ((x3 &&& (4095 : Int32)).toInt64))), .second, .val (.int cp), .val (.ref b159), .val (.ref b193), .val (.long (cp.toInt64)), .second, .val (.int (0 : Int32))]) ?_ X198 hx (hb hby at_507) rfl rfl
                refine Es.aload (q := 511) ?_ X198 hx (hb hby at_509) rfl rfl rfl
                refine Es.iload (q := 513) ?_ X198 hx (hb hby at_511) rfl rfl
                obtain ⟨cq256, kq256, q256a, q256b, q256c⟩ := isOf hZ rfl Ex198
                obtain ⟨v256, _, ⟨T256, L256, k256, n256⟩, -, X256, ⟨Lc256, hQ256, l256, y256, z256⟩, st256⟩ := X198.virtualBack hx (y := (⟨"com/example/tagwright/tagwright/model/CodePointSet", "contains", "(I)Z"⟩ : MethodName)) (z := (⟨"com/example/tagwright/tagwright/model/CodePointSet", "contains", "(I)Z"⟩ : MethodName)) hown (mvT hZ (hw _ (List.mem_of_getElem? (i := 24) rfl))) (mvT hZ (hw _ (List.mem_of_getElem? (i := 25) rfl))) (notFace_of_selects (args := #[]) (mvT hZ (hw _ (List.mem_of_getElem? (i := 27) rfl)))) (mvT hZ (hw _ (List.mem_of_getElem? (i := 27) rfl))) (mvT hZ (hw _ (List.mem_of_getElem? (i := 26) rfl))) (by decide) (backOf (W := 0) (rmC4 l Z a0 hw [] b193 cp bb (upd (upd (upd (upd (upd (upd (upd (upd (fun _ => (0 : Int32)) 0 (la.toInt32)) 1 (ua.toInt32)) 2 (lb.toInt32)) 3 (ub.toInt32)) 4 (lc.toInt32)) 5 (uc.toInt32)) 6 (ld.toInt32)) 7 (ud.toInt32)) T198.heap n0 Zs201 Fa198 Va198) hZ (hw _ (List.mem_of_getElem? (i := 28) rfl)) (hw _ (List.mem_of_getElem? (i := 6) rfl)) (by decide) (by decide)) q256a q256c (g := (mkF m 513 #[.val (.int x0), .val (.long x1), .second, .val (.int x2), .val (.int x3), .val (.int (4 : Int32)), .val (.long la), .second, .val (.long ua), .second, .val (.long lb), .second, .val (.long ub), .second, .val (.long lc), .second, .val (.long uc), .second, .val (.long ld), .second, .val (.long ud), .second, .val (.long ud), .second, .val (.long ((la - (256 : Int64)) + ((x3 &&& (4095 : Int32)).toInt64))), .second, .val (.int cp), .val (.ref b159), .val (.ref b193), .val (.long (cp.toInt64)), .second, .val (.int (0 : Int32))] [(.int cp), (.ref b193)])) rfl (by rw [hml]; rfl) (Steps.refl _) (argsL := [(.int cp)]) (rest := []) (lenOf pd_1 rfl) rfl (by show 2 * 0 + _ ≤ _; exact Nat.le_of_eq rfl) (hb hby at_513) (fun _ _ => ⟨rfl, rfl, (by decide : 3 + 0 ≤ _), (by decide : 17 + 0 ≤ _)⟩)
                dsimp only [Pt.U, Pt.locs, Pt.cells, Pt.slots] at X256 l256 y256 z256 st256 hQ256
                subst l256 y256 z256
                obtain ⟨rfl, N256q, e256⟩ := hQ256
                have N256 := Fr.app N198 N256q
                refine Ends.go st256 ?_
                show Ends p e below s _ _ _ (T256.setTop (mkF m 516 #[.val (.int x0), .val (.long x1), .second, .val (.int x2), .val (.int x3), .val (.int (4 : Int32)), .val (.long la), .second, .val (.long ua), .second, .val (.long lb), .second, .val (.long ub), .second, .val (.long lc), .second, .val (.long uc), .second, .val (.long ld), .second, .val (.long ud), .second, .val (.long ud), .second, .val (.long ((la - (256 : Int64)) + ((x3 &&& (4095 : Int32)).toInt64))), .second, .val (.int cp), .val (.ref b159), .val (.ref b193), .val (.long (cp.toInt64)), .second, .val (.int (0 : Int32))] [(.int (fC4 b193 cp bb (upd (upd (upd (upd (upd (upd (upd (upd (fun _ => (0 : Int32)) 0 (la.toInt32)) 1 (ua.toInt32)) 2 (lb.toInt32)) 3 (ub.toInt32)) 4 (lc.toInt32)) 5 (uc.toInt32)) 6 (ld.toInt32)) 7 (ud.toInt32))))]))
                refine Es.iload (q := 518) ?_ X256 hx (hb hby at_516) rfl rfl
                refine Es.icmpNo (q := 521) ?_ X256 hx (hb hby at_518) rfl (XT.ii_ne_f ((own_c4 (la := la) (ua := ua) (lb := lb) (ub := ub) (lc := lc) (uc := uc) (ld := ld) (ud := ud) rfl rfl rfl rfl rfl rfl rfl rfl o0 o1 o2 o3 p0 p1 p2 r0 r1).trans (if_neg (by have t0 := hc202; rw [Int64.lt_iff_toInt_lt, c_i2l] at t0; have t1 := hc232; rw [Int64.lt_iff_toInt_lt, c_i2l] at t1; have t2 := hc233; rw [Int64.lt_iff_toInt_lt, c_i2l] at t2; have t3 := hc247; rw [Int64.lt_iff_toInt_lt, c_i2l] at t3; have t4 := hc248; rw [Int64.lt_iff_toInt_lt, c_i2l] at t4; have t5 := hc254; rw [Int64.lt_iff_toInt_lt, c_i2l] at t5; have t6 := hc255; rw [Int64.lt_iff_toInt_lt, c_i2l] at t6; omega)) : (fC4 b193 cp bb (upd (upd (upd (upd (upd (upd (upd (upd (fun _ => (0 : Int32)) 0 (la.toInt32)) 1 (ua.toInt32)) 2 (lb.toInt32)) 3 (ub.toInt32)) 4 (lc.toInt32)) 5 (uc.toInt32)) 6 (ld.toInt32)) 7 (ud.toInt32))) = (0 : Int32)))
                refine Es.iconst (q := 522) (z := (1 : Int32)) ?_ X256 hx (hb hby at_521) rfl rfl
                refine Es.goto (q := 526) ?_ X256 hx (hb hby at_522) (by decide) (by decide)
                exact Ends.retN X256 hx hlk hret (t := .boolean) (by simp) (hb hby at_526) (w := 1) rfl ⟨rfl, N256⟩ (by decide) (by decide)
              · refine Es.ifNo (q := 494) ?_ X198 hx (hb hby at_491) rfl (XT.ll_gt_f hc255)
                refine Es.lload (q := 496) ?_ X198 hx (hb hby at_494) rfl rfl
                refine Es.lload (q := 498) ?_ X198 hx (hb hby at_496) rfl rfl
                refine Es.lcmp (q := 499) ?_ X198 hx (hb hby at_498) rfl
                by_cases hc257 : ud < (cp.toInt64)
                · refine Es.ifYes (q := 506) ?_ X198 hx (hb hby at_499) (XT.ll_gt_t hc257) (by decide) (by decide)
                  refine Es.iconst (q := 507) (z := (0 : Int32)) ?_ X198 hx (hb hby at_506) rfl rfl
                  refine Es.istore (q := 509) (l' := #[.val (.int x0), .val (.long x1), .second, .val (.int x2), .val (.int x3), .val (.int (4 : Int32)), .val (.long la), .second, .val (.long ua), .second, .val (.long lb), .second, .val (.long ub), .second, .val (.long lc), .second, .val (.long uc), .second, .val (.long ld), .second, .val (.long ud), .second, .val (.long ud), .second, .val (.long ((la - (256 : Int64)) + ((x3 &&& (4095 : Int32)).toInt64))), .second, .val (.int cp), .val (.ref b159), .val (.ref b193), .val (.long (cp.toInt64)), .second, .val (.int (0 : Int32))]) ?_ X198 hx (hb hby at_507) rfl rfl
                  refine Es.aload (q := 511) ?_ X198 hx (hb hby at_509) rfl rfl rfl
                  refine Es.iload (q := 513) ?_ X198 hx (hb hby at_511) rfl rfl
                  obtain ⟨cq258, kq258, q258a, q258b, q258c⟩ := isOf hZ rfl Ex198
                  obtain ⟨v258, _, ⟨T258, L258, k258, n258⟩, -, X258, ⟨Lc258, hQ258, l258, y258, z258⟩, st258⟩ := X198.virtualBack hx (y := (⟨"com/example/tagwright/tagwright/model/CodePointSet", "contains", "(I)Z"⟩ : MethodName)) (z := (⟨"com/example/tagwright/tagwright/model/CodePointSet", "contains", "(I)Z"⟩ : MethodName)) hown (mvT hZ (hw _ (List.mem_of_getElem? (i := 24) rfl))) (mvT hZ (hw _ (List.mem_of_getElem? (i := 25) rfl))) (notFace_of_selects (args := #[]) (mvT hZ (hw _ (List.mem_of_getElem? (i := 27) rfl)))) (mvT hZ (hw _ (List.mem_of_getElem? (i := 27) rfl))) (mvT hZ (hw _ (List.mem_of_getElem? (i := 26) rfl))) (by decide) (backOf (W := 0) (rmC4 l Z a0 hw [] b193 cp bb (upd (upd (upd (upd (upd (upd (upd (upd (fun _ => (0 : Int32)) 0 (la.toInt32)) 1 (ua.toInt32)) 2 (lb.toInt32)) 3 (ub.toInt32)) 4 (lc.toInt32)) 5 (uc.toInt32)) 6 (ld.toInt32)) 7 (ud.toInt32)) T198.heap n0 Zs201 Fa198 Va198) hZ (hw _ (List.mem_of_getElem? (i := 28) rfl)) (hw _ (List.mem_of_getElem? (i := 6) rfl)) (by decide) (by decide)) q258a q258c (g := (mkF m 513 #[.val (.int x0), .val (.long x1), .second, .val (.int x2), .val (.int x3), .val (.int (4 : Int32)), .val (.long la), .second, .val (.long ua), .second, .val (.long lb), .second, .val (.long ub), .second, .val (.long lc), .second, .val (.long uc), .second, .val (.long ld), .second, .val (.long ud), .second, .val (.long ud), .second, .val (.long ((la - (256 : Int64)) + ((x3 &&& (4095 : Int32)).toInt64))), .second, .val (.int cp), .val (.ref b159), .val (.ref b193), .val (.long (cp.toInt64)), .second, .val (.int (0 : Int32))] [(.int cp), (.ref b193)])) rfl (by rw [hml]; rfl) (Steps.refl _) (argsL := [(.int cp)]) (rest := []) (lenOf pd_1 rfl) rfl (by show 2 * 0 + _ ≤ _; exact Nat.le_of_eq rfl) (hb hby at_513) (fun _ _ => ⟨rfl, rfl, (by decide : 3 + 0 ≤ _), (by decide : 17 + 0 ≤ _)⟩)
                  dsimp only [Pt.U, Pt.locs, Pt.cells, Pt.slots] at X258 l258 y258 z258 st258 hQ258
                  subst l258 y258 z258
                  obtain ⟨rfl, N258q, e258⟩ := hQ258
                  have N258 := Fr.app N198 N258q
                  refine Ends.go st258 ?_
                  show Ends p e below s _ _ _ (T258.setTop (mkF m 516 #[.val (.int x0), .val (.long x1), .second, .val (.int x2), .val (.int x3), .val (.int (4 : Int32)), .val (.long la), .second, .val (.long ua), .second, .val (.long lb), .second, .val (.long ub), .second, .val (.long lc), .second, .val (.long uc), .second, .val (.long ld), .second, .val (.long ud), .second, .val (.long ud), .second, .val (.long ((la - (256 : Int64)) + ((x3 &&& (4095 : Int32)).toInt64))), .second, .val (.int cp), .val (.ref b159), .val (.ref b193), .val (.long (cp.toInt64)), .second, .val (.int (0 : Int32))] [(.int (fC4 b193 cp bb (upd (upd (upd (upd (upd (upd (upd (upd (fun _ => (0 : Int32)) 0 (la.toInt32)) 1 (ua.toInt32)) 2 (lb.toInt32)) 3 (ub.toInt32)) 4 (lc.toInt32)) 5 (uc.toInt32)) 6 (ld.toInt32)) 7 (ud.toInt32))))]))
                  refine Es.iload (q := 518) ?_ X258 hx (hb hby at_516) rfl rfl
                  refine Es.icmpNo (q := 521) ?_ X258 hx (hb hby at_518) rfl (XT.ii_ne_f ((own_c4 (la := la) (ua := ua) (lb := lb) (ub := ub) (lc := lc) (uc := uc) (ld := ld) (ud := ud) rfl rfl rfl rfl rfl rfl rfl rfl o0 o1 o2 o3 p0 p1 p2 r0 r1).trans (if_neg (by have t0 := hc202; rw [Int64.lt_iff_toInt_lt, c_i2l] at t0; have t1 := hc232; rw [Int64.lt_iff_toInt_lt, c_i2l] at t1; have t2 := hc233; rw [Int64.lt_iff_toInt_lt, c_i2l] at t2; have t3 := hc247; rw [Int64.lt_iff_toInt_lt, c_i2l] at t3; have t4 := hc248; rw [Int64.lt_iff_toInt_lt, c_i2l] at t4; have t5 := hc254; rw [Int64.lt_iff_toInt_lt, c_i2l] at t5; have t6 := hc255; rw [Int64.lt_iff_toInt_lt, c_i2l] at t6; have t7 := hc257; rw [Int64.lt_iff_toInt_lt, c_i2l] at t7; omega)) : (fC4 b193 cp bb (upd (upd (upd (upd (upd (upd (upd (upd (fun _ => (0 : Int32)) 0 (la.toInt32)) 1 (ua.toInt32)) 2 (lb.toInt32)) 3 (ub.toInt32)) 4 (lc.toInt32)) 5 (uc.toInt32)) 6 (ld.toInt32)) 7 (ud.toInt32))) = (0 : Int32)))
                  refine Es.iconst (q := 522) (z := (1 : Int32)) ?_ X258 hx (hb hby at_521) rfl rfl
                  refine Es.goto (q := 526) ?_ X258 hx (hb hby at_522) (by decide) (by decide)
                  exact Ends.retN X258 hx hlk hret (t := .boolean) (by simp) (hb hby at_526) (w := 1) rfl ⟨rfl, N258⟩ (by decide) (by decide)
                · refine Es.ifNo (q := 502) ?_ X198 hx (hb hby at_499) rfl (XT.ll_gt_f hc257)
                  refine Es.iconst (q := 503) (z := (1 : Int32)) ?_ X198 hx (hb hby at_502) rfl rfl
                  refine Es.goto (q := 507) ?_ X198 hx (hb hby at_503) (by decide) (by decide)
                  refine Es.istore (q := 509) (l' := #[.val (.int x0), .val (.long x1), .second, .val (.int x2), .val (.int x3), .val (.int (4 : Int32)), .val (.long la), .second, .val (.long ua), .second, .val (.long lb), .second, .val (.long ub), .second, .val (.long lc), .second, .val (.long uc), .second, .val (.long ld), .second, .val (.long ud), .second, .val (.long ud), .second, .val (.long ((la - (256 : Int64)) + ((x3 &&& (4095 : Int32)).toInt64))), .second, .val (.int cp), .val (.ref b159), .val (.ref b193), .val (.long (cp.toInt64)), .second, .val (.int (1 : Int32))]) ?_ X198 hx (hb hby at_507) rfl rfl
                  refine Es.aload (q := 511) ?_ X198 hx (hb hby at_509) rfl rfl rfl
                  refine Es.iload (q := 513) ?_ X198 hx (hb hby at_511) rfl rfl
                  obtain ⟨cq259, kq259, q259a, q259b, q259c⟩ := isOf hZ rfl Ex198
                  obtain ⟨v259, _, ⟨T259, L259, k259, n259⟩, -, X259, ⟨Lc259, hQ259, l259, y259, z259⟩, st259⟩ := X198.virtualBack hx (y := (⟨"com/example/tagwright/tagwright/model/CodePointSet", "contains", "(I)Z"⟩ : MethodName)) (z := (⟨"com/example/tagwright/tagwright/model/CodePointSet", "contains", "(I)Z"⟩ : MethodName)) hown (mvT hZ (hw _ (List.mem_of_getElem? (i := 24) rfl))) (mvT hZ (hw _ (List.mem_of_getElem? (i := 25) rfl))) (notFace_of_selects (args := #[]) (mvT hZ (hw _ (List.mem_of_getElem? (i := 27) rfl)))) (mvT hZ (hw _ (List.mem_of_getElem? (i := 27) rfl))) (mvT hZ (hw _ (List.mem_of_getElem? (i := 26) rfl))) (by decide) (backOf (W := 0) (rmC4 l Z a0 hw [] b193 cp bb (upd (upd (upd (upd (upd (upd (upd (upd (fun _ => (0 : Int32)) 0 (la.toInt32)) 1 (ua.toInt32)) 2 (lb.toInt32)) 3 (ub.toInt32)) 4 (lc.toInt32)) 5 (uc.toInt32)) 6 (ld.toInt32)) 7 (ud.toInt32)) T198.heap n0 Zs201 Fa198 Va198) hZ (hw _ (List.mem_of_getElem? (i := 28) rfl)) (hw _ (List.mem_of_getElem? (i := 6) rfl)) (by decide) (by decide)) q259a q259c (g := (mkF m 513 #[.val (.int x0), .val (.long x1), .second, .val (.int x2), .val (.int x3), .val (.int (4 : Int32)), .val (.long la), .second, .val (.long ua), .second, .val (.long lb), .second, .val (.long ub), .second, .val (.long lc), .second, .val (.long uc), .second, .val (.long ld), .second, .val (.long ud), .second, .val (.long ud), .second, .val (.long ((la - (256 : Int64)) + ((x3 &&& (4095 : Int32)).toInt64))), .second, .val (.int cp), .val (.ref b159), .val (.ref b193), .val (.long (cp.toInt64)), .second, .val (.int (1 : Int32))] [(.int cp), (.ref b193)])) rfl (by rw [hml]; rfl) (Steps.refl _) (argsL := [(.int cp)]) (rest := []) (lenOf pd_1 rfl) rfl (by show 2 * 0 + _ ≤ _; exact Nat.le_of_eq rfl) (hb hby at_513) (fun _ _ => ⟨rfl, rfl, (by decide : 3 + 0 ≤ _), (by decide : 17 + 0 ≤ _)⟩)
                  dsimp only [Pt.U, Pt.locs, Pt.cells, Pt.slots] at X259 l259 y259 z259 st259 hQ259
                  subst l259 y259 z259
                  obtain ⟨rfl, N259q, e259⟩ := hQ259
                  have N259 := Fr.app N198 N259q
                  refine Ends.go st259 ?_
                  show Ends p e below s _ _ _ (T259.setTop (mkF m 516 #[.val (.int x0), .val (.long x1), .second, .val (.int x2), .val (.int x3), .val (.int (4 : Int32)), .val (.long la), .second, .val (.long ua), .second, .val (.long lb), .second, .val (.long ub), .second, .val (.long lc), .second, .val (.long uc), .second, .val (.long ld), .second, .val (.long ud), .second, .val (.long ud), .second, .val (.long ((la - (256 : Int64)) + ((x3 &&& (4095 : Int32)).toInt64))), .second, .val (.int cp), .val (.ref b159), .val (.ref b193), .val (.long (cp.toInt64)), .second, .val (.int (1 : Int32))] [(.int (fC4 b193 cp bb (upd (upd (upd (upd (upd (upd (upd (upd (fun _ => (0 : Int32)) 0 (la.toInt32)) 1 (ua.toInt32)) 2 (lb.toInt32)) 3 (ub.toInt32)) 4 (lc.toInt32)) 5 (uc.toInt32)) 6 (ld.toInt32)) 7 (ud.toInt32))))]))
                  refine Es.iload (q := 518) ?_ X259 hx (hb hby at_516) rfl rfl
                  refine Es.icmpNo (q := 521) ?_ X259 hx (hb hby at_518) rfl (XT.ii_ne_f ((own_c4 (la := la) (ua := ua) (lb := lb) (ub := ub) (lc := lc) (uc := uc) (ld := ld) (ud := ud) rfl rfl rfl rfl rfl rfl rfl rfl o0 o1 o2 o3 p0 p1 p2 r0 r1).trans (if_pos (by have t0 := hc202; rw [Int64.lt_iff_toInt_lt, c_i2l] at t0; have t1 := hc232; rw [Int64.lt_iff_toInt_lt, c_i2l] at t1; have t2 := hc233; rw [Int64.lt_iff_toInt_lt, c_i2l] at t2; have t3 := hc247; rw [Int64.lt_iff_toInt_lt, c_i2l] at t3; have t4 := hc248; rw [Int64.lt_iff_toInt_lt, c_i2l] at t4; have t5 := hc254; rw [Int64.lt_iff_toInt_lt, c_i2l] at t5; have t6 := hc255; rw [Int64.lt_iff_toInt_lt, c_i2l] at t6; have t7 := hc257; rw [Int64.lt_iff_toInt_lt, c_i2l] at t7; omega)) : (fC4 b193 cp bb (upd (upd (upd (upd (upd (upd (upd (upd (fun _ => (0 : Int32)) 0 (la.toInt32)) 1 (ua.toInt32)) 2 (lb.toInt32)) 3 (ub.toInt32)) 4 (lc.toInt32)) 5 (uc.toInt32)) 6 (ld.toInt32)) 7 (ud.toInt32))) = (1 : Int32)))
                  refine Es.iconst (q := 522) (z := (1 : Int32)) ?_ X259 hx (hb hby at_521) rfl rfl
                  refine Es.goto (q := 526) ?_ X259 hx (hb hby at_522) (by decide) (by decide)
                  exact Ends.retN X259 hx hlk hret (t := .boolean) (by simp) (hb hby at_526) (w := 1) rfl ⟨rfl, N259⟩ (by decide) (by decide)
            · refine Es.ifYes (q := 502) ?_ X198 hx (hb hby at_477) (XT.ll_le_t hc254) (by decide) (by decide)
              refine Es.iconst (q := 503) (z := (1 : Int32)) ?_ X198 hx (hb hby at_502) rfl rfl
              refine Es.goto (q := 507) ?_ X198 hx (hb hby at_503) (by decide) (by decide)
              refine Es.istore (q := 509) (l' := #[.val (.int x0), .val (.long x1), .second, .val (.int x2), .val (.int x3), .val (.int (4 : Int32)), .val (.long la), .second, .val (.long ua), .second, .val (.long lb), .second, .val (.long ub), .second, .val (.long lc), .second, .val (.long uc), .second, .val (.long ld), .second, .val (.long ud), .second, .val (.long ud), .second, .val (.long ((la - (256 : Int64)) + ((x3 &&& (4095 : Int32)).toInt64))), .second, .val (.int cp), .val (.ref b159), .val (.ref b193), .val (.long (cp.toInt64)), .second, .val (.int (1 : Int32))]) ?_ X198 hx (hb hby at_507) rfl rfl
              refine Es.aload (q := 511) ?_ X198 hx (hb hby at_509) rfl rfl rfl
              refine Es.iload (q := 513) ?_ X198 hx (hb hby at_511) rfl rfl
              obtain ⟨cq260, kq260, q260a, q260b, q260c⟩ := isOf hZ rfl Ex198
              obtain ⟨v260, _, ⟨T260, L260, k260, n260⟩, -, X260, ⟨Lc260, hQ260, l260, y260, z260⟩, st260⟩ := X198.virtualBack hx (y := (⟨"com/example/tagwright/tagwright/model/CodePointSet", "contains", "(I)Z"⟩ : MethodName)) (z := (⟨"com/example/tagwright/tagwright/model/CodePointSet", "contains", "(I)Z"⟩ : MethodName)) hown (mvT hZ (hw _ (List.mem_of_getElem? (i := 24) rfl))) (mvT hZ (hw _ (List.mem_of_getElem? (i := 25) rfl))) (notFace_of_selects (args := #[]) (mvT hZ (hw _ (List.mem_of_getElem? (i := 27) rfl)))) (mvT hZ (hw _ (List.mem_of_getElem? (i := 27) rfl))) (mvT hZ (hw _ (List.mem_of_getElem? (i := 26) rfl))) (by decide) (backOf (W := 0) (rmC4 l Z a0 hw [] b193 cp bb (upd (upd (upd (upd (upd (upd (upd (upd (fun _ => (0 : Int32)) 0 (la.toInt32)) 1 (ua.toInt32)) 2 (lb.toInt32)) 3 (ub.toInt32)) 4 (lc.toInt32)) 5 (uc.toInt32)) 6 (ld.toInt32)) 7 (ud.toInt32)) T198.heap n0 Zs201 Fa198 Va198) hZ (hw _ (List.mem_of_getElem? (i := 28) rfl)) (hw _ (List.mem_of_getElem? (i := 6) rfl)) (by decide) (by decide)) q260a q260c (g := (mkF m 513 #[.val (.int x0), .val (.long x1), .second, .val (.int x2), .val (.int x3), .val (.int (4 : Int32)), .val (.long la), .second, .val (.long ua), .second, .val (.long lb), .second, .val (.long ub), .second, .val (.long lc), .second, .val (.long uc), .second, .val (.long ld), .second, .val (.long ud), .second, .val (.long ud), .second, .val (.long ((la - (256 : Int64)) + ((x3 &&& (4095 : Int32)).toInt64))), .second, .val (.int cp), .val (.ref b159), .val (.ref b193), .val (.long (cp.toInt64)), .second, .val (.int (1 : Int32))] [(.int cp), (.ref b193)])) rfl (by rw [hml]; rfl) (Steps.refl _) (argsL := [(.int cp)]) (rest := []) (lenOf pd_1 rfl) rfl (by show 2 * 0 + _ ≤ _; exact Nat.le_of_eq rfl) (hb hby at_513) (fun _ _ => ⟨rfl, rfl, (by decide : 3 + 0 ≤ _), (by decide : 17 + 0 ≤ _)⟩)
              dsimp only [Pt.U, Pt.locs, Pt.cells, Pt.slots] at X260 l260 y260 z260 st260 hQ260
              subst l260 y260 z260
              obtain ⟨rfl, N260q, e260⟩ := hQ260
              have N260 := Fr.app N198 N260q
              refine Ends.go st260 ?_
              show Ends p e below s _ _ _ (T260.setTop (mkF m 516 #[.val (.int x0), .val (.long x1), .second, .val (.int x2), .val (.int x3), .val (.int (4 : Int32)), .val (.long la), .second, .val (.long ua), .second, .val (.long lb), .second, .val (.long ub), .second, .val (.long lc), .second, .val (.long uc), .second, .val (.long ld), .second, .val (.long ud), .second, .val (.long ud), .second, .val (.long ((la - (256 : Int64)) + ((x3 &&& (4095 : Int32)).toInt64))), .second, .val (.int cp), .val (.ref b159), .val (.ref b193), .val (.long (cp.toInt64)), .second, .val (.int (1 : Int32))] [(.int (fC4 b193 cp bb (upd (upd (upd (upd (upd (upd (upd (upd (fun _ => (0 : Int32)) 0 (la.toInt32)) 1 (ua.toInt32)) 2 (lb.toInt32)) 3 (ub.toInt32)) 4 (lc.toInt32)) 5 (uc.toInt32)) 6 (ld.toInt32)) 7 (ud.toInt32))))]))
              refine Es.iload (q := 518) ?_ X260 hx (hb hby at_516) rfl rfl
              refine Es.icmpNo (q := 521) ?_ X260 hx (hb hby at_518) rfl (XT.ii_ne_f ((own_c4 (la := la) (ua := ua) (lb := lb) (ub := ub) (lc := lc) (uc := uc) (ld := ld) (ud := ud) rfl rfl rfl rfl rfl rfl rfl rfl o0 o1 o2 o3 p0 p1 p2 r0 r1).trans (if_pos (by have t0 := hc202; rw [Int64.lt_iff_toInt_lt, c_i2l] at t0; have t1 := hc232; rw [Int64.lt_iff_toInt_lt, c_i2l] at t1; have t2 := hc233; rw [Int64.lt_iff_toInt_lt, c_i2l] at t2; have t3 := hc247; rw [Int64.lt_iff_toInt_lt, c_i2l] at t3; have t4 := hc248; rw [Int64.lt_iff_toInt_lt, c_i2l] at t4; have t5 := hc254; rw [Int64.lt_iff_toInt_lt, c_i2l] at t5; omega)) : (fC4 b193 cp bb (upd (upd (upd (upd (upd (upd (upd (upd (fun _ => (0 : Int32)) 0 (la.toInt32)) 1 (ua.toInt32)) 2 (lb.toInt32)) 3 (ub.toInt32)) 4 (lc.toInt32)) 5 (uc.toInt32)) 6 (ld.toInt32)) 7 (ud.toInt32))) = (1 : Int32)))
              refine Es.iconst (q := 522) (z := (1 : Int32)) ?_ X260 hx (hb hby at_521) rfl rfl
              refine Es.goto (q := 526) ?_ X260 hx (hb hby at_522) (by decide) (by decide)
              exact Ends.retN X260 hx hlk hret (t := .boolean) (by simp) (hb hby at_526) (w := 1) rfl ⟨rfl, N260⟩ (by decide) (by decide)
        · refine Es.ifYes (q := 502) ?_ X198 hx (hb hby at_455) (XT.ll_le_t hc247) (by decide) (by decide)
          refine Es.iconst (q := 503) (z := (1 : Int32)) ?_ X198 hx (hb hby at_502) rfl rfl
          refine Es.goto (q := 507) ?_ X198 hx (hb hby at_503) (by decide) (by decide)
          refine Es.istore (q := 509) (l' := #[.val (.int x0), .val (.long x1), .second, .val (.int x2), .val (.int x3), .val (.int (4 : Int32)), .val (.long la), .second, .val (.long ua), .second, .val (.long lb), .second, .val (.long ub), .second, .val (.long lc), .second, .val (.long uc), .second, .val (.long ld), .second, .val (.long ud), .second, .val (.long ud), .second, .val (.long ((la - (256 : Int64)) + ((x3 &&& (4095 : Int32)).toInt64))), .second, .val (.int cp), .val (.ref b159), .val (.ref b193), .val (.long (cp.toInt64)), .second, .val (.int (1 : Int32))]) ?_ X198 hx (hb hby at_507) rfl rfl
          refine Es.aload (q := 511) ?_ X198 hx (hb hby at_509) rfl rfl rfl
          refine Es.iload (q := 513) ?_ X198 hx (hb hby at_511) rfl rfl
          obtain ⟨cq261, kq261, q261a, q261b, q261c⟩ := isOf hZ rfl Ex198
          obtain ⟨v261, _, ⟨T261, L261, k261, n261⟩, -, X261, ⟨Lc261, hQ261, l261, y261, z261⟩, st261⟩ := X198.virtualBack hx (y := (⟨"com/example/tagwright/tagwright/model/CodePointSet", "contains", "(I)Z"⟩ : MethodName)) (z := (⟨"com/example/tagwright/tagwright/model/CodePointSet", "contains", "(I)Z"⟩ : MethodName)) hown (mvT hZ (hw _ (List.mem_of_getElem? (i := 24) rfl))) (mvT hZ (hw _ (List.mem_of_getElem? (i := 25) rfl))) (notFace_of_selects (args := #[]) (mvT hZ (hw _ (List.mem_of_getElem? (i := 27) rfl)))) (mvT hZ (hw _ (List.mem_of_getElem? (i := 27) rfl))) (mvT hZ (hw _ (List.mem_of_getElem? (i := 26) rfl))) (by decide) (backOf (W := 0) (rmC4 l Z a0 hw [] b193 cp bb (upd (upd (upd (upd (upd (upd (upd (upd (fun _ => (0 : Int32)) 0 (la.toInt32)) 1 (ua.toInt32)) 2 (lb.toInt32)) 3 (ub.toInt32)) 4 (lc.toInt32)) 5 (uc.toInt32)) 6 (ld.toInt32)) 7 (ud.toInt32)) T198.heap n0 Zs201 Fa198 Va198) hZ (hw _ (List.mem_of_getElem? (i := 28) rfl)) (hw _ (List.mem_of_getElem? (i := 6) rfl)) (by decide) (by decide)) q261a q261c (g := (mkF m 513 #[.val (.int x0), .val (.long x1), .second, .val (.int x2), .val (.int x3), .val (.int (4 : Int32)), .val (.long la), .second, .val (.long ua), .second, .val (.long lb), .second, .val (.long ub), .second, .val (.long lc), .second, .val (.long uc), .second, .val (.long ld), .second, .val (.long ud), .second, .val (.long ud), .second, .val (.long ((la - (256 : Int64)) + ((x3 &&& (4095 : Int32)).toInt64))), .second, .val (.int cp), .val (.ref b159), .val (.ref b193), .val (.long (cp.toInt64)), .second, .val (.int (1 : Int32))] [(.int cp), (.ref b193)])) rfl (by rw [hml]; rfl) (Steps.refl _) (argsL := [(.int cp)]) (rest := []) (lenOf pd_1 rfl) rfl (by show 2 * 0 + _ ≤ _; exact Nat.le_of_eq rfl) (hb hby at_513) (fun _ _ => ⟨rfl, rfl, (by decide : 3 + 0 ≤ _), (by decide : 17 + 0 ≤ _)⟩)
          dsimp only [Pt.U, Pt.locs, Pt.cells, Pt.slots] at X261 l261 y261 z261 st261 hQ261
          subst l261 y261 z261
          obtain ⟨rfl, N261q, e261⟩ := hQ261
          have N261 := Fr.app N198 N261q
          refine Ends.go st261 ?_
          show Ends p e below s _ _ _ (T261.setTop (mkF m 516 #[.val (.int x0), .val (.long x1), .second, .val (.int x2), .val (.int x3), .val (.int (4 : Int32)), .val (.long la), .second, .val (.long ua), .second, .val (.long lb), .second, .val (.long ub), .second, .val (.long lc), .second, .val (.long uc), .second, .val (.long ld), .second, .val (.long ud), .second, .val (.long ud), .second, .val (.long ((la - (256 : Int64)) + ((x3 &&& (4095 : Int32)).toInt64))), .second, .val (.int cp), .val (.ref b159), .val (.ref b193), .val (.long (cp.toInt64)), .second, .val (.int (1 : Int32))] [(.int (fC4 b193 cp bb (upd (upd (upd (upd (upd (upd (upd (upd (fun _ => (0 : Int32)) 0 (la.toInt32)) 1 (ua.toInt32)) 2 (lb.toInt32)) 3 (ub.toInt32)) 4 (lc.toInt32)) 5 (uc.toInt32)) 6 (ld.toInt32)) 7 (ud.toInt32))))]))
          refine Es.iload (q := 518) ?_ X261 hx (hb hby at_516) rfl rfl
          refine Es.icmpNo (q := 521) ?_ X261 hx (hb hby at_518) rfl (XT.ii_ne_f ((own_c4 (la := la) (ua := ua) (lb := lb) (ub := ub) (lc := lc) (uc := uc) (ld := ld) (ud := ud) rfl rfl rfl rfl rfl rfl rfl rfl o0 o1 o2 o3 p0 p1 p2 r0 r1).trans (if_pos (by have t0 := hc202; rw [Int64.lt_iff_toInt_lt, c_i2l] at t0; have t1 := hc232; rw [Int64.lt_iff_toInt_lt, c_i2l] at t1; have t2 := hc233; rw [Int64.lt_iff_toInt_lt, c_i2l] at t2; have t3 := hc247; rw [Int64.lt_iff_toInt_lt, c_i2l] at t3; omega)) : (fC4 b193 cp bb (upd (upd (upd (upd (upd (upd (upd (upd (fun _ => (0 : Int32)) 0 (la.toInt32)) 1 (ua.toInt32)) 2 (lb.toInt32)) 3 (ub.toInt32)) 4 (lc.toInt32)) 5 (uc.toInt32)) 6 (ld.toInt32)) 7 (ud.toInt32))) = (1 : Int32)))
          refine Es.iconst (q := 522) (z := (1 : Int32)) ?_ X261 hx (hb hby at_521) rfl rfl
          refine Es.goto (q := 526) ?_ X261 hx (hb hby at_522) (by decide) (by decide)
          exact Ends.retN X261 hx hlk hret (t := .boolean) (by simp) (hb hby at_526) (w := 1) rfl ⟨rfl, N261⟩ (by decide) (by decide)
    · refine Es.ifYes (q := 502) ?_ X198 hx (hb hby at_433) (XT.ll_le_t hc232) (by decide) (by decide)
      refine Es.iconst (q := 503) (z := (1 : Int32)) ?_ X198 hx (hb hby at_502) rfl rfl
      refine Es.goto (q := 507) ?_ X198 hx (hb hby at_503) (by decide) (by decide)
      refine Es.istore (q := 509) (l' := #[.val (.int x0), .val (.long x1), .second, .val (.int x2), .val (.int x3), .val (.int (4 : Int32)), .val (.long la), .second, .val (.long ua), .second, .val (.long lb), .second, .val (.long ub), .second, .val (.long lc), .second, .val (.long uc), .second, .val (.long ld), .second, .val (.long ud), .second, .val (.long ud), .second, .val (.long ((la - (256 : Int64)) + ((x3 &&& (4095 : Int32)).toInt64))), .second, .val (.int cp), .val (.ref b159), .val (.ref b193), .val (.long (cp.toInt64)), .second, .val (.int (1 : Int32))]) ?_ X198 hx (hb hby at_507) rfl rfl
      refine Es.aload (q := 511) ?_ X198 hx (hb hby at_509) rfl rfl rfl
      refine Es.iload (q := 513) ?_ X198 hx (hb hby at_511) rfl rfl
      obtain ⟨cq262, kq262, q262a, q262b, q262c⟩ := isOf hZ rfl Ex198
      obtain ⟨v262, _, ⟨T262, L262, k262, n262⟩, -, X262, ⟨Lc262, hQ262, l262, y262, z262⟩, st262⟩ := X198.virtualBack hx (y := (⟨"com/example/tagwright/tagwright/model/CodePointSet", "contains", "(I)Z"⟩ : MethodName)) (z := (⟨"com/example/tagwright/tagwright/model/CodePointSet", "contains", "(I)Z"⟩ : MethodName)) hown (mvT hZ (hw _ (List.mem_of_getElem? (i := 24) rfl))) (mvT hZ (hw _ (List.mem_of_getElem? (i := 25) rfl))) (notFace_of_selects (args := #[]) (mvT hZ (hw _ (List.mem_of_getElem? (i := 27) rfl)))) (mvT hZ (hw _ (List.mem_of_getElem? (i := 27) rfl))) (mvT hZ (hw _ (List.mem_of_getElem? (i := 26) rfl))) (by decide) (backOf (W := 0) (rmC4 l Z a0 hw [] b193 cp bb (upd (upd (upd (upd (upd (upd (upd (upd (fun _ => (0 : Int32)) 0 (la.toInt32)) 1 (ua.toInt32)) 2 (lb.toInt32)) 3 (ub.toInt32)) 4 (lc.toInt32)) 5 (uc.toInt32)) 6 (ld.toInt32)) 7 (ud.toInt32)) T198.heap n0 Zs201 Fa198 Va198) hZ (hw _ (List.mem_of_getElem? (i := 28) rfl)) (hw _ (List.mem_of_getElem? (i := 6) rfl)) (by decide) (by decide)) q262a q262c (g := (mkF m 513 #[.val (.int x0), .val (.long x1), .second, .val (.int x2), .val (.int x3), .val (.int (4 : Int32)), .val (.long la), .second, .val (.long ua), .second, .val (.long lb), .second, .val (.long ub), .second, .val (.long lc), .second, .val (.long uc), .second, .val (.long ld), .second, .val (.long ud), .second, .val (.long ud), .second, .val (.long ((la - (256 : Int64)) + ((x3 &&& (4095 : Int32)).toInt64))), .second, .val (.int cp), .val (.ref b159), .val (.ref b193), .val (.long (cp.toInt64)), .second, .val (.int (1 : Int32))] [(.int cp), (.ref b193)])) rfl (by rw [hml]; rfl) (Steps.refl _) (argsL := [(.int cp)]) (rest := []) (lenOf pd_1 rfl) rfl (by show 2 * 0 + _ ≤ _; exact Nat.le_of_eq rfl) (hb hby at_513) (fun _ _ => ⟨rfl, rfl, (by decide : 3 + 0 ≤ _), (by decide : 17 + 0 ≤ _)⟩)
      dsimp only [Pt.U, Pt.locs, Pt.cells, Pt.slots] at X262 l262 y262 z262 st262 hQ262
      subst l262 y262 z262
      obtain ⟨rfl, N262q, e262⟩ := hQ262
      have N262 := Fr.app N198 N262q
      refine Ends.go st262 ?_
      show Ends p e below s _ _ _ (T262.setTop (mkF m 516 #[.val (.int x0), .val (.long x1), .second, .val (.int x2), .val (.int x3), .val (.int (4 : Int32)), .val (.long la), .second, .val (.long ua), .second, .val (.long lb), .second, .val (.long ub), .second, .val (.long lc), .second, .val (.long uc), .second, .val (.long ld), .second, .val (.long ud), .second, .val (.long ud), .second, .val (.long ((la - (256 : Int64)) + ((x3 &&& (4095 : Int32)).toInt64))), .second, .val (.int cp), .val (.ref b159), .val (.ref b193), .val (.long (cp.toInt64)), .second, .val (.int (1 : Int32))] [(.int (fC4 b193 cp bb (upd (upd (upd (upd (upd (upd (upd (upd (fun _ => (0 : Int32)) 0 (la.toInt32)) 1 (ua.toInt32)) 2 (lb.toInt32)) 3 (ub.toInt32)) 4 (lc.toInt32)) 5 (uc.toInt32)) 6 (ld.toInt32)) 7 (ud.toInt32))))]))
      refine Es.iload (q := 518) ?_ X262 hx (hb hby at_516) rfl rfl
      refine Es.icmpNo (q := 521) ?_ X262 hx (hb hby at_518) rfl (XT.ii_ne_f ((own_c4 (la := la) (ua := ua) (lb := lb) (ub := ub) (lc := lc) (uc := uc) (ld := ld) (ud := ud) rfl rfl rfl rfl rfl rfl rfl rfl o0 o1 o2 o3 p0 p1 p2 r0 r1).trans (if_pos (by have t0 := hc202; rw [Int64.lt_iff_toInt_lt, c_i2l] at t0; have t1 := hc232; rw [Int64.lt_iff_toInt_lt, c_i2l] at t1; omega)) : (fC4 b193 cp bb (upd (upd (upd (upd (upd (upd (upd (upd (fun _ => (0 : Int32)) 0 (la.toInt32)) 1 (ua.toInt32)) 2 (lb.toInt32)) 3 (ub.toInt32)) 4 (lc.toInt32)) 5 (uc.toInt32)) 6 (ld.toInt32)) 7 (ud.toInt32))) = (1 : Int32)))
      refine Es.iconst (q := 522) (z := (1 : Int32)) ?_ X262 hx (hb hby at_521) rfl rfl
      refine Es.goto (q := 526) ?_ X262 hx (hb hby at_522) (by decide) (by decide)
      exact Ends.retN X262 hx hlk hret (t := .boolean) (by simp) (hb hby at_526) (w := 1) rfl ⟨rfl, N262⟩ (by decide) (by decide)

set_option maxRecDepth 65536 in
set_option maxHeartbeats 40000000 in
theorem sgN4 {p : Program} {l : Launch} {e : Env} {s : State} {m : MethodId} {args : Array Value} {below : List Frame} {meth : Method} {c : Code} {Z : State} {a0 : Array Value} (hx : p.tables.exec = Jvm.exec) (hZ : Z.Warmed39 s.vm) (hw : ∀ d ∈ tables_1, d.before a0 Z = true) (hby : c.code = code) (hml : c.maxLocals = 32) (hown : s.vm.findClass "com/example/tagwright/tagwright/model/CodePointSetContainsPinLaw" = some m.cls) (hlk : meth.locks = false) (hret : meth.sig.returnType = some .boolean) {T : State} {locs : List Loc} {h : Heap} {n0 : Nat} (x0 : Int32) (x1 : Int64) (x2 : Int32) (x3 : Int32) (la : Int64) (ua : Int64) (lb : Int64) (ub : Int64) (lc : Int64) (uc : Int64) (ld : Int64) (ud : Int64) (X : Stand p l e room_1 s m args below meth c T locs 0 0) (eT : T.heap = h) (N : Fr n0 locs) (Zs : n0 ≤ h.size) (r0 : -2147483648 ≤ la.toInt) (o0 : la.toInt ≤ ua.toInt) (p0 : ua.toInt < lb.toInt) (o1 : lb.toInt ≤ ub.toInt) (p1 : ub.toInt < lc.toInt) (o2 : lc.toInt ≤ uc.toInt) (p2 : uc.toInt < ld.toInt) (o3 : ld.toInt ≤ ud.toInt) :
    Ends p e below s (QL n0) room_1.cells room_1.slots (T.setTop (mkF m 106 #[.val (.int x0), .val (.long x1), .second, .val (.int x2), .val (.int x3), .val (.int (4 : Int32)), .val (.long la), .second, .val (.long ua), .second, .val (.long lb), .second, .val (.long ub), .second, .val (.long lc), .second, .val (.long uc), .second, .val (.long ld), .second, .val (.long ud), .second, .unset, .unset, .unset, .unset, .unset, .unset, .unset, .unset, .unset, .unset] [])) := by
  show Ends p e below s _ _ _ (T.setTop (mkF m 106 #[.val (.int x0), .val (.long x1), .second, .val (.int x2), .val (.int x3), .val (.int (4 : Int32)), .val (.long la), .second, .val (.long ua), .second, .val (.long lb), .second, .val (.long ub), .second, .val (.long lc), .second, .val (.long uc), .second, .val (.long ld), .second, .val (.long ud), .second, .unset, .unset, .unset, .unset, .unset, .unset, .unset, .unset, .unset, .unset] []))
  refine Es.iload (q := 108) ?_ X hx (hb hby at_106) rfl rfl
  refine Es.ifYes (q := 116) ?_ X hx (hb hby at_108) (XT.i0_ne_t (by decide)) (by decide) (by decide)
  refine Es.iload (q := 118) ?_ X hx (hb hby at_116) rfl rfl
  refine Es.iconst (q := 119) (z := (1 : Int32)) ?_ X hx (hb hby at_118) rfl rfl
  refine Es.icmpYes (q := 127) ?_ X hx (hb hby at_119) (XT.ii_ne_t (by decide)) (by decide) (by decide)
  refine Es.iload (q := 129) ?_ X hx (hb hby at_127) rfl rfl
  refine Es.iconst (q := 130) (z := (2 : Int32)) ?_ X hx (hb hby at_129) rfl rfl
  refine Es.icmpYes (q := 138) ?_ X hx (hb hby at_130) (XT.ii_ne_t (by decide)) (by decide) (by decide)
  refine Es.iload (q := 140) ?_ X hx (hb hby at_138) rfl rfl
  refine Es.iconst (q := 141) (z := (3 : Int32)) ?_ X hx (hb hby at_140) rfl rfl
  refine Es.icmpYes (q := 149) ?_ X hx (hb hby at_141) (XT.ii_ne_t (by decide)) (by decide) (by decide)
  refine Es.lload (q := 151) ?_ X hx (hb hby at_149) rfl rfl
  refine Es.lstore (q := 153) (l' := #[.val (.int x0), .val (.long x1), .second, .val (.int x2), .val (.int x3), .val (.int (4 : Int32)), .val (.long la), .second, .val (.long ua), .second, .val (.long lb), .second, .val (.long ub), .second, .val (.long lc), .second, .val (.long uc), .second, .val (.long ld), .second, .val (.long ud), .second, .val (.long ud), .second, .unset, .unset, .unset, .unset, .unset, .unset, .unset, .unset]) ?_ X hx (hb hby at_151) rfl rfl
  refine Es.lload (q := 155) ?_ X hx (hb hby at_153) rfl rfl
  refine Es.ldc2 (q := 158) ?_ X hx hown (mvT hZ (hw _ (List.mem_of_getElem? (i := 1) rfl))) (hb hby at_155) rfl
  refine Es.lcmp (q := 159) ?_ X hx (hb hby at_158) rfl
  by_cases hc157 : (2147483647 : Int64) < ud
  · refine Es.ifNo (q := 162) ?_ X hx (hb hby at_159) rfl (XT.ll_le_f hc157)
    refine Es.iconst (q := 163) (z := (1 : Int32)) ?_ X hx (hb hby at_162) rfl rfl
    exact Ends.retN X hx hlk hret (t := .boolean) (by simp) (hb hby at_163) (w := 1) rfl ⟨rfl, N⟩ (by decide) (by decide)
  · refine Es.ifYes (q := 164) ?_ X hx (hb hby at_159) (XT.ll_le_t hc157) (by decide) (by decide)
    refine Es.lload (q := 166) ?_ X hx (hb hby at_164) rfl rfl
    refine Es.ldc2 (q := 169) ?_ X hx hown (mvT hZ (hw _ (List.mem_of_getElem? (i := 2) rfl))) (hb hby at_166) rfl
    refine Es.lsub (q := 170) ?_ X hx (hb hby at_169) rfl
    refine Es.iload (q := 172) ?_ X hx (hb hby at_170) rfl rfl
    refine Es.sipush (q := 175) (z := (4095 : Int32)) ?_ X hx (hb hby at_172) rfl rfl
    refine Es.iand (q := 176) ?_ X hx (hb hby at_175) rfl
    refine Es.i2l (q := 177) ?_ X hx (hb hby at_176) rfl
    refine Es.ladd (q := 178) ?_ X hx (hb hby at_177) rfl
    refine Es.lstore (q := 180) (l' := #[.val (.int x0), .val (.long x1), .second, .val (.int x2), .val (.int x3), .val (.int (4 : Int32)), .val (.long la), .second, .val (.long ua), .second, .val (.long lb), .second, .val (.long ub), .second, .val (.long lc), .second, .val (.long uc), .second, .val (.long ld), .second, .val (.long ud), .second, .val (.long ud), .second, .val (.long ((la - (256 : Int64)) + ((x3 &&& (4095 : Int32)).toInt64))), .second, .unset, .unset, .unset, .unset, .unset, .unset]) ?_ X hx (hb hby at_178) rfl rfl
    refine Es.iload (q := 182) ?_ X hx (hb hby at_180) rfl rfl
    refine Es.istore (q := 184) (l' := #[.val (.int x0), .val (.long x1), .second, .val (.int x2), .val (.int x3), .val (.int (4 : Int32)), .val (.long la), .second, .val (.long ua), .second, .val (.long lb), .second, .val (.long ub), .second, .val (.long lc), .second, .val (.long uc), .second, .val (.long ld), .second, .val (.long ud), .second, .val (.long ud), .second, .val (.long ((la - (256 : Int64)) + ((x3 &&& (4095 : Int32)).toInt64))), .second, .val (.int x3), .unset, .unset, .unset, .unset, .unset]) ?_ X hx (hb hby at_182) rfl rfl
    refine Es.iloadN (q := 185) ?_ X hx (hb hby at_184) rfl rfl
    refine Es.bipush (q := 187) (z := (8 : Int32)) ?_ X hx (hb hby at_185) rfl rfl
    refine Es.iand (q := 188) ?_ X hx (hb hby at_187) rfl
    by_cases hc158 : (x2 &&& (8 : Int32)) = (0 : Int32)
    · refine Es.ifYes (q := 214) ?_ X hx (hb hby at_188) (XT.i0_eq_t hc158) (by decide) (by decide)
      have r1 : ud.toInt ≤ 2147483647 := by have q := hc157; rw [Int64.lt_iff_toInt_lt] at q; have e1 : (2147483647 : Int64).toInt = 2147483647 := rfl; omega
      exact sgP4 hx hZ hw hby hml hown hlk hret (x0) (x1) (x2) (x3) (la) (ua) (lb) (ub) (lc) (uc) (ld) (ud) (x3) X eT N Zs r0 o0 p0 o1 p1 o2 p2 o3 r1
    · refine Es.ifNo (q := 191) ?_ X hx (hb hby at_188) rfl (XT.i0_eq_f hc158)
      refine Es.lload (q := 193) ?_ X hx (hb hby at_191) rfl rfl
      refine Es.ldc2 (q := 196) ?_ X hx hown (mvT hZ (hw _ (List.mem_of_getElem? (i := 29) rfl))) (hb hby at_193) rfl
      refine Es.lcmp (q := 197) ?_ X hx (hb hby at_196) rfl
      by_cases hc263 : ((la - (256 : Int64)) + ((x3 &&& (4095 : Int32)).toInt64)) < (-2147483648 : Int64)
      · refine Es.ifYes (q := 214) ?_ X hx (hb hby at_197) (XT.ll_lt_t hc263) (by decide) (by decide)
        have r1 : ud.toInt ≤ 2147483647 := by have q := hc157; rw [Int64.lt_iff_toInt_lt] at q; have e1 : (2147483647 : Int64).toInt = 2147483647 := rfl; omega
        exact sgP4 hx hZ hw hby hml hown hlk hret (x0) (x1) (x2) (x3) (la) (ua) (lb) (ub) (lc) (uc) (ld) (ud) (x3) X eT N Zs r0 o0 p0 o1 p1 o2 p2 o3 r1
      · refine Es.ifNo (q := 200) ?_ X hx (hb hby at_197) rfl (XT.ll_lt_f hc263)
        refine Es.lload (q := 202) ?_ X hx (hb hby at_200) rfl rfl
        refine Es.ldc2 (q := 205) ?_ X hx hown (mvT hZ (hw _ (List.mem_of_getElem? (i := 1) rfl))) (hb hby at_202) rfl
        refine Es.lcmp (q := 206) ?_ X hx (hb hby at_205) rfl
        by_cases hc264 : (2147483647 : Int64) < ((la - (256 : Int64)) + ((x3 &&& (4095 : Int32)).toInt64))
        · refine Es.ifYes (q := 214) ?_ X hx (hb hby at_206) (XT.ll_gt_t hc264) (by decide) (by decide)
          have r1 : ud.toInt ≤ 2147483647 := by have q := hc157; rw [Int64.lt_iff_toInt_lt] at q; have e1 : (2147483647 : Int64).toInt = 2147483647 := rfl; omega
          exact sgP4 hx hZ hw hby hml hown hlk hret (x0) (x1) (x2) (x3) (la) (ua) (lb) (ub) (lc) (uc) (ld) (ud) (x3) X eT N Zs r0 o0 p0 o1 p1 o2 p2 o3 r1
        · refine Es.ifNo (q := 209) ?_ X hx (hb hby at_206) rfl (XT.ll_gt_f hc264)
          refine Es.lload (q := 211) ?_ X hx (hb hby at_209) rfl rfl
          refine Es.l2i (q := 212) ?_ X hx (hb hby at_211) rfl
          refine Es.istore (q := 214) (l' := #[.val (.int x0), .val (.long x1), .second, .val (.int x2), .val (.int x3), .val (.int (4 : Int32)), .val (.long la), .second, .val (.long ua), .second, .val (.long lb), .second, .val (.long ub), .second, .val (.long lc), .second, .val (.long uc), .second, .val (.long ld), .second, .val (.long ud), .second, .val (.long ud), .second, .val (.long ((la - (256 : Int64)) + ((x3 &&& (4095 : Int32)).toInt64))), .second, .val (.int (((la - (256 : Int64)) + ((x3 &&& (4095 : Int32)).toInt64)).toInt32)), .unset, .unset, .unset, .unset, .unset]) ?_ X hx (hb hby at_212) rfl rfl
          have r1 : ud.toInt ≤ 2147483647 := by have q := hc157; rw [Int64.lt_iff_toInt_lt] at q; have e1 : (2147483647 : Int64).toInt = 2147483647 := rfl; omega
          exact sgP4 hx hZ hw hby hml hown hlk hret (x0) (x1) (x2) (x3) (la) (ua) (lb) (ub) (lc) (uc) (ld) (ud) ((((la - (256 : Int64)) + ((x3 &&& (4095 : Int32)).toInt64)).toInt32)) X eT N Zs r0 o0 p0 o1 p1 o2 p2 o3 r1

theorem ef_rm0 (m : MethodId) (x0 : Int32) (x1 : Int64) (x2 : Int32) (x3 : Int32) : entryFrame m #[(.int x0), (.long x1), (.int x2), (.int x3)] maxLocals = mkF m 0 #[.val (.int x0), .val (.long x1), .second, .val (.int x2), .val (.int x3), .unset, .unset, .unset, .unset, .unset, .unset, .unset, .unset, .unset, .unset, .unset, .unset, .unset, .unset, .unset, .unset, .unset, .unset, .unset, .unset, .unset, .unset, .unset, .unset, .unset, .unset, .unset] [] := by first | (simp [entryFrame, mkF, argsToLocals, Value.category, maxLocals]; done) | rfl
theorem pn_1 : plainName "com/example/tagwright/tagwright/model/CodePointSetContainsPinLaw" = true := by first | (simp [plainName, overriddenIn]; done) | decide +kernel
set_option maxRecDepth 65536 in
set_option maxHeartbeats 40000000 in
theorem rm0 (l : Launch) (Z : State) (a0 : Array Value) (hw : ∀ d ∈ tables_1, d.before a0 Z = true) (ws : List Jvm.Cond) (x0 : Int32) (x1 : Int64) (x2 : Int32) (x3 : Int32) (h0 : Heap) (n0 : Nat) (Z0 : n0 ≤ h0.size) :
    MetFree l x (head1 (Jvm.Cond.code x code maxLocals ret :: ws) room_1) (fun a U => a = #[(.int x0), (.long x1), (.int x2), (.int x3)] ∧ Z.Warmed39 U.vm ∧ U.heap = h0) (fun _ _ _ _ _ => True) (fun _ U o U' => ∃ v L, o = .returned v ∧ (QL n0) v U'.heap L ∧ FrameEnd U o U' L room_1.cells room_1.slots) := by
  refine MetFree.of_bodySF (plainFor_of_name pn_1) hisR ?_
  intro p e s m args below meth c s₁ Bd hml0 hP hK
  obtain ⟨rfl, hZ, hh⟩ := hP
  have hx := Bd.exec
  have hby := Bd.bytes
  have hml : c.maxLocals = 32 := hml0
  have hown : s.vm.findClass "com/example/tagwright/tagwright/model/CodePointSetContainsPinLaw" = some m.cls := findClass_of_methodNamed Bd.named
  have hnm := (name_of_methodNamed Bd.named Bd.method).1
  have X0 : Stand p l e room_1 s m #[(.int x0), (.long x1), (.int x2), (.int x3)] below meth c s₁ [] 0 0 := Stand.of_body Bd
  have e0 : s₁.heap = h0 := by rw [← hh, Bd.state]; rfl
  have N0 := Fr.nil n0
  show Ends p e below s (QL n0) room_1.cells room_1.slots (s₁.setTop (entryFrame m #[(.int x0), (.long x1), (.int x2), (.int x3)] maxLocals))
  rw [ef_rm0 m x0 x1 x2 x3]
  show Ends p e below s _ _ _ (s₁.setTop (mkF m 0 #[.val (.int x0), .val (.long x1), .second, .val (.int x2), .val (.int x3), .unset, .unset, .unset, .unset, .unset, .unset, .unset, .unset, .unset, .unset, .unset, .unset, .unset, .unset, .unset, .unset, .unset, .unset, .unset, .unset, .unset, .unset, .unset, .unset, .unset, .unset, .unset] []))
  refine Es.iloadN (q := 1) ?_ X0 hx (hb hby at_0) rfl rfl
  refine Es.bipush (q := 3) (z := (7 : Int32)) ?_ X0 hx (hb hby at_1) rfl rfl
  refine Es.iand (q := 4) ?_ X0 hx (hb hby at_3) rfl
  refine Es.iconst (q := 5) (z := (5 : Int32)) ?_ X0 hx (hb hby at_4) rfl rfl
  refine Es.irem (q := 6) ?_ X0 hx (hb hby at_5) rfl (by decide)
  obtain ⟨nn, hnn, hcase⟩ := own_n x2
  rw [← hnn]
  show Ends p e below s _ _ _ (s₁.setTop (mkF m 6 #[.val (.int x0), .val (.long x1), .second, .val (.int x2), .val (.int x3), .unset, .unset, .unset, .unset, .unset, .unset, .unset, .unset, .unset, .unset, .unset, .unset, .unset, .unset, .unset, .unset, .unset, .unset, .unset, .unset, .unset, .unset, .unset, .unset, .unset, .unset, .unset] [(.int nn)]))
  refine Es.istore (q := 8) (l' := #[.val (.int x0), .val (.long x1), .second, .val (.int x2), .val (.int x3), .val (.int nn), .unset, .unset, .unset, .unset, .unset, .unset, .unset, .unset, .unset, .unset, .unset, .unset, .unset, .unset, .unset, .unset, .unset, .unset, .unset, .unset, .unset, .unset, .unset, .unset, .unset, .unset]) ?_ X0 hx (hb hby at_6) rfl rfl
  refine Es.iloadN (q := 9) ?_ X0 hx (hb hby at_8) rfl rfl
  refine Es.i2l (q := 10) ?_ X0 hx (hb hby at_9) rfl
  show Ends p e below s _ _ _ (s₁.setTop (mkF m 10 #[.val (.int x0), .val (.long x1), .second, .val (.int x2), .val (.int x3), .val (.int nn), .unset, .unset, .unset, .unset, .unset, .unset, .unset, .unset, .unset, .unset, .unset, .unset, .unset, .unset, .unset, .unset, .unset, .unset, .unset, .unset, .unset, .unset, .unset, .unset, .unset, .unset] [(.long (x0.toInt64))]))
  obtain ⟨la, hla⟩ : ∃ z : Int64, z = (x0.toInt64) := ⟨_, rfl⟩
  rw [← hla]
  show Ends p e below s _ _ _ (s₁.setTop (mkF m 10 #[.val (.int x0), .val (.long x1), .second, .val (.int x2), .val (.int x3), .val (.int nn), .unset, .unset, .unset, .unset, .unset, .unset, .unset, .unset, .unset, .unset, .unset, .unset, .unset, .unset, .unset, .unset, .unset, .unset, .unset, .unset, .unset, .unset, .unset, .unset, .unset, .unset] [(.long la)]))
  have fla : la.toInt = x0.toInt := by rw [hla]; exact c_i2l x0
  clear hla
  have rx := rng32 x0
  refine Es.lstore (q := 12) (l' := #[.val (.int x0), .val (.long x1), .second, .val (.int x2), .val (.int x3), .val (.int nn), .val (.long la), .second, .unset, .unset, .unset, .unset, .unset, .unset, .unset, .unset, .unset, .unset, .unset, .unset, .unset, .unset, .unset, .unset, .unset, .unset, .unset, .unset, .unset, .unset, .unset, .unset]) ?_ X0 hx (hb hby at_10) rfl rfl
  refine Es.lload (q := 14) ?_ X0 hx (hb hby at_12) rfl rfl
  refine Es.lloadN (q := 15) ?_ X0 hx (hb hby at_14) rfl rfl
  refine Es.ldc2 (q := 18) ?_ X0 hx hown (mvT hZ (hw _ (List.mem_of_getElem? (i := 0) rfl))) (hb hby at_15) rfl
  refine Es.land (q := 19) ?_ X0 hx (hb hby at_18) rfl
  refine Es.ladd (q := 20) ?_ X0 hx (hb hby at_19) rfl
  show Ends p e below s _ _ _ (s₁.setTop (mkF m 20 #[.val (.int x0), .val (.long x1), .second, .val (.int x2), .val (.int x3), .val (.int nn), .val (.long la), .second, .unset, .unset, .unset, .unset, .unset, .unset, .unset, .unset, .unset, .unset, .unset, .unset, .unset, .unset, .unset, .unset, .unset, .unset, .unset, .unset, .unset, .unset, .unset, .unset] [(.long (la + (x1 &&& (255 : Int64))))]))
  obtain ⟨ua, hua⟩ : ∃ z : Int64, z = (la + (x1 &&& (255 : Int64))) := ⟨_, rfl⟩
  rw [← hua]
  show Ends p e below s _ _ _ (s₁.setTop (mkF m 20 #[.val (.int x0), .val (.long x1), .second, .val (.int x2), .val (.int x3), .val (.int nn), .val (.long la), .second, .unset, .unset, .unset, .unset, .unset, .unset, .unset, .unset, .unset, .unset, .unset, .unset, .unset, .unset, .unset, .unset, .unset, .unset, .unset, .unset, .unset, .unset, .unset, .unset] [(.long ua)]))
  have fua := own_hi la x1 (by omega) (by omega)
  rw [← hua] at fua
  clear hua
  refine Es.lstore (q := 22) (l' := #[.val (.int x0), .val (.long x1), .second, .val (.int x2), .val (.int x3), .val (.int nn), .val (.long la), .second, .val (.long ua), .second, .unset, .unset, .unset, .unset, .unset, .unset, .unset, .unset, .unset, .unset, .unset, .unset, .unset, .unset, .unset, .unset, .unset, .unset, .unset, .unset, .unset, .unset]) ?_ X0 hx (hb hby at_20) rfl rfl
  refine Es.lload (q := 24) ?_ X0 hx (hb hby at_22) rfl rfl
  refine Es.lconst (q := 25) (z := (1 : Int64)) ?_ X0 hx (hb hby at_24) rfl rfl
  refine Es.ladd (q := 26) ?_ X0 hx (hb hby at_25) rfl
  refine Es.lloadN (q := 27) ?_ X0 hx (hb hby at_26) rfl rfl
  refine Es.bipush (q := 29) (z := (8 : Int32)) ?_ X0 hx (hb hby at_27) rfl rfl
  refine Es.lushr (q := 30) ?_ X0 hx (hb hby at_29) rfl
  refine Es.ldc2 (q := 33) ?_ X0 hx hown (mvT hZ (hw _ (List.mem_of_getElem? (i := 0) rfl))) (hb hby at_30) rfl
  refine Es.land (q := 34) ?_ X0 hx (hb hby at_33) rfl
  refine Es.ladd (q := 35) ?_ X0 hx (hb hby at_34) rfl
  show Ends p e below s _ _ _ (s₁.setTop (mkF m 35 #[.val (.int x0), .val (.long x1), .second, .val (.int x2), .val (.int x3), .val (.int nn), .val (.long la), .second, .val (.long ua), .second, .unset, .unset, .unset, .unset, .unset, .unset, .unset, .unset, .unset, .unset, .unset, .unset, .unset, .unset, .unset, .unset, .unset, .unset, .unset, .unset, .unset, .unset] [(.long ((ua + (1 : Int64)) + (((x1.toUInt64 >>> ((8 : Int32) &&& 0x3f).toInt64.toUInt64).toInt64) &&& (255 : Int64))))]))
  obtain ⟨lb, hlb⟩ : ∃ z : Int64, z = ((ua + (1 : Int64)) + (((x1.toUInt64 >>> ((8 : Int32) &&& 0x3f).toInt64.toUInt64).toInt64) &&& (255 : Int64))) := ⟨_, rfl⟩
  rw [← hlb]
  show Ends p e below s _ _ _ (s₁.setTop (mkF m 35 #[.val (.int x0), .val (.long x1), .second, .val (.int x2), .val (.int x3), .val (.int nn), .val (.long la), .second, .val (.long ua), .second, .unset, .unset, .unset, .unset, .unset, .unset, .unset, .unset, .unset, .unset, .unset, .unset, .unset, .unset, .unset, .unset, .unset, .unset, .unset, .unset, .unset, .unset] [(.long lb)]))
  have flb := own_lo ua ((x1.toUInt64 >>> ((8 : Int32) &&& 0x3f).toInt64.toUInt64).toInt64) (by omega) (by omega)
  rw [← hlb] at flb
  clear hlb
  refine Es.lstore (q := 37) (l' := #[.val (.int x0), .val (.long x1), .second, .val (.int x2), .val (.int x3), .val (.int nn), .val (.long la), .second, .val (.long ua), .second, .val (.long lb), .second, .unset, .unset, .unset, .unset, .unset, .unset, .unset, .unset, .unset, .unset, .unset, .unset, .unset, .unset, .unset, .unset, .unset, .unset, .unset, .unset]) ?_ X0 hx (hb hby at_35) rfl rfl
  refine Es.lload (q := 39) ?_ X0 hx (hb hby at_37) rfl rfl
  refine Es.lloadN (q := 40) ?_ X0 hx (hb hby at_39) rfl rfl
  refine Es.bipush (q := 42) (z := (16 : Int32)) ?_ X0 hx (hb hby at_40) rfl rfl
  refine Es.lushr (q := 43) ?_ X0 hx (hb hby at_42) rfl
  refine Es.ldc2 (q := 46) ?_ X0 hx hown (mvT hZ (hw _ (List.mem_of_getElem? (i := 0) rfl))) (hb hby at_43) rfl
  refine Es.land (q := 47) ?_ X0 hx (hb hby at_46) rfl
  refine Es.ladd (q := 48) ?_ X0 hx (hb hby at_47) rfl
  show Ends p e below s _ _ _ (s₁.setTop (mkF m 48 #[.val (.int x0), .val (.long x1), .second, .val (.int x2), .val (.int x3), .val (.int nn), .val (.long la), .second, .val (.long ua), .second, .val (.long lb), .second, .unset, .unset, .unset, .unset, .unset, .unset, .unset, .unset, .unset, .unset, .unset, .unset, .unset, .unset, .unset, .unset, .unset, .unset, .unset, .unset] [(.long (lb + (((x1.toUInt64 >>> ((16 : Int32) &&& 0x3f).toInt64.toUInt64).toInt64) &&& (255 : Int64))))]))
  obtain ⟨ub, hub⟩ : ∃ z : Int64, z = (lb + (((x1.toUInt64 >>> ((16 : Int32) &&& 0x3f).toInt64.toUInt64).toInt64) &&& (255 : Int64))) := ⟨_, rfl⟩
  rw [← hub]
  show Ends p e below s _ _ _ (s₁.setTop (mkF m 48 #[.val (.int x0), .val (.long x1), .second, .val (.int x2), .val (.int x3), .val (.int nn), .val (.long la), .second, .val (.long ua), .second, .val (.long lb), .second, .unset, .unset, .unset, .unset, .unset, .unset, .unset, .unset, .unset, .unset, .unset, .unset, .unset, .unset, .unset, .unset, .unset, .unset, .unset, .unset] [(.long ub)]))
  have fub := own_hi lb ((x1.toUInt64 >>> ((16 : Int32) &&& 0x3f).toInt64.toUInt64).toInt64) (by omega) (by omega)
  rw [← hub] at fub
  clear hub
  refine Es.lstore (q := 50) (l' := #[.val (.int x0), .val (.long x1), .second, .val (.int x2), .val (.int x3), .val (.int nn), .val (.long la), .second, .val (.long ua), .second, .val (.long lb), .second, .val (.long ub), .second, .unset, .unset, .unset, .unset, .unset, .unset, .unset, .unset, .unset, .unset, .unset, .unset, .unset, .unset, .unset, .unset, .unset, .unset]) ?_ X0 hx (hb hby at_48) rfl rfl
  refine Es.lload (q := 52) ?_ X0 hx (hb hby at_50) rfl rfl
  refine Es.lconst (q := 53) (z := (1 : Int64)) ?_ X0 hx (hb hby at_52) rfl rfl
  refine Es.ladd (q := 54) ?_ X0 hx (hb hby at_53) rfl
  refine Es.lloadN (q := 55) ?_ X0 hx (hb hby at_54) rfl rfl
  refine Es.bipush (q := 57) (z := (24 : Int32)) ?_ X0 hx (hb hby at_55) rfl rfl
  refine Es.lushr (q := 58) ?_ X0 hx (hb hby at_57) rfl
  refine Es.ldc2 (q := 61) ?_ X0 hx hown (mvT hZ (hw _ (List.mem_of_getElem? (i := 0) rfl))) (hb hby at_58) rfl
  refine Es.land (q := 62) ?_ X0 hx (hb hby at_61) rfl
  refine Es.ladd (q := 63) ?_ X0 hx (hb hby at_62) rfl
  show Ends p e below s _ _ _ (s₁.setTop (mkF m 63 #[.val (.int x0), .val (.long x1), .second, .val (.int x2), .val (.int x3), .val (.int nn), .val (.long la), .second, .val (.long ua), .second, .val (.long lb), .second, .val (.long ub), .second, .unset, .unset, .unset, .unset, .unset, .unset, .unset, .unset, .unset, .unset, .unset, .unset, .unset, .unset, .unset, .unset, .unset, .unset] [(.long ((ub + (1 : Int64)) + (((x1.toUInt64 >>> ((24 : Int32) &&& 0x3f).toInt64.toUInt64).toInt64) &&& (255 : Int64))))]))
  obtain ⟨lc, hlc⟩ : ∃ z : Int64, z = ((ub + (1 : Int64)) + (((x1.toUInt64 >>> ((24 : Int32) &&& 0x3f).toInt64.toUInt64).toInt64) &&& (255 : Int64))) := ⟨_, rfl⟩
  rw [← hlc]
  show Ends p e below s _ _ _ (s₁.setTop (mkF m 63 #[.val (.int x0), .val (.long x1), .second, .val (.int x2), .val (.int x3), .val (.int nn), .val (.long la), .second, .val (.long ua), .second, .val (.long lb), .second, .val (.long ub), .second, .unset, .unset, .unset, .unset, .unset, .unset, .unset, .unset, .unset, .unset, .unset, .unset, .unset, .unset, .unset, .unset, .unset, .unset] [(.long lc)]))
  have flc := own_lo ub ((x1.toUInt64 >>> ((24 : Int32) &&& 0x3f).toInt64.toUInt64).toInt64) (by omega) (by omega)
  rw [← hlc] at flc
  clear hlc
  refine Es.lstore (q := 65) (l' := #[.val (.int x0), .val (.long x1), .second, .val (.int x2), .val (.int x3), .val (.int nn), .val (.long la), .second, .val (.long ua), .second, .val (.long lb), .second, .val (.long ub), .second, .val (.long lc), .second, .unset, .unset, .unset, .unset, .unset, .unset, .unset, .unset, .unset, .unset, .unset, .unset, .unset, .unset, .unset, .unset]) ?_ X0 hx (hb hby at_63) rfl rfl
  refine Es.lload (q := 67) ?_ X0 hx (hb hby at_65) rfl rfl
  refine Es.lloadN (q := 68) ?_ X0 hx (hb hby at_67) rfl rfl
  refine Es.bipush (q := 70) (z := (32 : Int32)) ?_ X0 hx (hb hby at_68) rfl rfl
  refine Es.lushr (q := 71) ?_ X0 hx (hb hby at_70) rfl
  refine Es.ldc2 (q := 74) ?_ X0 hx hown (mvT hZ (hw _ (List.mem_of_getElem? (i := 0) rfl))) (hb hby at_71) rfl
  refine Es.land (q := 75) ?_ X0 hx (hb hby at_74) rfl
  refine Es.ladd (q := 76) ?_ X0 hx (hb hby at_75) rfl
  show Ends p e below s _ _ _ (s₁.setTop (mkF m 76 #[.val (.int x0), .val (.long x1), .second, .val (.int x2), .val (.int x3), .val (.int nn), .val (.long la), .second, .val (.long ua), .second, .val (.long lb), .second, .val (.long ub), .second, .val (.long lc), .second, .unset, .unset, .unset, .unset, .unset, .unset, .unset, .unset, .unset, .unset, .unset, .unset, .unset, .unset, .unset, .unset] [(.long (lc + (((x1.toUInt64 >>> ((32 : Int32) &&& 0x3f).toInt64.toUInt64).toInt64) &&& (255 : Int64))))]))
  obtain ⟨uc, huc⟩ : ∃ z : Int64, z = (lc + (((x1.toUInt64 >>> ((32 : Int32) &&& 0x3f).toInt64.toUInt64).toInt64) &&& (255 : Int64))) := ⟨_, rfl⟩
  rw [← huc]
  show Ends p e below s _ _ _ (s₁.setTop (mkF m 76 #[.val (.int x0), .val (.long x1), .second, .val (.int x2), .val (.int x3), .val (.int nn), .val (.long la), .second, .val (.long ua), .second, .val (.long lb), .second, .val (.long ub), .second, .val (.long lc), .second, .unset, .unset, .unset, .unset, .unset, .unset, .unset, .unset, .unset, .unset, .unset, .unset, .unset, .unset, .unset, .unset] [(.long uc)]))
  have fuc := own_hi lc ((x1.toUInt64 >>> ((32 : Int32) &&& 0x3f).toInt64.toUInt64).toInt64) (by omega) (by omega)
  rw [← huc] at fuc
  clear huc
  refine Es.lstore (q := 78) (l' := #[.val (.int x0), .val (.long x1), .second, .val (.int x2), .val (.int x3), .val (.int nn), .val (.long la), .second, .val (.long ua), .second, .val (.long lb), .second, .val (.long ub), .second, .val (.long lc), .second, .val (.long uc), .second, .unset, .unset, .unset, .unset, .unset, .unset, .unset, .unset, .unset, .unset, .unset, .unset, .unset, .unset]) ?_ X0 hx (hb hby at_76) rfl rfl
  refine Es.lload (q := 80) ?_ X0 hx (hb hby at_78) rfl rfl
  refine Es.lconst (q := 81) (z := (1 : Int64)) ?_ X0 hx (hb hby at_80) rfl rfl
  refine Es.ladd (q := 82) ?_ X0 hx (hb hby at_81) rfl
  refine Es.lloadN (q := 83) ?_ X0 hx (hb hby at_82) rfl rfl
  refine Es.bipush (q := 85) (z := (40 : Int32)) ?_ X0 hx (hb hby at_83) rfl rfl
  refine Es.lushr (q := 86) ?_ X0 hx (hb hby at_85) rfl
  refine Es.ldc2 (q := 89) ?_ X0 hx hown (mvT hZ (hw _ (List.mem_of_getElem? (i := 0) rfl))) (hb hby at_86) rfl
  refine Es.land (q := 90) ?_ X0 hx (hb hby at_89) rfl
  refine Es.ladd (q := 91) ?_ X0 hx (hb hby at_90) rfl
  show Ends p e below s _ _ _ (s₁.setTop (mkF m 91 #[.val (.int x0), .val (.long x1), .second, .val (.int x2), .val (.int x3), .val (.int nn), .val (.long la), .second, .val (.long ua), .second, .val (.long lb), .second, .val (.long ub), .second, .val (.long lc), .second, .val (.long uc), .second, .unset, .unset, .unset, .unset, .unset, .unset, .unset, .unset, .unset, .unset, .unset, .unset, .unset, .unset] [(.long ((uc + (1 : Int64)) + (((x1.toUInt64 >>> ((40 : Int32) &&& 0x3f).toInt64.toUInt64).toInt64) &&& (255 : Int64))))]))
  obtain ⟨ld, hld⟩ : ∃ z : Int64, z = ((uc + (1 : Int64)) + (((x1.toUInt64 >>> ((40 : Int32) &&& 0x3f).toInt64.toUInt64).toInt64) &&& (255 : Int64))) := ⟨_, rfl⟩
  rw [← hld]
  show Ends p e below s _ _ _ (s₁.setTop (mkF m 91 #[.val (.int x0), .val (.long x1), .second, .val (.int x2), .val (.int x3), .val (.int nn), .val (.long la), .second, .val (.long ua), .second, .val (.long lb), .second, .val (.long ub), .second, .val (.long lc), .second, .val (.long uc), .second, .unset, .unset, .unset, .unset, .unset, .unset, .unset, .unset, .unset, .unset, .unset, .unset, .unset, .unset] [(.long ld)]))
  have fld := own_lo uc ((x1.toUInt64 >>> ((40 : Int32) &&& 0x3f).toInt64.toUInt64).toInt64) (by omega) (by omega)
  rw [← hld] at fld
  clear hld
  refine Es.lstore (q := 93) (l' := #[.val (.int x0), .val (.long x1), .second, .val (.int x2), .val (.int x3), .val (.int nn), .val (.long la), .second, .val (.long ua), .second, .val (.long lb), .second, .val (.long ub), .second, .val (.long lc), .second, .val (.long uc), .second, .val (.long ld), .second, .unset, .unset, .unset, .unset, .unset, .unset, .unset, .unset, .unset, .unset, .unset, .unset]) ?_ X0 hx (hb hby at_91) rfl rfl
  refine Es.lload (q := 95) ?_ X0 hx (hb hby at_93) rfl rfl
  refine Es.lloadN (q := 96) ?_ X0 hx (hb hby at_95) rfl rfl
  refine Es.bipush (q := 98) (z := (48 : Int32)) ?_ X0 hx (hb hby at_96) rfl rfl
  refine Es.lushr (q := 99) ?_ X0 hx (hb hby at_98) rfl
  refine Es.ldc2 (q := 102) ?_ X0 hx hown (mvT hZ (hw _ (List.mem_of_getElem? (i := 0) rfl))) (hb hby at_99) rfl
  refine Es.land (q := 103) ?_ X0 hx (hb hby at_102) rfl
  refine Es.ladd (q := 104) ?_ X0 hx (hb hby at_103) rfl
  show Ends p e below s _ _ _ (s₁.setTop (mkF m 104 #[.val (.int x0), .val (.long x1), .second, .val (.int x2), .val (.int x3), .val (.int nn), .val (.long la), .second, .val (.long ua), .second, .val (.long lb), .second, .val (.long ub), .second, .val (.long lc), .second, .val (.long uc), .second, .val (.long ld), .second, .unset, .unset, .unset, .unset, .unset, .unset, .unset, .unset, .unset, .unset, .unset, .unset] [(.long (ld + (((x1.toUInt64 >>> ((48 : Int32) &&& 0x3f).toInt64.toUInt64).toInt64) &&& (255 : Int64))))]))
  obtain ⟨ud, hud⟩ : ∃ z : Int64, z = (ld + (((x1.toUInt64 >>> ((48 : Int32) &&& 0x3f).toInt64.toUInt64).toInt64) &&& (255 : Int64))) := ⟨_, rfl⟩
  rw [← hud]
  show Ends p e below s _ _ _ (s₁.setTop (mkF m 104 #[.val (.int x0), .val (.long x1), .second, .val (.int x2), .val (.int x3), .val (.int nn), .val (.long la), .second, .val (.long ua), .second, .val (.long lb), .second, .val (.long ub), .second, .val (.long lc), .second, .val (.long uc), .second, .val (.long ld), .second, .unset, .unset, .unset, .unset, .unset, .unset, .unset, .unset, .unset, .unset, .unset, .unset] [(.long ud)]))
  have fud := own_hi ld ((x1.toUInt64 >>> ((48 : Int32) &&& 0x3f).toInt64.toUInt64).toInt64) (by omega) (by omega)
  rw [← hud] at fud
  clear hud
  refine Es.lstore (q := 106) (l' := #[.val (.int x0), .val (.long x1), .second, .val (.int x2), .val (.int x3), .val (.int nn), .val (.long la), .second, .val (.long ua), .second, .val (.long lb), .second, .val (.long ub), .second, .val (.long lc), .second, .val (.long uc), .second, .val (.long ld), .second, .val (.long ud), .second, .unset, .unset, .unset, .unset, .unset, .unset, .unset, .unset, .unset, .unset]) ?_ X0 hx (hb hby at_104) rfl rfl
  have r0 : -2147483648 ≤ la.toInt := by omega
  have o0 := fua.1
  have p0 := flb.1
  have o1 := fub.1
  have p1 := flc.1
  have o2 := fuc.1
  have p2 := fld.1
  have o3 := fud.1
  rcases hcase with rfl | rfl | rfl | rfl | rfl
  · exact sgN0 hx hZ hw hby hml hown Bd.notSynchronized Bd.returns (x0) (x1) (x2) (x3) (la) (ua) (lb) (ub) (lc) (uc) (ld) (ud) X0 e0 N0 Z0 r0 o0 p0 o1 p1 o2 p2 o3
  · exact sgN1 hx hZ hw hby hml hown Bd.notSynchronized Bd.returns (x0) (x1) (x2) (x3) (la) (ua) (lb) (ub) (lc) (uc) (ld) (ud) X0 e0 N0 Z0 r0 o0 p0 o1 p1 o2 p2 o3
  · exact sgN2 hx hZ hw hby hml hown Bd.notSynchronized Bd.returns (x0) (x1) (x2) (x3) (la) (ua) (lb) (ub) (lc) (uc) (ld) (ud) X0 e0 N0 Z0 r0 o0 p0 o1 p1 o2 p2 o3
  · exact sgN3 hx hZ hw hby hml hown Bd.notSynchronized Bd.returns (x0) (x1) (x2) (x3) (la) (ua) (lb) (ub) (lc) (uc) (ld) (ud) X0 e0 N0 Z0 r0 o0 p0 o1 p1 o2 p2 o3
  · exact sgN4 hx hZ hw hby hml hown Bd.notSynchronized Bd.returns (x0) (x1) (x2) (x3) (la) (ua) (lb) (ub) (lc) (uc) (ld) (ud) X0 e0 N0 Z0 r0 o0 p0 o1 p1 o2 p2 o3

set_option maxRecDepth 65536 in
set_option maxHeartbeats 40000000 in
theorem comes_1 {Post : Tables → Env → Array Value → State → Outcome → State → Prop} (hpost : ∀ tb e args s v u, (limb_1_1.after args s (.returned v) u = true ∧ limb_1_2.after args s (.returned v) u = true ∧ True) → FrameEnd s (.returned v) u (Jvm.fieldLocs frame_1_writes args s ++ Jvm.arrayLocs frame_1_arrays args s ++ Jvm.staticLocs frame_1_statics s) 16 128 → Post tb e args s (.returned v) u) :
    ArmFor flags0 classFile x code maxLocals ret World_1 tables_1 room_1 Calls_1 rest_1 Pre_1 Post := by
  intro l hfl _ _ p e ha hc hk s m args below hf hA hF happ hP
  obtain ⟨hcalls, hrest, hpre⟩ := hP
  obtain ⟨-, -, -, hnamed, -, -, -, hat⟩ := (Spec.applies_iff hf).mp happ
  obtain ⟨hg, hn⟩ := and_e (Cond.before_iff.mp (show (Jvm.Cond.and given_1 narrow_1).before args s = true from hpre))
  obtain ⟨g1, g2⟩ := and_e hg
  obtain ⟨g3, g4⟩ := and_e g2
  obtain ⟨g5, g6⟩ := and_e g4
  obtain ⟨g7, g8⟩ := and_e g6
  obtain ⟨w0, w1, w2, w3, rfl⟩ : ∃ w0 w1 w2 w3 : Value, args = #[w0, w1, w2, w3] := by
    have hs : args.size = 4 := by simpa [Cond.value, given_1] using g1
    obtain ⟨L⟩ := args
    match L, hs with
    | [w0, w1, w2, w3], _ => exact ⟨w0, w1, w2, w3, rfl⟩
  have hw := fun d (hd : d ∈ tables_1) => atoms_spec (ws := Jvm.Cond.code x code maxLocals ret :: tables_1) hat d (List.mem_cons_of_mem _ hd)
  obtain ⟨i0, ei0⟩ := is_v g3
  obtain rfl : w0 = (.int i0) := Option.some.inj ei0
  obtain ⟨i1, ei1⟩ := isL_v g5
  obtain rfl : w1 = (.long i1) := Option.some.inj ei1
  obtain ⟨i2, ei2⟩ := is_v g7
  obtain rfl : w2 = (.int i2) := Option.some.inj ei2
  obtain ⟨i3, ei3⟩ := is_v g8
  obtain rfl : w3 = (.int i3) := Option.some.inj ei3
  obtain ⟨n, o, h1, h2, h3, v, L, rfl, hQ, hq⟩ := rm0 l s _ hw tables_1 i0 i1 i2 i3 s.heap s.heap.size (Nat.le_refl _) p e ha hc hk s m _ below hf ((Spec.applies_iff_loose hf).mp happ).1 ⟨rfl, State.Warmed39.refl s, rfl⟩ trivial
  obtain ⟨rfl, N⟩ := hQ
  refine ⟨n, _, h1, h2, h3, hpost _ _ _ _ _ _ ⟨Cond.after_iff.mpr rfl, Cond.after_iff.mpr (eq_i res_at (Term.int_eval (1)) rfl), trivial⟩ ⟨hq.1, hq.2.1, (hq.2.2.sift fun y hy => Or.inr (N y hy)).mono (by decide) (by decide)⟩⟩
theorem main_1_1 : Claimed_1_1 := comes_1 fun _ _ _ _ _ _ h hF => ⟨h.1, hF⟩
theorem main_1_2 : Claimed_1_2 := comes_1 fun _ _ _ _ _ _ h hF => ⟨h.2.1, hF⟩
end Jvm.Pilot.@@N@@
namespace Jvm.Pilot.@@N@@
open Jvm Jvm.ClassFile Sem Op Lib Jvm.Free Jvm.Stand Jvm.Pilot.@@N@@.Jvm.D
/-! MADE BY PROGRAM (witnessworld.py) out of the Statement's table words and the real class files: 9 classes; the members and pool entries that the words name. The judged class is class 1, her method 1. -/
namespace start1
open Jvm.ClassFile
def u (s : String) : CpInfo := .utf8 (stringToUtf16 s)
/-- a pool by its gaps: so many unusable entries, then the entry; so many at the end -/
def gap : Nat → List CpInfo → List CpInfo
  | 0, r => r
  | n + 1, r => .unusable :: gap n r
def poolList (es : List (Nat × CpInfo)) (last : Nat) : List CpInfo := es.foldr (fun e r => gap e.1 (e.2 :: r)) (gap last [])
def pool (es : List (Nat × CpInfo)) (last : Nat) : Array CpInfo := ⟨poolList es last⟩
def fileOf (pool : Array CpInfo) (this : Nat) (attrs : Array Attribute := #[]) (ms : Array MethodInfo := #[]) (fl : Nat := 33) (sup : Nat := 0) (ifs : Array Nat := #[]) (fds : Array FieldInfo := #[]) : ClassFile where
  minorVersion := 0
  majorVersion := 65
  constantPool := pool
  accessFlags := fl
  thisClass := this
  superClass := sup
  interfaces := ifs
  fields := fds
  methods := ms
  attributes := attrs
def plain (name : String) (sup : Option ClassId) : Class where
  name := name
  kind := .ordinary
  loader := none
  accessFlags := 33
  super := sup
  interfaces := #[]
  cf := none
  fields := #[]
  methods := #[]
  instanceTypes := #[]
  staticTypes := #[]
  resolved := #[]
  callSites := []
  init := .initialized
  statics := none
  mirror := none

def pool0 : Array CpInfo := pool [(5, u "<init>"), (0, u "()V"), (1, .class_ 10), (1, u "java/lang/Object"), (85, u "clone"), (0, u "()Ljava/lang/Object;")] 26

def k0c0 : Code := { maxStack := 0, maxLocals := 1, code := object_method_1_code, exceptionTable := #[], attributes := #[] }
def k0m0 : Method := { name := "<init>", desc := "()V", sig := { parameters := [], returnType := none }, accessFlags := 1, code := some k0c0 }
def k0m1 : Method := { name := "clone", desc := "()Ljava/lang/Object;", sig := { parameters := [], returnType := some (.object "java/lang/Object") }, accessFlags := 260, code := none }
/-- java/lang/Object -/
def k0 : Class := { plain "java/lang/Object" none with
  accessFlags := 33
  interfaces := #[]
  cf := some (fileOf pool0 8 #[] #[{ accessFlags := 1, nameIndex := 5, descriptorIndex := 6, attributes := #[] }, { accessFlags := 260, nameIndex := 96, descriptorIndex := 97, attributes := #[] }] 33 0 #[] #[])
  fields := #[]
  methods := #[k0m0, k0m1]
  instanceTypes := #[]
  staticTypes := #[]
  resolved := Array.replicate 124 none
  statics := none }

def pool1 : Array CpInfo := pool [(2, .class_ 4), (1, u "java/lang/Object"), (0, u "<init>"), (0, u "()V"), (0, .long 255), (3, .long 2147483647), (1, .long 256), (1, .long 18446744071562067968), (1, .class_ 18), (0, u "com/example/tagwright/tagwright/model/CodePointSet"), (0, .methodref 17 20), (0, .nameAndType 5 21), (0, u "([I)V"), (0, .methodref 17 23), (0, .nameAndType 24 25), (0, u "contains"), (0, u "(I)Z"), (0, .class_ 27), (0, u "com/example/tagwright/tagwright/model/CodePointSetContainsPinLaw"), (2, u "law"), (0, u "(IJII)Z")] 5

def k1m0 : Method := { name := "<init>", desc := "()V", sig := { parameters := [], returnType := none }, accessFlags := 1, code := none }
def k1c1 : Code := { maxStack := 6, maxLocals := 32, code := code, exceptionTable := #[], attributes := #[] }
def k1m1 : Method := { name := "law", desc := "(IJII)Z", sig := { parameters := [.int, .long, .int, .int], returnType := some .boolean }, accessFlags := 9, code := some k1c1 }
/-- com/example/tagwright/tagwright/model/CodePointSetContainsPinLaw -/
def k1 : Class := { plain "com/example/tagwright/tagwright/model/CodePointSetContainsPinLaw" (some 0) with
  accessFlags := 49
  interfaces := #[]
  cf := some (fileOf pool1 26 #[] #[{ accessFlags := 1, nameIndex := 5, descriptorIndex := 6, attributes := #[] }, { accessFlags := 9, nameIndex := 30, descriptorIndex := 31, attributes := #[] }] 49 2 #[] #[])
  fields := #[]
  methods := #[k1m0, k1m1]
  instanceTypes := #[]
  staticTypes := #[]
  resolved := Array.replicate 37 none
  statics := none }

def pool2 : Array CpInfo := pool [(1, .methodref 2 3), (0, .class_ 4), (0, .nameAndType 5 6), (0, u "java/lang/Object"), (0, u "<init>"), (0, u "()V"), (0, .methodref 8 9), (0, .class_ 10), (0, .nameAndType 11 12), (0, u "[I"), (0, u "clone"), (0, u "()Ljava/lang/Object;"), (0, .fieldref 14 15), (0, .class_ 16), (0, .nameAndType 17 10), (0, u "com/example/tagwright/tagwright/model/CodePointSet"), (0, u "bounds"), (12, u "contains"), (0, u "(I)Z"), (5, u "([I)V")] 7

def k2c0 : Code := { maxStack := 2, maxLocals := 2, code := prog_23_method_1_code, exceptionTable := #[], attributes := #[] }
def k2m0 : Method := { name := "<init>", desc := "([I)V", sig := { parameters := [(.array .int)], returnType := none }, accessFlags := 0, code := some k2c0 }
def k2c1 : Code := { maxStack := 4, maxLocals := 5, code := prog_23_method_2_code, exceptionTable := #[], attributes := #[] }
def k2m1 : Method := { name := "contains", desc := "(I)Z", sig := { parameters := [.int], returnType := some .boolean }, accessFlags := 0, code := some k2c1 }
/-- com/example/tagwright/tagwright/model/CodePointSet -/
def k2 : Class := { plain "com/example/tagwright/tagwright/model/CodePointSet" (some 0) with
  accessFlags := 48
  interfaces := #[]
  cf := some (fileOf pool2 14 #[] #[{ accessFlags := 0, nameIndex := 5, descriptorIndex := 37, attributes := #[] }, { accessFlags := 0, nameIndex := 30, descriptorIndex := 31, attributes := #[] }] 48 2 #[] #[{ accessFlags := 18, nameIndex := 17, descriptorIndex := 10, attributes := #[] }])
  fields := #[{ name := "bounds", type := (.array .int), accessFlags := 18, slot := 0, constantValue := 0 }]
  methods := #[k2m0, k2m1]
  instanceTypes := #[(.array .int)]
  staticTypes := #[]
  resolved := Array.replicate 45 none
  statics := none }

def pool3 : Array CpInfo := pool [(1, .class_ 2), (0, u "java/lang/Cloneable"), (0, .class_ 4), (0, u "java/lang/Object")] 2

/-- java/lang/Cloneable -/
def k3 : Class := { plain "java/lang/Cloneable" (some 0) with
  accessFlags := 1537
  interfaces := #[]
  cf := some (fileOf pool3 1 #[] #[] 1537 3 #[] #[])
  fields := #[]
  methods := #[]
  instanceTypes := #[]
  staticTypes := #[]
  resolved := Array.replicate 7 none
  statics := none }

def pool4 : Array CpInfo := pool [(1, u "java/io/Serializable"), (0, .class_ 1), (0, u "java/lang/Object"), (0, .class_ 3)] 3

/-- java/io/Serializable -/
def k4 : Class := { plain "java/io/Serializable" (some 0) with
  accessFlags := 1537
  interfaces := #[]
  cf := some (fileOf pool4 2 #[] #[] 1537 4 #[] #[])
  fields := #[]
  methods := #[]
  instanceTypes := #[]
  staticTypes := #[]
  resolved := Array.replicate 8 none
  statics := none }

/-- the primitive byte -/
def k5 : Class := { plain "byte" none with kind := .primitive 'B', accessFlags := 0x411 }
/-- [B -/
def k6 : Class := { plain "[B" (some 0) with kind := .array 5 .byte, interfaces := #[3, 4], accessFlags := 1041 }

/-- the primitive int -/
def k7 : Class := { plain "int" none with kind := .primitive 'I', accessFlags := 0x411 }
/-- [I -/
def k8 : Class := { plain "[I" (some 0) with kind := .array 7 .int, interfaces := #[3, 4], accessFlags := 1041 }

def heap : Heap := #[]
def classes : Array Class := #[k0, k1, k2, k3, k4, k5, k6, k7, k8]
def interned : List (Array UInt16 × Addr) := []
def slotsUsed : Nat := 0
def theMethod : MethodId := ⟨1, 1⟩
def args0 : Array Value := #[.int 5, .long 700, .int 3, .int 9]
def aboutOver (below : List Frame) : State where
  vm := { classes := classes, interned := interned.toArray }
  heap := heap
  slotsUsed := slotsUsed
  threads := #[{ frames := .invoking theMethod args0 :: below }]
def below0 : List Frame := [.native { method := ⟨0, 0⟩, args := #[] }]
def about1 : State := aboutOver below0
def p0 : Program := .bare "" "" ""
def e0 : Env := launch0.env 0 0 0
theorem w_frames : about1.frames = Frame.invoking theMethod args0 :: below0 := rfl
set_option maxRecDepth 65536 in
theorem w_args : argsFit about1.vm theMethod args0 = true := by decide +kernel
set_option maxRecDepth 65536 in
theorem w_heap : heapFits about1 = true := by decide +kernel
set_option maxRecDepth 65536 in
theorem w_runnable : about1.curStatus? = some .runnable := by decide +kernel
set_option maxRecDepth 65536 in
theorem w_alone : about1.alone = true := by decide +kernel
set_option maxRecDepth 65536 in
theorem w_named : about1.methodNamed? x = some theMethod := by decide +kernel
set_option maxRecDepth 65536 in
theorem w_hears : about1.hears theMethod below0 = true := by decide +kernel
set_option maxRecDepth 65536 in
theorem w_ripe : about1.ripe theMethod args0 below0 = true := by decide +kernel
theorem w_running : about1.status = .running := rfl
set_option maxRecDepth 65536 in
theorem w_room : about1.hasRoom e0.platform room_1 = true :=
  launch0.hasRoom_least _ room_1 (by decide +kernel) (by decide +kernel) (by decide +kernel) (by decide +kernel) (by decide +kernel) (by decide +kernel)
theorem allAtoms_all (ts : List Jvm.Cond) (a : Array Jvm.Value) (st : Jvm.State) : (allAtoms ts).before a st = ts.all (fun c => c.before a st) := by
  induction ts with
  | nil => rfl
  | cons c t ih =>
    show (Jvm.Cond.and c (allAtoms t)).before a st = _
    rw [Jvm.Cond.before_and, ih, List.all_cons]
def words1 : List Jvm.Cond := Jvm.Cond.code x code maxLocals ret :: tables_1
/-- a 'code' word, met by the world's own term for the bytes: nothing is compared byte by byte -/
theorem code_word {y : MethodName} {bytes : ByteArray} {mx : Nat} {rt : Option FieldType} {a : Array Value} {s : State} {m : MethodId} {meth : Method} {c : Code} (h1 : s.methodNamed? y = some m) (h2 : s.vm.method? m = some meth) (h3 : meth.code = some c) (h4 : c.code = bytes)
    (h5 : (c.maxLocals == mx && c.exceptionTable.isEmpty && decide (c.maxStack ≤ mostOperands) && decide (meth.sig.returnType = rt) && !meth.locks && decide (parseMethodDescriptor y.desc = some meth.sig)) = true) : (Jvm.Cond.code y bytes mx rt).before a s = true := by
  simp only [Bool.and_eq_true, beq_iff_eq, Bool.not_eq_true', decide_eq_true_eq] at h5
  obtain ⟨⟨⟨⟨⟨g1, g2⟩, g3⟩, g4⟩, g5⟩, g6⟩ := h5
  simp [Cond.before, Cond.holds, Cond.value, h1, h2, h3, h4, g1, g2, g3, g4, g5, g6]
def isCode : Jvm.Cond → Bool
  | .code _ _ _ _ => true
  | _ => false
theorem all_split {L : List Jvm.Cond} {P : Jvm.Cond → Bool} (h1 : L.all (fun c => isCode c || P c) = true) (h2 : ∀ c ∈ L.filter isCode, P c = true) : L.all P = true := by
  refine List.all_eq_true.mpr fun c hc => ?_
  have h := List.all_eq_true.mp h1 c hc
  rcases Bool.eq_false_or_eq_true (isCode c) with hi | hi
  · exact h2 c (List.mem_filter.mpr ⟨hc, hi⟩)
  · simpa [hi] using h
set_option maxRecDepth 65536 in
theorem w_c0 : (Jvm.Cond.code x code maxLocals ret).before args0 about1 = true := code_word (m := ⟨1, 1⟩) (meth := k1m1) (c := k1c1) (by decide +kernel) rfl rfl rfl (by decide +kernel)
set_option maxRecDepth 65536 in
theorem w_c1 : (Jvm.Cond.code ({ cls := "com/example/tagwright/tagwright/model/CodePointSet", name := "<init>", desc := "([I)V" } : Jvm.MethodName) prog_23_method_1_code (2 : Nat) (Option.none : Option Jvm.ClassFile.FieldType)).before args0 about1 = true := code_word (m := ⟨2, 0⟩) (meth := k2m0) (c := k2c0) (by decide +kernel) rfl rfl rfl (by decide +kernel)
set_option maxRecDepth 65536 in
theorem w_c2 : (Jvm.Cond.code ({ cls := "java/lang/Object", name := "<init>", desc := "()V" } : Jvm.MethodName) object_method_1_code (1 : Nat) (Option.none : Option Jvm.ClassFile.FieldType)).before args0 about1 = true := code_word (m := ⟨0, 0⟩) (meth := k0m0) (c := k0c0) (by decide +kernel) rfl rfl rfl (by decide +kernel)
set_option maxRecDepth 65536 in
theorem w_c3 : (Jvm.Cond.code ({ cls := "com/example/tagwright/tagwright/model/CodePointSet", name := "contains", desc := "(I)Z" } : Jvm.MethodName) prog_23_method_2_code (5 : Nat) (Option.some Jvm.ClassFile.FieldType.boolean)).before args0 about1 = true := code_word (m := ⟨2, 1⟩) (meth := k2m1) (c := k2c1) (by decide +kernel) rfl rfl rfl (by decide +kernel)
def codes1 : List Jvm.Cond := [Jvm.Cond.code x code maxLocals ret, Jvm.Cond.code ({ cls := "com/example/tagwright/tagwright/model/CodePointSet", name := "<init>", desc := "([I)V" } : Jvm.MethodName) prog_23_method_1_code (2 : Nat) (Option.none : Option Jvm.ClassFile.FieldType), Jvm.Cond.code ({ cls := "java/lang/Object", name := "<init>", desc := "()V" } : Jvm.MethodName) object_method_1_code (1 : Nat) (Option.none : Option Jvm.ClassFile.FieldType), Jvm.Cond.code ({ cls := "com/example/tagwright/tagwright/model/CodePointSet", name := "contains", desc := "(I)Z" } : Jvm.MethodName) prog_23_method_2_code (5 : Nat) (Option.some Jvm.ClassFile.FieldType.boolean)]
set_option maxRecDepth 65536 in
theorem codes_eq : words1.filter isCode = codes1 := rfl
theorem w_codes : ∀ c ∈ words1.filter isCode, c.before args0 about1 = true := by
  rw [codes_eq]
  intro c hc
  simp only [codes1, List.mem_cons, List.not_mem_nil, or_false] at hc
  rcases hc with rfl | rfl | rfl | rfl
  · exact w_c0
  · exact w_c1
  · exact w_c2
  · exact w_c3
set_option maxRecDepth 65536 in
theorem w_t1 : (words1.take 24).all (fun c => isCode c || c.before args0 about1) = true := by decide +kernel
set_option maxRecDepth 65536 in
theorem w_t2 : (words1.drop 24).all (fun c => isCode c || c.before args0 about1) = true := by decide +kernel
theorem w_tables : (allAtoms (Jvm.Cond.code x code maxLocals ret :: tables_1)).before args0 about1 = true := by
  rw [allAtoms_all]
  show words1.all (fun c => c.before args0 about1) = true
  refine all_split ?_ w_codes
  rw [← List.take_append_drop 24 words1, List.all_append, w_t1, w_t2]
  rfl
set_option maxRecDepth 65536 in
theorem w_case : (Jvm.Cond.and given_1 narrow_1).before args0 about1 = true := by decide +kernel
theorem w_applies : (headSpec (Jvm.Cond.code x code maxLocals ret :: tables_1) room_1).applies x e0.platform about1 = true :=
  (Spec.applies_iff w_frames).mpr ⟨w_running, w_runnable, w_alone, w_named, w_hears, w_ripe, w_room, w_tables⟩
theorem atStart : AtStart classFile x code maxLocals ret World_1 tables_1 room_1 Calls_1 rest_1 Pre_1 launch0 p0 e0 about1 theMethod args0 below0 :=
  ⟨lists_1, trivial, launch0.admits_env _ _ _, launch0.least_env, fairChoices_fair.cas, fairChoices_fair.clock, w_frames, w_args, w_heap, w_applies, trivial, trivial, w_case⟩
end start1
theorem witness_1 : WitnessClaimed_1 := ⟨start1.p0, start1.e0, start1.about1, start1.theMethod, start1.args0, start1.below0, start1.atStart⟩
end Jvm.Pilot.@@N@@
