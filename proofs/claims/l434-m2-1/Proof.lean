import JvmDerived
import JvmDerived.Pilot.@@N@@Statement
import JvmDerived.Pilot.@@N@@Code
set_option linter.unusedVariables false
set_option linter.unusedSimpArgs false
namespace Jvm.Pilot.@@N@@
open Jvm Jvm.ClassFile Sem Op Lib Jvm.Free Jvm.Stand Jvm.LawKit Jvm.RoadKit Bundle Jvm.Pilot.@@N@@.Jvm.D
section Own
variable {p : Program} {l : Launch} {e : Env} {R : Room} {s : State} {m : MethodId} {args : Array Value} {below : List Frame} {meth : Method} {c : Code} {T : State} {locs : List Loc} {cells slots : Nat}
/-- from u the walk comes to its return, with what Q says of value, heap and the places written, and F of the frame -/
def Ends (p : Program) (e : Env) (below : List Frame) (F : Outcome → State → List Loc → Prop) (Q : Option Value → Heap → List Loc → Prop) (u : State) : Prop :=
  ∃ s₂ o, Steps p.tables e below u s₂ ∧ s₂.status = .running ∧ Ended s₂ below o ∧ ∃ v L, o = .returned v ∧ Q v s₂.heap L ∧ F o s₂ L
def FE (s : State) (kc ks : Nat) (o : Outcome) (t : State) (L : List Loc) : Prop := FrameEnd s o t L kc ks
def FW (s : State) (kc ks : Nat) (o : Outcome) (t : State) (L : List Loc) : Prop := ReturnedEndW s o t L kc ks
variable {F : Outcome → State → List Loc → Prop} {Q : Option Value → Heap → List Loc → Prop} {kc ks : Nat} {u u' : State}
theorem Ends.by (k : Ends p e below F Q u') (h : ∀ t, Steps p.tables e below u' t → Steps p.tables e below u t) : Ends p e below F Q u := by
  obtain ⟨s₂, o, h1, r⟩ := k
  exact ⟨s₂, o, h _ h1, r⟩
theorem Ends.go (h : Steps p.tables e below u u') (k : Ends p e below F Q u') : Ends p e below F Q u := k.by fun _ q => h.trans q
theorem Ends.retN (X : Stand p l e R s m args below meth c T locs cells slots) (hx : p.tables.exec = Jvm.exec) (hlk : meth.locks = false) {t : FieldType} (hret : meth.sig.returnType = some t) (ht : t = .boolean ∨ t = .byte ∨ t = .char ∨ t = .short) {pc : Nat} {Ls : Array Slot} {z w : Int32} {rest : List Value}
    (hd : decode c.code pc = .ok (.ireturn, 1)) (hz : nar t z = w) (hQ : Q (some (.int w)) T.heap locs) (hc : cells ≤ kc) (hs : slots ≤ ks) : Ends p e below (FE s kc ks) Q (T.setTop (mkF m pc Ls (.int z :: rest))) := by
  subst hz
  obtain ⟨fs, hr, hrun, hended, hW, hsame⟩ := X.leave (v := some (.int (nar t z))) (fun h => by rw [hret] at h; cases h) hlk
  exact ⟨_, _, Jvm.RoadKit.retN X hx hret ht hd hr, hrun, hended, _, _, rfl, hQ, ⟨_, rfl⟩, hW, hsame.mono hc hs⟩
theorem Ends.retI (X : Stand p l e R s m args below meth c T locs cells slots) (hx : p.tables.exec = Jvm.exec) (hlk : meth.locks = false) (hret : meth.sig.returnType = some .int) {pc : Nat} {Ls : Array Slot} {z : Int32} {rest : List Value}
    (hd : decode c.code pc = .ok (.ireturn, 1)) (hQ : Q (some (.int z)) T.heap locs) (hc : cells ≤ kc) (hs : slots ≤ ks) : Ends p e below (FE s kc ks) Q (T.setTop (mkF m pc Ls (.int z :: rest))) := by
  obtain ⟨fs, hr, hrun, hended, hW, hsame⟩ := X.leave (v := some (.int z)) (fun h => by rw [hret] at h; cases h) hlk
  exact ⟨_, _, Jvm.RoadKit.retOut X hx hret rfl (Or.inl ⟨rfl, by simp, z, rfl⟩) hd hr, hrun, hended, _, _, rfl, hQ, ⟨_, rfl⟩, hW, hsame.mono hc hs⟩
theorem Ends.retJ (X : Stand p l e R s m args below meth c T locs cells slots) (hx : p.tables.exec = Jvm.exec) (hlk : meth.locks = false) (hret : meth.sig.returnType = some .long) {pc : Nat} {Ls : Array Slot} {z : Int64} {rest : List Value}
    (hd : decode c.code pc = .ok (.lreturn, 1)) (hQ : Q (some (.long z)) T.heap locs) (hc : cells ≤ kc) (hs : slots ≤ ks) : Ends p e below (FE s kc ks) Q (T.setTop (mkF m pc Ls (.long z :: rest))) := by
  obtain ⟨fs, hr, hrun, hended, hW, hsame⟩ := X.leave (v := some (.long z)) (fun h => by rw [hret] at h; cases h) hlk
  exact ⟨_, _, Jvm.RoadKit.retOut X hx hret rfl (Or.inr (Or.inl ⟨rfl, rfl, z, rfl⟩)) hd hr, hrun, hended, _, _, rfl, hQ, ⟨_, rfl⟩, hW, hsame.mono hc hs⟩
theorem Ends.retA (X : Stand p l e R s m args below meth c T locs cells slots) (hx : p.tables.exec = Jvm.exec) (hlk : meth.locks = false) {t : FieldType} (hret : meth.sig.returnType = some t) (ht : t.isReference = true) (hn : ∀ a, narrow t (.ref a) = .ref a) {pc : Nat} {Ls : Array Slot} {a : Addr} {rest : List Value}
    (hd : decode c.code pc = .ok (.areturn, 1)) (hQ : Q (some (.ref a)) T.heap locs) (hc : cells ≤ kc) (hs : slots ≤ ks) : Ends p e below (FE s kc ks) Q (T.setTop (mkF m pc Ls (.ref a :: rest))) := by
  obtain ⟨fs, hr, hrun, hended, hW, hsame⟩ := X.leave (v := some (.ref a)) (fun h => by rw [hret] at h; cases h) hlk
  exact ⟨_, _, Jvm.RoadKit.retOut X hx hret (hn a) (Or.inr (Or.inr (Or.inr (Or.inr ⟨rfl, ht, rfl⟩)))) hd hr, hrun, hended, _, _, rfl, hQ, ⟨_, rfl⟩, hW, hsame.mono hc hs⟩
theorem Ends.retV (X : Stand p l e R s m args below meth c T locs cells slots) (hx : p.tables.exec = Jvm.exec) (hlk : meth.locks = false) (hret : meth.sig.returnType = none) {pc : Nat} {Ls : Array Slot}
    (hd : decode c.code pc = .ok (.return_, 1)) (hQ : Q none T.heap locs) (hc : cells ≤ kc) (hs : slots ≤ ks) : Ends p e below (FE s kc ks) Q (T.setTop (mkF m pc Ls [])) := by
  obtain ⟨fs, hr, hrun, hended, hW, hsame⟩ := X.leave (v := none) (fun _ => rfl) hlk
  exact ⟨_, _, X.returnOut hx hret hd hr, hrun, hended, _, _, rfl, hQ, ⟨_, rfl⟩, hW, hsame.mono hc hs⟩
theorem Ends.retNW {vm0 : Vm} (X : Stand p l e R (s.setVm vm0) m args below meth c T locs cells slots) {n : Nat} (hS : s.Since vm0 n) (hn : n ≤ T.heap.size) (hx : p.tables.exec = Jvm.exec) (hlk : meth.locks = false) {t : FieldType} (hret : meth.sig.returnType = some t) (ht : t = .boolean ∨ t = .byte ∨ t = .char ∨ t = .short) {pc : Nat} {Ls : Array Slot} {z w : Int32} {rest : List Value}
    (hd : decode c.code pc = .ok (.ireturn, 1)) (hz : nar t z = w) (hQ : Q (some (.int w)) T.heap locs) (hc : cells ≤ kc) (hs : slots ≤ ks) : Ends p e below (FW s kc ks) Q (T.setTop (mkF m pc Ls (.int z :: rest))) := by
  subst hz
  obtain ⟨fs, hr, hrun, hended, hW⟩ := X.leaveW hS hn (v := some (.int (nar t z))) (fun h => by rw [hret] at h; cases h) hlk
  exact ⟨_, _, Jvm.RoadKit.retN X hx hret ht hd hr, hrun, hended, _, _, rfl, hQ, hW.1, hW.2.1, hW.2.2.1, hW.2.2.2.mono hc hs⟩
theorem Ends.retIW {vm0 : Vm} (X : Stand p l e R (s.setVm vm0) m args below meth c T locs cells slots) {n : Nat} (hS : s.Since vm0 n) (hn : n ≤ T.heap.size) (hx : p.tables.exec = Jvm.exec) (hlk : meth.locks = false) (hret : meth.sig.returnType = some .int) {pc : Nat} {Ls : Array Slot} {z : Int32} {rest : List Value}
    (hd : decode c.code pc = .ok (.ireturn, 1)) (hQ : Q (some (.int z)) T.heap locs) (hc : cells ≤ kc) (hs : slots ≤ ks) : Ends p e below (FW s kc ks) Q (T.setTop (mkF m pc Ls (.int z :: rest))) := by
  obtain ⟨fs, hr, hrun, hended, hW⟩ := X.leaveW hS hn (v := some (.int z)) (fun h => by rw [hret] at h; cases h) hlk
  exact ⟨_, _, Jvm.RoadKit.retOut X hx hret rfl (Or.inl ⟨rfl, by simp, z, rfl⟩) hd hr, hrun, hended, _, _, rfl, hQ, hW.1, hW.2.1, hW.2.2.1, hW.2.2.2.mono hc hs⟩
theorem Ends.retJW {vm0 : Vm} (X : Stand p l e R (s.setVm vm0) m args below meth c T locs cells slots) {n : Nat} (hS : s.Since vm0 n) (hn : n ≤ T.heap.size) (hx : p.tables.exec = Jvm.exec) (hlk : meth.locks = false) (hret : meth.sig.returnType = some .long) {pc : Nat} {Ls : Array Slot} {z : Int64} {rest : List Value}
    (hd : decode c.code pc = .ok (.lreturn, 1)) (hQ : Q (some (.long z)) T.heap locs) (hc : cells ≤ kc) (hs : slots ≤ ks) : Ends p e below (FW s kc ks) Q (T.setTop (mkF m pc Ls (.long z :: rest))) := by
  obtain ⟨fs, hr, hrun, hended, hW⟩ := X.leaveW hS hn (v := some (.long z)) (fun h => by rw [hret] at h; cases h) hlk
  exact ⟨_, _, Jvm.RoadKit.retOut X hx hret rfl (Or.inr (Or.inl ⟨rfl, rfl, z, rfl⟩)) hd hr, hrun, hended, _, _, rfl, hQ, hW.1, hW.2.1, hW.2.2.1, hW.2.2.2.mono hc hs⟩
theorem Ends.retAW {vm0 : Vm} (X : Stand p l e R (s.setVm vm0) m args below meth c T locs cells slots) {n : Nat} (hS : s.Since vm0 n) (hnn : n ≤ T.heap.size) (hx : p.tables.exec = Jvm.exec) (hlk : meth.locks = false) {t : FieldType} (hret : meth.sig.returnType = some t) (ht : t.isReference = true) (hn : ∀ a, narrow t (.ref a) = .ref a) {pc : Nat} {Ls : Array Slot} {a : Addr} {rest : List Value}
    (hd : decode c.code pc = .ok (.areturn, 1)) (hQ : Q (some (.ref a)) T.heap locs) (hc : cells ≤ kc) (hs : slots ≤ ks) : Ends p e below (FW s kc ks) Q (T.setTop (mkF m pc Ls (.ref a :: rest))) := by
  obtain ⟨fs, hr, hrun, hended, hW⟩ := X.leaveW hS hnn (v := some (.ref a)) (fun h => by rw [hret] at h; cases h) hlk
  exact ⟨_, _, Jvm.RoadKit.retOut X hx hret (hn a) (Or.inr (Or.inr (Or.inr (Or.inr ⟨rfl, ht, rfl⟩)))) hd hr, hrun, hended, _, _, rfl, hQ, hW.1, hW.2.1, hW.2.2.1, hW.2.2.2.mono hc hs⟩
theorem Ends.retVW {vm0 : Vm} (X : Stand p l e R (s.setVm vm0) m args below meth c T locs cells slots) {n : Nat} (hS : s.Since vm0 n) (hn : n ≤ T.heap.size) (hx : p.tables.exec = Jvm.exec) (hlk : meth.locks = false) (hret : meth.sig.returnType = none) {pc : Nat} {Ls : Array Slot}
    (hd : decode c.code pc = .ok (.return_, 1)) (hQ : Q none T.heap locs) (hc : cells ≤ kc) (hs : slots ≤ ks) : Ends p e below (FW s kc ks) Q (T.setTop (mkF m pc Ls [])) := by
  obtain ⟨fs, hr, hrun, hended, hW⟩ := X.leaveW hS hn (v := none) (fun _ => rfl) hlk
  exact ⟨_, _, X.returnOut hx hret hd hr, hrun, hended, _, _, rfl, hQ, hW.1, hW.2.1, hW.2.2.1, hW.2.2.2.mono hc hs⟩
theorem lremM {g : JFrame} {target : State} (X : Stand p l e R s m args below meth c T locs cells slots) (hx : p.tables.exec = Jvm.exec) (hg : g.method = m) {x y : Int64} {rest : List Value} (hd : decode c.code g.pc = .ok (.lrem, 1)) (hs : g.stack = .long y :: .long x :: rest) (hy : y ≠ 0)
    (hr : Steps p.tables e below (T.setTop { g with pc := g.pc + 1, stack := .long (x % y) :: rest }) target) : Steps p.tables e below (T.setTop g) target :=
  XS.lrem X.here hx hg hd hs hy (by rw [lrem_mod x y]; exact hr)
/-- a method that writes nothing: what it returns, the heap as it was -/
def QP (V : Option Value) (h0 : Heap) (n0 : Nat) (v : Option Value) (h : Heap) (L : List Loc) : Prop := v = V ∧ Fr n0 L ∧ h = h0
/-- a law: it returns 1; nothing old is written -/
def QL (n0 : Nat) (v : Option Value) (_ : Heap) (L : List Loc) : Prop := v = some (.int 1) ∧ Fr n0 L
end Own
section OwnSteps
variable {p : Program} {l : Launch} {e : Env} {R : Room} {s : State} {m : MethodId} {args : Array Value} {below : List Frame} {meth : Method} {c : Code} {T : State} {locs : List Loc} {cells slots : Nat} {F : Outcome → State → List Loc → Prop} {Q : Option Value → Heap → List Loc → Prop} {pc : Nat} {Ls : Array Slot} {S : List Value}
theorem Es.iload {i : Nat} {v : Int32} {q : Nat} (k : Ends p e below F Q (T.setTop (mkF m q Ls (.int v :: S)))) (X : Stand p l e R s m args below meth c T locs cells slots) (hx : p.tables.exec = Jvm.exec) (hd : decode c.code pc = .ok (.iload i, 2)) (hq : pc + 2 = q) (hl : Ls[i]? = some (.val (.int v))) : Ends p e below F Q (T.setTop (mkF m pc Ls S)) := by
  subst hq
  exact k.by fun _ r => XS.iload X.here hx rfl hd hl r
theorem Es.iloadN {i : Fin 4} {v : Int32} {q : Nat} (k : Ends p e below F Q (T.setTop (mkF m q Ls (.int v :: S)))) (X : Stand p l e R s m args below meth c T locs cells slots) (hx : p.tables.exec = Jvm.exec) (hd : decode c.code pc = .ok (.iload_n i, 1)) (hq : pc + 1 = q) (hl : Ls[i.val]? = some (.val (.int v))) : Ends p e below F Q (T.setTop (mkF m pc Ls S)) := by
  subst hq
  exact k.by fun _ r => XS.iloadN X.here hx rfl hd hl r
theorem Es.istore {i : Nat} {x : Int32} {l' : Array Slot} {q : Nat} (k : Ends p e below F Q (T.setTop (mkF m q l' S))) (X : Stand p l e R s m args below meth c T locs cells slots) (hx : p.tables.exec = Jvm.exec) (hd : decode c.code pc = .ok (.istore i, 2)) (hq : pc + 2 = q) (hl : storeLocals Ls i (.int x) = some l') : Ends p e below F Q (T.setTop (mkF m pc Ls (.int x :: S))) := by
  subst hq
  exact k.by fun _ r => XS.istore X.here hx rfl hd rfl hl r
theorem Es.istoreN {i : Fin 4} {x : Int32} {l' : Array Slot} {q : Nat} (k : Ends p e below F Q (T.setTop (mkF m q l' S))) (X : Stand p l e R s m args below meth c T locs cells slots) (hx : p.tables.exec = Jvm.exec) (hd : decode c.code pc = .ok (.istore_n i, 1)) (hq : pc + 1 = q) (hl : storeLocals Ls i.val (.int x) = some l') : Ends p e below F Q (T.setTop (mkF m pc Ls (.int x :: S))) := by
  subst hq
  exact k.by fun _ r => XS.istoreN X.here hx rfl hd rfl hl r
theorem Es.lload {i : Nat} {v : Int64} {q : Nat} (k : Ends p e below F Q (T.setTop (mkF m q Ls (.long v :: S)))) (X : Stand p l e R s m args below meth c T locs cells slots) (hx : p.tables.exec = Jvm.exec) (hd : decode c.code pc = .ok (.lload i, 2)) (hq : pc + 2 = q) (hl : Ls[i]? = some (.val (.long v))) : Ends p e below F Q (T.setTop (mkF m pc Ls S)) := by
  subst hq
  exact k.by fun _ r => XS.lload X.here hx rfl hd hl r
theorem Es.lloadN {i : Fin 4} {v : Int64} {q : Nat} (k : Ends p e below F Q (T.setTop (mkF m q Ls (.long v :: S)))) (X : Stand p l e R s m args below meth c T locs cells slots) (hx : p.tables.exec = Jvm.exec) (hd : decode c.code pc = .ok (.lload_n i, 1)) (hq : pc + 1 = q) (hl : Ls[i.val]? = some (.val (.long v))) : Ends p e below F Q (T.setTop (mkF m pc Ls S)) := by
  subst hq
  exact k.by fun _ r => XS.lloadN X.here hx rfl hd hl r
theorem Es.lstore {i : Nat} {x : Int64} {l' : Array Slot} {q : Nat} (k : Ends p e below F Q (T.setTop (mkF m q l' S))) (X : Stand p l e R s m args below meth c T locs cells slots) (hx : p.tables.exec = Jvm.exec) (hd : decode c.code pc = .ok (.lstore i, 2)) (hq : pc + 2 = q) (hl : storeLocals Ls i (.long x) = some l') : Ends p e below F Q (T.setTop (mkF m pc Ls (.long x :: S))) := by
  subst hq
  exact k.by fun _ r => XS.lstore X.here hx rfl hd rfl hl r
theorem Es.lstoreN {i : Fin 4} {x : Int64} {l' : Array Slot} {q : Nat} (k : Ends p e below F Q (T.setTop (mkF m q l' S))) (X : Stand p l e R s m args below meth c T locs cells slots) (hx : p.tables.exec = Jvm.exec) (hd : decode c.code pc = .ok (.lstore_n i, 1)) (hq : pc + 1 = q) (hl : storeLocals Ls i.val (.long x) = some l') : Ends p e below F Q (T.setTop (mkF m pc Ls (.long x :: S))) := by
  subst hq
  exact k.by fun _ r => XS.lstoreN X.here hx rfl hd rfl hl r
theorem Es.dload {i : Nat} {v : UInt64} {q : Nat} (k : Ends p e below F Q (T.setTop (mkF m q Ls (.double v :: S)))) (X : Stand p l e R s m args below meth c T locs cells slots) (hx : p.tables.exec = Jvm.exec) (hd : decode c.code pc = .ok (.dload i, 2)) (hq : pc + 2 = q) (hl : Ls[i]? = some (.val (.double v))) : Ends p e below F Q (T.setTop (mkF m pc Ls S)) := by
  subst hq
  exact k.by fun _ r => XS.dload X.here hx rfl hd hl r
theorem Es.dloadN {i : Fin 4} {v : UInt64} {q : Nat} (k : Ends p e below F Q (T.setTop (mkF m q Ls (.double v :: S)))) (X : Stand p l e R s m args below meth c T locs cells slots) (hx : p.tables.exec = Jvm.exec) (hd : decode c.code pc = .ok (.dload_n i, 1)) (hq : pc + 1 = q) (hl : Ls[i.val]? = some (.val (.double v))) : Ends p e below F Q (T.setTop (mkF m pc Ls S)) := by
  subst hq
  exact k.by fun _ r => XS.dloadN X.here hx rfl hd hl r
theorem Es.dstore {i : Nat} {x : UInt64} {l' : Array Slot} {q : Nat} (k : Ends p e below F Q (T.setTop (mkF m q l' S))) (X : Stand p l e R s m args below meth c T locs cells slots) (hx : p.tables.exec = Jvm.exec) (hd : decode c.code pc = .ok (.dstore i, 2)) (hq : pc + 2 = q) (hl : storeLocals Ls i (.double x) = some l') : Ends p e below F Q (T.setTop (mkF m pc Ls (.double x :: S))) := by
  subst hq
  exact k.by fun _ r => XS.dstore X.here hx rfl hd rfl hl r
theorem Es.dstoreN {i : Fin 4} {x : UInt64} {l' : Array Slot} {q : Nat} (k : Ends p e below F Q (T.setTop (mkF m q l' S))) (X : Stand p l e R s m args below meth c T locs cells slots) (hx : p.tables.exec = Jvm.exec) (hd : decode c.code pc = .ok (.dstore_n i, 1)) (hq : pc + 1 = q) (hl : storeLocals Ls i.val (.double x) = some l') : Ends p e below F Q (T.setTop (mkF m pc Ls (.double x :: S))) := by
  subst hq
  exact k.by fun _ r => XS.dstoreN X.here hx rfl hd rfl hl r
theorem Es.aload {i : Nat} {v : Value} {q : Nat} (k : Ends p e below F Q (T.setTop (mkF m q Ls (v :: S)))) (X : Stand p l e R s m args below meth c T locs cells slots) (hx : p.tables.exec = Jvm.exec) (hd : decode c.code pc = .ok (.aload i, 2)) (hq : pc + 2 = q) (hl : Ls[i]? = some (.val v)) (hv : v.isRef = true) : Ends p e below F Q (T.setTop (mkF m pc Ls S)) := by
  subst hq
  exact k.by fun _ r => XS.aload X.here hx rfl hd hl hv r
theorem Es.aloadN {i : Fin 4} {v : Value} {q : Nat} (k : Ends p e below F Q (T.setTop (mkF m q Ls (v :: S)))) (X : Stand p l e R s m args below meth c T locs cells slots) (hx : p.tables.exec = Jvm.exec) (hd : decode c.code pc = .ok (.aload_n i, 1)) (hq : pc + 1 = q) (hl : Ls[i.val]? = some (.val v)) (hv : v.isRef = true) : Ends p e below F Q (T.setTop (mkF m pc Ls S)) := by
  subst hq
  exact k.by fun _ r => XS.aloadN X.here hx rfl hd hl hv r
theorem Es.astore {i : Nat} {x : Value} {l' : Array Slot} {q : Nat} (k : Ends p e below F Q (T.setTop (mkF m q l' S))) (X : Stand p l e R s m args below meth c T locs cells slots) (hx : p.tables.exec = Jvm.exec) (hd : decode c.code pc = .ok (.astore i, 2)) (hq : pc + 2 = q) (hv : x.isRef = true) (hl : storeLocals Ls i x = some l') : Ends p e below F Q (T.setTop (mkF m pc Ls (x :: S))) := by
  subst hq
  exact k.by fun _ r => XS.astore X.here hx rfl hd rfl hv hl r
theorem Es.astoreN {i : Fin 4} {x : Value} {l' : Array Slot} {q : Nat} (k : Ends p e below F Q (T.setTop (mkF m q l' S))) (X : Stand p l e R s m args below meth c T locs cells slots) (hx : p.tables.exec = Jvm.exec) (hd : decode c.code pc = .ok (.astore_n i, 1)) (hq : pc + 1 = q) (hv : x.isRef = true) (hl : storeLocals Ls i.val x = some l') : Ends p e below F Q (T.setTop (mkF m pc Ls (x :: S))) := by
  subst hq
  exact k.by fun _ r => XS.astoreN X.here hx rfl hd rfl hv hl r
theorem Es.iconst {i : Int} {z : Int32} {q : Nat} (k : Ends p e below F Q (T.setTop (mkF m q Ls (.int z :: S)))) (X : Stand p l e R s m args below meth c T locs cells slots) (hx : p.tables.exec = Jvm.exec) (hd : decode c.code pc = .ok (.iconst i, 1)) (hq : pc + 1 = q) (hz : Int32.ofInt i = z) : Ends p e below F Q (T.setTop (mkF m pc Ls S)) := by
  subst hq
  subst hz
  exact k.by fun _ r => XS.iconst X.here hx rfl hd r
theorem Es.bipush {i : Int} {z : Int32} {q : Nat} (k : Ends p e below F Q (T.setTop (mkF m q Ls (.int z :: S)))) (X : Stand p l e R s m args below meth c T locs cells slots) (hx : p.tables.exec = Jvm.exec) (hd : decode c.code pc = .ok (.bipush i, 2)) (hq : pc + 2 = q) (hz : (Int8.ofInt i).toInt32 = z) : Ends p e below F Q (T.setTop (mkF m pc Ls S)) := by
  subst hq
  subst hz
  exact k.by fun _ r => XS.bipush X.here hx rfl hd r
theorem Es.sipush {i : Int} {z : Int32} {q : Nat} (k : Ends p e below F Q (T.setTop (mkF m q Ls (.int z :: S)))) (X : Stand p l e R s m args below meth c T locs cells slots) (hx : p.tables.exec = Jvm.exec) (hd : decode c.code pc = .ok (.sipush i, 3)) (hq : pc + 3 = q) (hz : (Int16.ofInt i).toInt32 = z) : Ends p e below F Q (T.setTop (mkF m pc Ls S)) := by
  subst hq
  subst hz
  exact k.by fun _ r => XS.sipush X.here hx rfl hd r
theorem Es.lconst {i : Fin 2} {z : Int64} {q : Nat} (k : Ends p e below F Q (T.setTop (mkF m q Ls (.long z :: S)))) (X : Stand p l e R s m args below meth c T locs cells slots) (hx : p.tables.exec = Jvm.exec) (hd : decode c.code pc = .ok (.lconst i, 1)) (hq : pc + 1 = q) (hz : Int64.ofNat i = z) : Ends p e below F Q (T.setTop (mkF m pc Ls S)) := by
  subst hq
  subst hz
  exact k.by fun _ r => XS.lconst X.here hx rfl hd r
theorem Es.aconst_null  {q : Nat} (k : Ends p e below F Q (T.setTop (mkF m q Ls (.null :: S)))) (X : Stand p l e R s m args below meth c T locs cells slots) (hx : p.tables.exec = Jvm.exec) (hd : decode c.code pc = .ok (.aconst_null, 1)) (hq : pc + 1 = q) : Ends p e below F Q (T.setTop (mkF m pc Ls S)) := by
  subst hq
  exact k.by fun _ r => XS.aconstNull X.here hx rfl hd r
theorem Es.iadd {x y : Int32} {q : Nat} (k : Ends p e below F Q (T.setTop (mkF m q Ls (.int (x + y) :: S)))) (X : Stand p l e R s m args below meth c T locs cells slots) (hx : p.tables.exec = Jvm.exec) (hd : decode c.code pc = .ok (.iadd, 1)) (hq : pc + 1 = q) : Ends p e below F Q (T.setTop (mkF m pc Ls (.int y :: .int x :: S))) := by
  subst hq
  exact k.by fun _ r => XS.iadd X.here hx rfl hd rfl r
theorem Es.ladd {x y : Int64} {q : Nat} (k : Ends p e below F Q (T.setTop (mkF m q Ls (.long (x + y) :: S)))) (X : Stand p l e R s m args below meth c T locs cells slots) (hx : p.tables.exec = Jvm.exec) (hd : decode c.code pc = .ok (.ladd, 1)) (hq : pc + 1 = q) : Ends p e below F Q (T.setTop (mkF m pc Ls (.long y :: .long x :: S))) := by
  subst hq
  exact k.by fun _ r => XS.ladd X.here hx rfl hd rfl r
theorem Es.isub {x y : Int32} {q : Nat} (k : Ends p e below F Q (T.setTop (mkF m q Ls (.int (x - y) :: S)))) (X : Stand p l e R s m args below meth c T locs cells slots) (hx : p.tables.exec = Jvm.exec) (hd : decode c.code pc = .ok (.isub, 1)) (hq : pc + 1 = q) : Ends p e below F Q (T.setTop (mkF m pc Ls (.int y :: .int x :: S))) := by
  subst hq
  exact k.by fun _ r => XS.isub X.here hx rfl hd rfl r
theorem Es.lsub {x y : Int64} {q : Nat} (k : Ends p e below F Q (T.setTop (mkF m q Ls (.long (x - y) :: S)))) (X : Stand p l e R s m args below meth c T locs cells slots) (hx : p.tables.exec = Jvm.exec) (hd : decode c.code pc = .ok (.lsub, 1)) (hq : pc + 1 = q) : Ends p e below F Q (T.setTop (mkF m pc Ls (.long y :: .long x :: S))) := by
  subst hq
  exact k.by fun _ r => XS.lsub X.here hx rfl hd rfl r
theorem Es.imul {x y : Int32} {q : Nat} (k : Ends p e below F Q (T.setTop (mkF m q Ls (.int (x * y) :: S)))) (X : Stand p l e R s m args below meth c T locs cells slots) (hx : p.tables.exec = Jvm.exec) (hd : decode c.code pc = .ok (.imul, 1)) (hq : pc + 1 = q) : Ends p e below F Q (T.setTop (mkF m pc Ls (.int y :: .int x :: S))) := by
  subst hq
  exact k.by fun _ r => XS.imul X.here hx rfl hd rfl r
theorem Es.lmul {x y : Int64} {q : Nat} (k : Ends p e below F Q (T.setTop (mkF m q Ls (.long (x * y) :: S)))) (X : Stand p l e R s m args below meth c T locs cells slots) (hx : p.tables.exec = Jvm.exec) (hd : decode c.code pc = .ok (.lmul, 1)) (hq : pc + 1 = q) : Ends p e below F Q (T.setTop (mkF m pc Ls (.long y :: .long x :: S))) := by
  subst hq
  exact k.by fun _ r => XS.lmul X.here hx rfl hd rfl r
theorem Es.iand {x y : Int32} {q : Nat} (k : Ends p e below F Q (T.setTop (mkF m q Ls (.int (x &&& y) :: S)))) (X : Stand p l e R s m args below meth c T locs cells slots) (hx : p.tables.exec = Jvm.exec) (hd : decode c.code pc = .ok (.iand, 1)) (hq : pc + 1 = q) : Ends p e below F Q (T.setTop (mkF m pc Ls (.int y :: .int x :: S))) := by
  subst hq
  exact k.by fun _ r => XS.iand X.here hx rfl hd rfl r
theorem Es.land {x y : Int64} {q : Nat} (k : Ends p e below F Q (T.setTop (mkF m q Ls (.long (x &&& y) :: S)))) (X : Stand p l e R s m args below meth c T locs cells slots) (hx : p.tables.exec = Jvm.exec) (hd : decode c.code pc = .ok (.land, 1)) (hq : pc + 1 = q) : Ends p e below F Q (T.setTop (mkF m pc Ls (.long y :: .long x :: S))) := by
  subst hq
  exact k.by fun _ r => XS.land X.here hx rfl hd rfl r
theorem Es.ior {x y : Int32} {q : Nat} (k : Ends p e below F Q (T.setTop (mkF m q Ls (.int (x ||| y) :: S)))) (X : Stand p l e R s m args below meth c T locs cells slots) (hx : p.tables.exec = Jvm.exec) (hd : decode c.code pc = .ok (.ior, 1)) (hq : pc + 1 = q) : Ends p e below F Q (T.setTop (mkF m pc Ls (.int y :: .int x :: S))) := by
  subst hq
  exact k.by fun _ r => XS.ior X.here hx rfl hd rfl r
theorem Es.lor {x y : Int64} {q : Nat} (k : Ends p e below F Q (T.setTop (mkF m q Ls (.long (x ||| y) :: S)))) (X : Stand p l e R s m args below meth c T locs cells slots) (hx : p.tables.exec = Jvm.exec) (hd : decode c.code pc = .ok (.lor, 1)) (hq : pc + 1 = q) : Ends p e below F Q (T.setTop (mkF m pc Ls (.long y :: .long x :: S))) := by
  subst hq
  exact k.by fun _ r => XS.lor X.here hx rfl hd rfl r
theorem Es.ixor {x y : Int32} {q : Nat} (k : Ends p e below F Q (T.setTop (mkF m q Ls (.int (x ^^^ y) :: S)))) (X : Stand p l e R s m args below meth c T locs cells slots) (hx : p.tables.exec = Jvm.exec) (hd : decode c.code pc = .ok (.ixor, 1)) (hq : pc + 1 = q) : Ends p e below F Q (T.setTop (mkF m pc Ls (.int y :: .int x :: S))) := by
  subst hq
  exact k.by fun _ r => XS.ixor X.here hx rfl hd rfl r
theorem Es.lxor {x y : Int64} {q : Nat} (k : Ends p e below F Q (T.setTop (mkF m q Ls (.long (x ^^^ y) :: S)))) (X : Stand p l e R s m args below meth c T locs cells slots) (hx : p.tables.exec = Jvm.exec) (hd : decode c.code pc = .ok (.lxor, 1)) (hq : pc + 1 = q) : Ends p e below F Q (T.setTop (mkF m pc Ls (.long y :: .long x :: S))) := by
  subst hq
  exact k.by fun _ r => XS.lxor X.here hx rfl hd rfl r
theorem Es.ishl {x : Int32} {y : Int32} {q : Nat} (k : Ends p e below F Q (T.setTop (mkF m q Ls (.int (x <<< (y &&& 31)) :: S)))) (X : Stand p l e R s m args below meth c T locs cells slots) (hx : p.tables.exec = Jvm.exec) (hd : decode c.code pc = .ok (.ishl, 1)) (hq : pc + 1 = q) : Ends p e below F Q (T.setTop (mkF m pc Ls (.int y :: .int x :: S))) := by
  subst hq
  exact k.by fun _ r => XS.ishl X.here hx rfl hd rfl r
theorem Es.ishr {x : Int32} {y : Int32} {q : Nat} (k : Ends p e below F Q (T.setTop (mkF m q Ls (.int (x >>> (y &&& 31)) :: S)))) (X : Stand p l e R s m args below meth c T locs cells slots) (hx : p.tables.exec = Jvm.exec) (hd : decode c.code pc = .ok (.ishr, 1)) (hq : pc + 1 = q) : Ends p e below F Q (T.setTop (mkF m pc Ls (.int y :: .int x :: S))) := by
  subst hq
  exact k.by fun _ r => XS.ishr X.here hx rfl hd rfl r
theorem Es.iushr {x : Int32} {y : Int32} {q : Nat} (k : Ends p e below F Q (T.setTop (mkF m q Ls (.int ((x.toUInt32 >>> (y &&& 31).toUInt32).toInt32) :: S)))) (X : Stand p l e R s m args below meth c T locs cells slots) (hx : p.tables.exec = Jvm.exec) (hd : decode c.code pc = .ok (.iushr, 1)) (hq : pc + 1 = q) : Ends p e below F Q (T.setTop (mkF m pc Ls (.int y :: .int x :: S))) := by
  subst hq
  exact k.by fun _ r => XS.iushr X.here hx rfl hd rfl r
theorem Es.lshl {x : Int64} {y : Int32} {q : Nat} (k : Ends p e below F Q (T.setTop (mkF m q Ls (.long (x <<< (y &&& 0x3f).toInt64) :: S)))) (X : Stand p l e R s m args below meth c T locs cells slots) (hx : p.tables.exec = Jvm.exec) (hd : decode c.code pc = .ok (.lshl, 1)) (hq : pc + 1 = q) : Ends p e below F Q (T.setTop (mkF m pc Ls (.int y :: .long x :: S))) := by
  subst hq
  exact k.by fun _ r => XS.lshl X.here hx rfl hd rfl r
theorem Es.lshr {x : Int64} {y : Int32} {q : Nat} (k : Ends p e below F Q (T.setTop (mkF m q Ls (.long (x >>> (y &&& 0x3f).toInt64) :: S)))) (X : Stand p l e R s m args below meth c T locs cells slots) (hx : p.tables.exec = Jvm.exec) (hd : decode c.code pc = .ok (.lshr, 1)) (hq : pc + 1 = q) : Ends p e below F Q (T.setTop (mkF m pc Ls (.int y :: .long x :: S))) := by
  subst hq
  exact k.by fun _ r => XS.lshr X.here hx rfl hd rfl r
theorem Es.lushr {x : Int64} {y : Int32} {q : Nat} (k : Ends p e below F Q (T.setTop (mkF m q Ls (.long ((x.toUInt64 >>> (y &&& 0x3f).toInt64.toUInt64).toInt64) :: S)))) (X : Stand p l e R s m args below meth c T locs cells slots) (hx : p.tables.exec = Jvm.exec) (hd : decode c.code pc = .ok (.lushr, 1)) (hq : pc + 1 = q) : Ends p e below F Q (T.setTop (mkF m pc Ls (.int y :: .long x :: S))) := by
  subst hq
  exact k.by fun _ r => XS.lushr X.here hx rfl hd rfl r
theorem Es.ineg {x : Int32} {q : Nat} (k : Ends p e below F Q (T.setTop (mkF m q Ls (.int (-x) :: S)))) (X : Stand p l e R s m args below meth c T locs cells slots) (hx : p.tables.exec = Jvm.exec) (hd : decode c.code pc = .ok (.ineg, 1)) (hq : pc + 1 = q) : Ends p e below F Q (T.setTop (mkF m pc Ls (.int x :: S))) := by
  subst hq
  exact k.by fun _ r => XS.ineg X.here hx rfl hd rfl r
theorem Es.lneg {x : Int64} {q : Nat} (k : Ends p e below F Q (T.setTop (mkF m q Ls (.long (-x) :: S)))) (X : Stand p l e R s m args below meth c T locs cells slots) (hx : p.tables.exec = Jvm.exec) (hd : decode c.code pc = .ok (.lneg, 1)) (hq : pc + 1 = q) : Ends p e below F Q (T.setTop (mkF m pc Ls (.long x :: S))) := by
  subst hq
  exact k.by fun _ r => XS.lneg X.here hx rfl hd rfl r
theorem Es.i2l {x : Int32} {q : Nat} (k : Ends p e below F Q (T.setTop (mkF m q Ls (.long (x.toInt64) :: S)))) (X : Stand p l e R s m args below meth c T locs cells slots) (hx : p.tables.exec = Jvm.exec) (hd : decode c.code pc = .ok (.i2l, 1)) (hq : pc + 1 = q) : Ends p e below F Q (T.setTop (mkF m pc Ls (.int x :: S))) := by
  subst hq
  exact k.by fun _ r => XS.i2l X.here hx rfl hd rfl r
theorem Es.l2i {x : Int64} {q : Nat} (k : Ends p e below F Q (T.setTop (mkF m q Ls (.int (x.toInt32) :: S)))) (X : Stand p l e R s m args below meth c T locs cells slots) (hx : p.tables.exec = Jvm.exec) (hd : decode c.code pc = .ok (.l2i, 1)) (hq : pc + 1 = q) : Ends p e below F Q (T.setTop (mkF m pc Ls (.long x :: S))) := by
  subst hq
  exact k.by fun _ r => XS.l2i X.here hx rfl hd rfl r
theorem Es.i2b {x : Int32} {q : Nat} (k : Ends p e below F Q (T.setTop (mkF m q Ls (.int (x.toInt8.toInt32) :: S)))) (X : Stand p l e R s m args below meth c T locs cells slots) (hx : p.tables.exec = Jvm.exec) (hd : decode c.code pc = .ok (.i2b, 1)) (hq : pc + 1 = q) : Ends p e below F Q (T.setTop (mkF m pc Ls (.int x :: S))) := by
  subst hq
  exact k.by fun _ r => XS.i2b X.here hx rfl hd rfl r
theorem Es.i2s {x : Int32} {q : Nat} (k : Ends p e below F Q (T.setTop (mkF m q Ls (.int (x.toInt16.toInt32) :: S)))) (X : Stand p l e R s m args below meth c T locs cells slots) (hx : p.tables.exec = Jvm.exec) (hd : decode c.code pc = .ok (.i2s, 1)) (hq : pc + 1 = q) : Ends p e below F Q (T.setTop (mkF m pc Ls (.int x :: S))) := by
  subst hq
  exact k.by fun _ r => XS.i2s X.here hx rfl hd rfl r
theorem Es.i2c {x : Int32} {q : Nat} (k : Ends p e below F Q (T.setTop (mkF m q Ls (.int (x.toUInt32.toUInt16.toUInt32.toInt32) :: S)))) (X : Stand p l e R s m args below meth c T locs cells slots) (hx : p.tables.exec = Jvm.exec) (hd : decode c.code pc = .ok (.i2c, 1)) (hq : pc + 1 = q) : Ends p e below F Q (T.setTop (mkF m pc Ls (.int x :: S))) := by
  subst hq
  exact k.by fun _ r => XS.i2c X.here hx rfl hd rfl r
theorem Es.lcmp {x y : Int64} {q : Nat} (k : Ends p e below F Q (T.setTop (mkF m q Ls (.int (XT.cmpL x y) :: S)))) (X : Stand p l e R s m args below meth c T locs cells slots) (hx : p.tables.exec = Jvm.exec) (hd : decode c.code pc = .ok (.lcmp, 1)) (hq : pc + 1 = q) : Ends p e below F Q (T.setTop (mkF m pc Ls (.long y :: .long x :: S))) := by
  subst hq
  exact k.by fun _ r => XS.lcmp X.here hx rfl hd rfl r
theorem Es.idiv {x y : Int32} {q : Nat} (k : Ends p e below F Q (T.setTop (mkF m q Ls (.int (x / y) :: S)))) (X : Stand p l e R s m args below meth c T locs cells slots) (hx : p.tables.exec = Jvm.exec) (hd : decode c.code pc = .ok (.idiv, 1)) (hq : pc + 1 = q) (hy : y ≠ 0) : Ends p e below F Q (T.setTop (mkF m pc Ls (.int y :: .int x :: S))) := by
  subst hq
  exact k.by fun _ r => XS.idiv X.here hx rfl hd rfl hy r
theorem Es.ldiv {x y : Int64} {q : Nat} (k : Ends p e below F Q (T.setTop (mkF m q Ls (.long (x / y) :: S)))) (X : Stand p l e R s m args below meth c T locs cells slots) (hx : p.tables.exec = Jvm.exec) (hd : decode c.code pc = .ok (.ldiv, 1)) (hq : pc + 1 = q) (hy : y ≠ 0) : Ends p e below F Q (T.setTop (mkF m pc Ls (.long y :: .long x :: S))) := by
  subst hq
  exact k.by fun _ r => XS.ldiv X.here hx rfl hd rfl hy r
theorem Es.dup {x : Value} {q : Nat} (k : Ends p e below F Q (T.setTop (mkF m q Ls (x :: x :: S)))) (X : Stand p l e R s m args below meth c T locs cells slots) (hx : p.tables.exec = Jvm.exec) (hd : decode c.code pc = .ok (.dup, 1)) (hq : pc + 1 = q) (hc : x.category = 1) : Ends p e below F Q (T.setTop (mkF m pc Ls (x :: S))) := by
  subst hq
  exact k.by fun _ r => XS.dup X.here hx rfl hd rfl hc r
theorem Es.dup_x1 {x y : Value} {q : Nat} (k : Ends p e below F Q (T.setTop (mkF m q Ls (x :: y :: x :: S)))) (X : Stand p l e R s m args below meth c T locs cells slots) (hx : p.tables.exec = Jvm.exec) (hd : decode c.code pc = .ok (.dup_x1, 1)) (hq : pc + 1 = q) (hc : x.category = 1) (hc2 : y.category = 1) : Ends p e below F Q (T.setTop (mkF m pc Ls (x :: y :: S))) := by
  subst hq
  exact k.by fun _ r => XS.dupX1 X.here hx rfl hd rfl hc hc2 r
theorem Es.pop {x : Value} {q : Nat} (k : Ends p e below F Q (T.setTop (mkF m q Ls S))) (X : Stand p l e R s m args below meth c T locs cells slots) (hx : p.tables.exec = Jvm.exec) (hd : decode c.code pc = .ok (.pop, 1)) (hq : pc + 1 = q) (hc : x.category = 1) : Ends p e below F Q (T.setTop (mkF m pc Ls (x :: S))) := by
  subst hq
  exact k.by fun _ r => XS.pop X.here hx rfl hd rfl hc r
theorem Es.iinc {i : Nat} {cst : Int} {x : Int32} {l' : Array Slot} {q : Nat} (k : Ends p e below F Q (T.setTop (mkF m q l' S))) (X : Stand p l e R s m args below meth c T locs cells slots) (hx : p.tables.exec = Jvm.exec) (hd : decode c.code pc = .ok (.iinc i cst, 3)) (hq : pc + 3 = q) (hl : Ls[i]? = some (.val (.int x))) (hl' : storeLocals Ls i (.int (x + Int32.ofInt cst)) = some l') : Ends p e below F Q (T.setTop (mkF m pc Ls S)) := by
  subst hq
  exact k.by fun _ r => XS.iinc X.here hx rfl hd hl hl' r
theorem Es.ifNo {cd : ClassFile.Cond} {o : Int} {x : Int32} {q : Nat} (k : Ends p e below F Q (T.setTop (mkF m q Ls S))) (X : Stand p l e R s m args below meth c T locs cells slots) (hx : p.tables.exec = Jvm.exec) (hd : decode c.code pc = .ok (.ifCond cd o, 3)) (hq : pc + 3 = q) (hc : ifCond.holds cd x = false) : Ends p e below F Q (T.setTop (mkF m pc Ls (.int x :: S))) := by
  subst hq
  exact k.by fun _ r => XS.ifNo X.here hx rfl hd rfl hc r
theorem Es.icmpNo {cd : ClassFile.Cond} {o : Int} {x y : Int32} {q : Nat} (k : Ends p e below F Q (T.setTop (mkF m q Ls S))) (X : Stand p l e R s m args below meth c T locs cells slots) (hx : p.tables.exec = Jvm.exec) (hd : decode c.code pc = .ok (.if_icmp cd o, 3)) (hq : pc + 3 = q) (hc : if_icmp.holds cd x y = false) : Ends p e below F Q (T.setTop (mkF m pc Ls (.int y :: .int x :: S))) := by
  subst hq
  exact k.by fun _ r => XS.icmpNo X.here hx rfl hd rfl hc r
theorem Es.ifnonnullNo {o : Int} {q : Nat} (k : Ends p e below F Q (T.setTop (mkF m q Ls S))) (X : Stand p l e R s m args below meth c T locs cells slots) (hx : p.tables.exec = Jvm.exec) (hd : decode c.code pc = .ok (.ifnonnull o, 3)) (hq : pc + 3 = q) : Ends p e below F Q (T.setTop (mkF m pc Ls (.null :: S))) := by
  subst hq
  exact k.by fun _ r => XS.ifnonnullNo X.here hx rfl hd rfl r
theorem Es.goto {o : Int} {q : Nat} (k : Ends p e below F Q (T.setTop (mkF m q Ls S))) (X : Stand p l e R s m args below meth c T locs cells slots) (hx : p.tables.exec = Jvm.exec) (hd : decode c.code pc = .ok (.goto o, 3)) (ho : 0 ≤ (pc : Int) + o) (hp : ((pc : Int) + o).toNat = q) : Ends p e below F Q (T.setTop (mkF m pc Ls S)) :=
  k.by fun _ r => XS.goto X.here hx rfl (pc0 := pc) (pc' := q) rfl hd ho hp r
theorem Es.ifYes {cd : ClassFile.Cond} {o : Int} {x : Int32} {q : Nat} (k : Ends p e below F Q (T.setTop (mkF m q Ls S))) (X : Stand p l e R s m args below meth c T locs cells slots) (hx : p.tables.exec = Jvm.exec) (hd : decode c.code pc = .ok (.ifCond cd o, 3)) (hc : ifCond.holds cd x = true) (ho : 0 ≤ (pc : Int) + o) (hp : ((pc : Int) + o).toNat = q) : Ends p e below F Q (T.setTop (mkF m pc Ls (.int x :: S))) :=
  k.by fun _ r => XS.ifYes X.here hx rfl (pc0 := pc) (pc' := q) rfl hd rfl hc ho hp r
theorem Es.icmpYes {cd : ClassFile.Cond} {o : Int} {x y : Int32} {q : Nat} (k : Ends p e below F Q (T.setTop (mkF m q Ls S))) (X : Stand p l e R s m args below meth c T locs cells slots) (hx : p.tables.exec = Jvm.exec) (hd : decode c.code pc = .ok (.if_icmp cd o, 3)) (hc : if_icmp.holds cd x y = true) (ho : 0 ≤ (pc : Int) + o) (hp : ((pc : Int) + o).toNat = q) : Ends p e below F Q (T.setTop (mkF m pc Ls (.int y :: .int x :: S))) :=
  k.by fun _ r => XS.icmpYes X.here hx rfl (pc0 := pc) (pc' := q) rfl hd rfl hc ho hp r
theorem Es.ifnonnullYes {o : Int} {b : Addr} {q : Nat} (k : Ends p e below F Q (T.setTop (mkF m q Ls S))) (X : Stand p l e R s m args below meth c T locs cells slots) (hx : p.tables.exec = Jvm.exec) (hd : decode c.code pc = .ok (.ifnonnull o, 3)) (ho : 0 ≤ (pc : Int) + o) (hp : ((pc : Int) + o).toNat = q) : Ends p e below F Q (T.setTop (mkF m pc Ls (.ref b :: S))) :=
  k.by fun _ r => XS.ifnonnullYes X.here hx rfl (pc0 := pc) (pc' := q) rfl hd rfl ho hp r
theorem Es.irem {x y : Int32} {q : Nat} (k : Ends p e below F Q (T.setTop (mkF m q Ls (.int (x % y) :: S)))) (X : Stand p l e R s m args below meth c T locs cells slots) (hx : p.tables.exec = Jvm.exec) (hd : decode c.code pc = .ok (.irem, 1)) (hq : pc + 1 = q) (hy : y ≠ 0) : Ends p e below F Q (T.setTop (mkF m pc Ls (.int y :: .int x :: S))) := by
  subst hq
  exact k.by fun _ r => iremM X hx rfl hd rfl hy r
theorem Es.lrem {x y : Int64} {q : Nat} (k : Ends p e below F Q (T.setTop (mkF m q Ls (.long (x % y) :: S)))) (X : Stand p l e R s m args below meth c T locs cells slots) (hx : p.tables.exec = Jvm.exec) (hd : decode c.code pc = .ok (.lrem, 1)) (hq : pc + 1 = q) (hy : y ≠ 0) : Ends p e below F Q (T.setTop (mkF m pc Ls (.long y :: .long x :: S))) := by
  subst hq
  exact k.by fun _ r => lremM X hx rfl hd rfl hy r
theorem Es.ldc {own : String} {index : Nat} {v : Int32} {q : Nat} (k : Ends p e below F Q (T.setTop (mkF m q Ls (.int v :: S)))) (X : Stand p l e R s m args below meth c T locs cells slots) (hx : p.tables.exec = Jvm.exec) (hown : s.vm.findClass own = some m.cls) (w : (Cond.constant own index v).before args s = true) (hd : decode c.code pc = .ok (.ldc index, 2)) (hq : pc + 2 = q) : Ends p e below F Q (T.setTop (mkF m pc Ls S)) := by
  subst hq
  exact k.by (X.ldcInt hx hown w (g := mkF m pc Ls S) rfl hd)
theorem Es.ldc2 {own : String} {index : Nat} {v : Int64} {q : Nat} (k : Ends p e below F Q (T.setTop (mkF m q Ls (.long v :: S)))) (X : Stand p l e R s m args below meth c T locs cells slots) (hx : p.tables.exec = Jvm.exec) (hown : s.vm.findClass own = some m.cls) (w : (Cond.constantLong own index v).before args s = true) (hd : decode c.code pc = .ok (.ldc2_w index, 3)) (hq : pc + 3 = q) : Ends p e below F Q (T.setTop (mkF m pc Ls S)) := by
  subst hq
  exact k.by (X.ldc2Long hx hown w (g := mkF m pc Ls S) rfl hd)
end OwnSteps
section OwnHeap
variable {p : Program} {l : Launch} {e : Env} {R : Room} {s : State} {m : MethodId} {args : Array Value} {below : List Frame} {meth : Method} {c : Code} {T : State} {locs : List Loc} {cells slots : Nat}
variable {F : Outcome → State → List Loc → Prop} {Q : Option Value → Heap → List Loc → Prop} {kc ks : Nat} {Z : State} {a0 : Array Value} {h h' : Heap} {a b : Addr} {ty : FieldType} {n sl : Nat} {g : Nat → Int32} {v : Value} {j x : Int32} {pc : Nat} {Ls : Array Slot} {S : List Value}
/-- an array of n small values: place j holds g j -/
def Ary (Z : State) (h : Heap) (a : Addr) (ty : FieldType) (n : Nat) (g : Nat → Int32) : Prop := ∃ cl : Cell, Arr Z h a cl ty ∧ cl.slots.size = n ∧ n < 2 ^ 31 ∧ ∀ j, j < n → cl.slots[j]? = some (.int (g j))
def upd (g : Nat → Int32) (j : Nat) (x : Int32) : Nat → Int32 := fun i => if i = j then x else g i
theorem Ary.lt (V : Ary Z h a ty n g) : a < h.size := V.elim fun _ q => q.1.lt
theorem Ary.ext (V : Ary Z h a ty n g) (E : Ext h h') : Ary Z h' a ty n g := by obtain ⟨c, A, r⟩ := V; exact ⟨c, A.ext E, r⟩
theorem Ary.other (V : Ary Z h b ty n g) (W : Wr h h' a sl v) (q : b ≠ a) : Ary Z h' b ty n g := by obtain ⟨c, A, r⟩ := V; exact ⟨c, A.other W q, r⟩
theorem Ary.keep {ws : List Addr} (V : Ary Z h a ty n g) (K : Keep h h' ws) (q : a ∉ ws) : Ary Z h' a ty n g := by obtain ⟨c, A, r⟩ := V; exact ⟨c, ⟨K.2.1 a c A.1 q, A.2⟩, r⟩
theorem Ary.set (V : Ary Z h a ty n g) (W : Wr h h' a sl (.int x)) : Ary Z h' a ty n (upd g sl x) := by
  obtain ⟨c, A, S, M, H⟩ := V
  refine ⟨_, A.same W, by rw [sz_set]; exact S, M, fun i hi => ?_⟩
  have hi' : i < c.slots.size := by omega
  simp only [Cell.setSlot, Array.getElem?_setIfInBounds, upd]
  by_cases q : i = sl
  · subst q; simp [hi']
  · have q' : ¬ sl = i := fun e => q e.symm
    simp [q, q']; exact H i hi
theorem Ary.inb {cl : Cell} (S : cl.slots.size = n) (hj : 0 ≤ j.toInt ∧ j.toInt < n) : ¬ (j < 0 ∨ cl.slots.size ≤ j.toNatClampNeg) := by
  have e0 : (0 : Int32).toInt = 0 := rfl
  simp only [Int32.lt_iff_toInt_lt, Int32.toNatClampNeg] at *; omega
theorem Ary.at {cl : Cell} (H : ∀ j, j < n → cl.slots[j]? = some (.int (g j))) (hj : 0 ≤ j.toInt ∧ j.toInt < n) : cl.slots[j.toNatClampNeg]? = some (.int (g j.toNatClampNeg)) :=
  H _ (by simp only [Int32.toNatClampNeg]; omega)
theorem Ends.iald (k : Ends p e below F Q (T.setTop (mkF m (pc + 1) Ls (.int (g j.toNatClampNeg) :: S)))) (X : Stand p l e R s m args below meth c T locs cells slots) (hx : p.tables.exec = Jvm.exec) (hZ : Z.Warmed39 s.vm) (eT : T.heap = h) (V : Ary Z h a .int n g) (hj : 0 ≤ j.toInt ∧ j.toInt < n)
    (hd : decode c.code pc = .ok (.iaload, 1)) : Ends p e below F Q (T.setTop (mkF m pc Ls (.int j :: .ref a :: S))) := by
  obtain ⟨cl, A, S1, M, H⟩ := V
  exact k.by fun t q => X.iaload hx (j := j) (by rw [eT]; exact A.1) (State.isArrayOf_alike hZ.alike A.2.1) A.2.2 (Ary.inb S1 hj) (Ary.at H hj) (g := mkF m pc Ls (.int j :: .ref a :: S)) rfl rfl hd t q
theorem Ends.bald (k : Ends p e below F Q (T.setTop (mkF m (pc + 1) Ls (.int (g j.toNatClampNeg) :: S)))) (X : Stand p l e R s m args below meth c T locs cells slots) (hx : p.tables.exec = Jvm.exec) (hZ : Z.Warmed39 s.vm) (eT : T.heap = h) (V : Ary Z h a .byte n g) (hj : 0 ≤ j.toInt ∧ j.toInt < n)
    (hd : decode c.code pc = .ok (.baload, 1)) : Ends p e below F Q (T.setTop (mkF m pc Ls (.int j :: .ref a :: S))) := by
  obtain ⟨cl, A, S1, M, H⟩ := V
  exact k.by fun t q => X.baloadBytes hx (j := j) (by rw [eT]; exact A.1) (State.isArrayOf_alike hZ.alike A.2.1) A.2.2 (Ary.inb S1 hj) (Ary.at H hj) (g := mkF m pc Ls (.int j :: .ref a :: S)) rfl rfl hd t q
theorem Ends.alen {z : Int32} (k : Ends p e below F Q (T.setTop (mkF m (pc + 1) Ls (.int z :: S)))) (X : Stand p l e R s m args below meth c T locs cells slots) (hx : p.tables.exec = Jvm.exec) (hZ : Z.Warmed39 s.vm) (eT : T.heap = h) (V : Ary Z h a ty n g) (hz : z.toInt = n)
    (hd : decode c.code pc = .ok (.arraylength, 1)) : Ends p e below F Q (T.setTop (mkF m pc Ls (.ref a :: S))) := by
  obtain ⟨cl, A, S1, M, H⟩ := V
  have e1 : cl.slots.size.toInt32 = z := by
    rw [S1]; apply Int32.toInt_inj.mp; rw [hz]; exact len_toInt M
  exact k.by fun t q => X.arraylength hx (by rw [eT]; exact A.1) (State.isArrayOf_alike hZ.alike A.2.1) (g := mkF m pc Ls (.ref a :: S)) rfl rfl hd t (by rw [e1]; exact q)
theorem stIA (X : Stand p l e R s m args below meth c T locs cells slots) (hx : p.tables.exec = Jvm.exec) (hZ : Z.Warmed39 s.vm) (eT : T.heap = h) (V : Ary Z h a .int n g) (hj : 0 ≤ j.toInt ∧ j.toInt < n) (hd : decode c.code pc = .ok (.iastore, 1)) :
    ∃ T' h', Stand p l e R s m args below meth c T' (locs ++ [⟨a, j.toNatClampNeg⟩]) cells slots ∧ T'.heap = h' ∧ Wr h h' a j.toNatClampNeg (.int x) ∧ Ary Z h' a .int n (upd g j.toNatClampNeg x) ∧
      ∀ t, Steps p.tables e below (T'.setTop (mkF m (pc + 1) Ls S)) t → Steps p.tables e below (T.setTop (mkF m pc Ls (.int x :: .int j :: .ref a :: S))) t := by
  have V' := V
  obtain ⟨cl, A, S1, M, H⟩ := V
  obtain ⟨T', h', X', e', W, st⟩ := stI X hx hZ eT A (j := j) (x := x) (Ary.inb S1 hj) (g := mkF m pc Ls (.int x :: .int j :: .ref a :: S)) rfl rfl hd
  exact ⟨T', h', X', e', W, V'.set W, st⟩
theorem stBA (X : Stand p l e R s m args below meth c T locs cells slots) (hx : p.tables.exec = Jvm.exec) (hZ : Z.Warmed39 s.vm) (eT : T.heap = h) (V : Ary Z h a .byte n g) (hj : 0 ≤ j.toInt ∧ j.toInt < n) (hd : decode c.code pc = .ok (.bastore, 1)) :
    ∃ T' h', Stand p l e R s m args below meth c T' (locs ++ [⟨a, j.toNatClampNeg⟩]) cells slots ∧ T'.heap = h' ∧ Wr h h' a j.toNatClampNeg (.int x.toInt8.toInt32) ∧ Ary Z h' a .byte n (upd g j.toNatClampNeg x.toInt8.toInt32) ∧
      ∀ t, Steps p.tables e below (T'.setTop (mkF m (pc + 1) Ls S)) t → Steps p.tables e below (T.setTop (mkF m pc Ls (.int x :: .int j :: .ref a :: S))) t := by
  have V' := V
  obtain ⟨cl, A, S1, M, H⟩ := V
  obtain ⟨T', h', X', e', W, st⟩ := stB X hx hZ eT A (j := j) (x := x) (Ary.inb S1 hj) (g := mkF m pc Ls (.int x :: .int j :: .ref a :: S)) rfl rfl hd
  exact ⟨T', h', X', e', W, V'.set W, st⟩
theorem newAr (X : Stand p l e R s m args below meth c T locs cells slots) (hx : p.tables.exec = Jvm.exec) (hZ : Z.Warmed39 s.vm) {aty : ArrayType} (w : (Cond.arrayClass (newarray.typeOf aty)).before a0 Z = true) (hty : defaultValue (newarray.typeOf aty) = .int 0) (eT : T.heap = h) {z : Int32} {cap : Nat} (hz : z.toInt = n) (hcap : n ≤ cap)
    (hb : cap * 8 ≤ 536870912) (hc : cells + 1 ≤ R.cells) (hl : slots + cap ≤ R.slots) (hd : decode c.code pc = .ok (.newarray aty, 2)) :
    ∃ T' h', Stand p l e R s m args below meth c T' locs (cells + 1) (slots + cap) ∧ T'.heap = h' ∧ Ext h h' ∧ Ary Z h' h.size (newarray.typeOf aty) n (fun _ => 0) ∧
      ∀ t, Steps p.tables e below (T'.setTop (mkF m (pc + 2) Ls (.ref h.size :: S))) t → Steps p.tables e below (T.setTop (mkF m pc Ls (.int z :: S))) t := by
  have e0 : (0 : Int32).toInt = 0 := rfl
  have hz2 : z.toNatClampNeg = n := by simp only [Int32.toNatClampNeg]; omega
  have rz := rng32 z
  obtain ⟨T', h', cA, X', e', E, A, st⟩ := newP X hx hZ w eT (g := mkF m pc Ls (.int z :: S)) rfl hd rfl (by rw [Int32.lt_iff_toInt_lt]; omega) (cap := cap) (by omega) hb hc hl
  refine ⟨T', h', X', e', E, ⟨_, A, by rw [sz_new]; exact hz2, by omega, fun j hj => ?_⟩, st⟩
  simp only [newA, hz2, hty]
  simp [hj]
theorem newArE (X : Stand p l e R s m args below meth c T locs cells slots) (hx : p.tables.exec = Jvm.exec) (hZ : Z.Warmed39 s.vm) {aty : ArrayType} {C : String} (hC : "[" ++ (newarray.typeOf aty).toString = C) (w : (Cond.arrayClass (newarray.typeOf aty)).before a0 Z = true) (hty : defaultValue (newarray.typeOf aty) = .int 0) (eT : T.heap = h) {z : Int32} {cap : Nat} (hz : z.toInt = n) (hcap : n ≤ cap)
    (hb : cap * 8 ≤ 536870912) (hc : cells + 1 ≤ R.cells) (hl : slots + cap ≤ R.slots) (hd : decode c.code pc = .ok (.newarray aty, 2)) :
    ∃ T' h', Stand p l e R s m args below meth c T' locs (cells + 1) (slots + cap) ∧ T'.heap = h' ∧ Ext h h' ∧ Ary Z h' h.size (newarray.typeOf aty) n (fun _ => 0) ∧ Exa Z h' h.size C ∧
      ∀ t, Steps p.tables e below (T'.setTop (mkF m (pc + 2) Ls (.ref h.size :: S))) t → Steps p.tables e below (T.setTop (mkF m pc Ls (.int z :: S))) t := by
  have e0 : (0 : Int32).toInt = 0 := rfl
  have hz2 : z.toNatClampNeg = n := by simp only [Int32.toNatClampNeg]; omega
  have rz := rng32 z
  have hcb : componentBytes (newarray.typeOf aty) ≤ 8 := by cases aty <;> decide
  have hby : z.toNatClampNeg * componentBytes (newarray.typeOf aty) ≤ 536870912 := by
    rw [hz2]; exact Nat.le_trans (Nat.mul_le_mul hcap hcb) hb
  obtain ⟨cA, kA, comp, q1, q2, q3, X', st⟩ := X.newarrayPrim hx (mvA hZ w) (g := mkF m pc Ls (.int z :: S)) rfl hd rfl (by rw [Int32.lt_iff_toInt_lt]; omega) hby hc (by omega)
  subst eT
  have q1' : Z.vm.findClass C = some cA := by rw [← hC, ← hZ.alike.findClass]; exact q1
  obtain ⟨kZ, r1, -⟩ := Vm.findClass_spec q1'
  obtain ⟨k2, r2, r3⟩ := hZ.alike.2.2 _ _ r1
  have r4 : kA = k2 := Option.some.inj (q2.symm.trans r2)
  have hkind : kZ.kind = .array comp (newarray.typeOf aty) := by rw [← q3, r4, r3]
  have hat : (T.heap.push { cls := cA, slots := Array.replicate z.toNatClampNeg (defaultValue (newarray.typeOf aty)), vm := .none })[T.heap.size]? = some { cls := cA, slots := Array.replicate z.toNatClampNeg (defaultValue (newarray.typeOf aty)), vm := .none } := by simp
  refine ⟨_, _, X'.more (Nat.le_refl _) (by omega), rfl, ⟨?_, fun x y q => ?_⟩, ⟨_, ⟨hat, ⟨by simp, kZ, r1, comp, hkind⟩, by simp⟩, by simp [hz2], by omega, fun j hj => ?_⟩, ⟨_, kZ, hat, q1', r1, rfl, fun q => by rw [hkind] at q; cases q⟩, st⟩
  · show T.heap.size ≤ (T.heap.push _).size
    simp
  · show (T.heap.push _)[x]? = some y
    have hx' := (Array.getElem?_eq_some_iff.mp q).1
    rw [Array.getElem?_push_lt hx', ← q, Array.getElem?_eq_getElem hx']
  · simp [hz2, hty, hj]
theorem Ary.fitC {cl : Cell} (A : Arr Z h a cl .int) (S1 : cl.slots.size = n) (H : ∀ j, j < n → cl.slots[j]? = some (.int (g j))) : FitC Z cl := fun i v hv => by
  obtain ⟨-, k, hk, comp, hkind⟩ := A.2.1
  have hi := (Array.getElem?_eq_some_iff.mp hv).1
  have q := (H i (by omega)).symm.trans hv
  cases q
  simp [State.fitsSlot, State.slotType?, hk, hkind, fits]
theorem cloneAr (X : Stand p l e R s m args below meth c T locs cells slots) (hx : p.tables.exec = Jvm.exec) (hZ : Z.Warmed39 s.vm) {own : String} {index : Nat} (hown : s.vm.findClass own = some m.cls) (hml : Ls.size = c.maxLocals)
    (w1 : (Cond.methodLink own index ⟨"[I", "clone", "()Ljava/lang/Object;"⟩).before a0 Z = true) (w2 : (Cond.sameMethod "[I" "java/lang/Object" "clone" "()Ljava/lang/Object;").before a0 Z = true) (w3 : (Cond.native ⟨"java/lang/Object", "clone", "()Ljava/lang/Object;"⟩).before a0 Z = true)
    (w4 : (Cond.instanceMethod ⟨"java/lang/Object", "clone", "()Ljava/lang/Object;"⟩).before a0 Z = true) (w5 : (Cond.selects "[I" ⟨"[I", "clone", "()Ljava/lang/Object;"⟩ ⟨"java/lang/Object", "clone", "()Ljava/lang/Object;"⟩).before a0 Z = true) (w6 : (Cond.castable "[I" "java/lang/Cloneable").before a0 Z = true)
    (eT : T.heap = h) (V : Ary Z h a .int n g) (E : Exa Z h a "[I") {W cap : Nat} (hW : 2 * 0 + (S.map fun v => v.category).sum ≤ W) (hcap : n ≤ cap) (hf : 1 ≤ R.frames) (hl : W + 14 ≤ R.locals) (hc : cells + 1 ≤ R.cells) (hsl : slots + cap ≤ R.slots) (hd : decode c.code pc = .ok (.invokevirtual index, 3)) :
    ∃ T' h', Stand p l e R s m args below meth c T' locs (cells + 1) (slots + cap) ∧ T'.heap = h' ∧ Ext h h' ∧ Ary Z h' h.size .int n g ∧ Exa Z h' h.size "[I" ∧
      ∀ t, Steps p.tables e below (T'.setTop (mkF m (pc + 3) Ls (.ref h.size :: S))) t → Steps p.tables e below (T.setTop (mkF m pc Ls (.ref a :: S))) t := by
  obtain ⟨cl, A, S1, M, H⟩ := V
  obtain ⟨T', h', X', e', E', A', Ex, st⟩ := cloneA X hx hZ hown w1 w2 w3 w4 w5 w6 eT A E (Ary.fitC A S1 H) (g := mkF m pc Ls (.ref a :: S)) rfl hml rfl hd hf (W := W) (cap := cap) hW hl (by omega) hc hsl
  exact ⟨T', h', X', e', E', ⟨_, A', S1, M, H⟩, Ex, st⟩
end OwnHeap
theorem own_selp {s : State} {args args' : Array Value} {y z : MethodName} {C : String} (hz : z.cls = y.cls) (w : (Jvm.Cond.selects C z z).before args s = true) (hpriv : s.PrivateAt y) (hinst : (Jvm.Cond.instanceMethod y).before args' s = true) (hy : y.cls ≠ "java/lang/invoke/MethodHandle" ∧ y.cls ≠ "java/lang/invoke/VarHandle") : (Jvm.Cond.selects y.cls y y).before args' s = true := by
  obtain ⟨c2, r2, m2, -, -, q3, -, kP, hkP, hkPi⟩ := Cond.selects_spec w
  exact Jvm.Stand.selects_self_of_private (hz ▸ findClass_of_methodNamed q3) hkP hkPi hpriv hinst hy
/-- a method that writes into ws alone: what it returns, the rest kept, what P says of the heap that it leaves -/
def QK (V : Option Value) (h0 : Heap) (ws : List Addr) (n0 : Nat) (P : Heap → Prop) (v : Option Value) (h : Heap) (L : List Loc) : Prop := v = V ∧ Fr n0 L ∧ Keep h0 h ws ∧ P h

/-- the input at o: its octets, its place, its end, its kind -/
def OI (Z : State) (h : Heap) (o b : Addr) (nx en t : Int32) : Prop := Exa Z h o "com/example/tagwright/tagwright/codec/OctetInput" ∧ Fld Z h o "com/example/tagwright/tagwright/codec/OctetInput" "octets" "[B" (.ref b) ∧ Fld Z h o "com/example/tagwright/tagwright/codec/OctetInput" "next" "I" (.int nx) ∧ Fld Z h o "com/example/tagwright/tagwright/codec/OctetInput" "end" "I" (.int en) ∧ Fld Z h o "com/example/tagwright/tagwright/codec/OctetInput" "toEndOfContents" "Z" (.int t) ∧ Fld Z h o "com/example/tagwright/tagwright/codec/OctetInput" "pieceIndexes" "[I" .null ∧ Fld Z h o "com/example/tagwright/tagwright/codec/OctetInput" "pieceOffsets" "[I" .null
theorem OI.keep {Z : State} {h h' : Heap} {o b : Addr} {nx en t : Int32} {ws : List Addr} (H : OI Z h o b nx en t) (K : Keep h h' ws) (q : o ∉ ws) : OI Z h' o b nx en t :=
  ⟨H.1.keep K, H.2.1.keep K q, H.2.2.1.keep K q, H.2.2.2.1.keep K q, H.2.2.2.2.1.keep K q, H.2.2.2.2.2.1.keep K q, H.2.2.2.2.2.2.keep K q⟩
theorem OI.ext {Z : State} {h h' : Heap} {o b : Addr} {nx en t : Int32} (H : OI Z h o b nx en t) (E : Ext h h') : OI Z h' o b nx en t :=
  ⟨Exa.ext E H.1, Fld.ext E H.2.1, Fld.ext E H.2.2.1, Fld.ext E H.2.2.2.1, Fld.ext E H.2.2.2.2.1, Fld.ext E H.2.2.2.2.2.1, Fld.ext E H.2.2.2.2.2.2⟩
theorem OI.lt {Z : State} {h : Heap} {o b : Addr} {nx en t : Int32} (H : OI Z h o b nx en t) : o < h.size := H.1.lt
def QN (Z : State) (h0 : Heap) (n0 : Nat) (b : Addr) (nx en : Int32) (v : Option Value) (h : Heap) (L : List Loc) : Prop := ∃ x : Addr, v = some (.ref x) ∧ Fr n0 L ∧ Keep h0 h [] ∧ h0.size ≤ x ∧ OI Z h x b nx en 1
theorem own_str {Z : State} {a0 : Array Value} (hw : ∀ d ∈ tables_1, d.before a0 Z = true) : ∀ d ∈ Bundle.stringAtoms, d.before a0 Z = true := by
  intro d hd
  simp only [Bundle.stringAtoms, List.mem_cons, List.not_mem_nil, or_false] at hd
  rcases hd with rfl | rfl | rfl | rfl | rfl | rfl | rfl
  · exact (hw _ (List.mem_of_getElem? (i := 9) rfl))
  · exact (hw _ (List.mem_of_getElem? (i := 10) rfl))
  · exact (hw _ (List.mem_of_getElem? (i := 1) rfl))
  · exact (hw _ (List.mem_of_getElem? (i := 11) rfl))
  · exact (hw _ (List.mem_of_getElem? (i := 12) rfl))
  · exact (hw _ (List.mem_of_getElem? (i := 13) rfl))
  · exact (hw _ (List.mem_of_getElem? (i := 14) rfl))
theorem d2_0 : decode jdk_31_method_11_code 0 = .ok (.aload_n 0, 1) := by decide +kernel
theorem d2_1 : decode jdk_31_method_11_code 1 = .ok (.ifnonnull 12, 3) := by decide +kernel
theorem d2_13 : decode jdk_31_method_11_code 13 = .ok (.aload_n 0, 1) := by decide +kernel
theorem d2_14 : decode jdk_31_method_11_code 14 = .ok (.areturn, 1) := by decide +kernel
theorem ef_rm2 (m : MethodId) (x0 : Addr) (x1 : Addr) : entryFrame m #[(.ref x0), (.ref x1)] 2 = mkF m 0 #[.val (.ref x0), .val (.ref x1)] [] := by first | (simp [entryFrame, mkF, argsToLocals, Value.category]; done) | rfl
theorem pn_0 : plainName "java/util/Objects" = true := by first | (simp [plainName, overriddenIn]; done) | decide +kernel
set_option maxRecDepth 65536 in
set_option maxHeartbeats 40000000 in
theorem rm2 (l : Launch) (Z : State) (a0 : Array Value) (hw : ∀ d ∈ tables_1, d.before a0 Z = true) (ws : List Jvm.Cond) (x0 : Addr) (x1 : Addr) (h0 : Heap) (n0 : Nat) (Z0 : n0 ≤ h0.size) :
    MetFree l (⟨"java/util/Objects", "requireNonNull", "(Ljava/lang/Object;Ljava/lang/String;)Ljava/lang/Object;"⟩ : MethodName) (head1 (Jvm.Cond.code (⟨"java/util/Objects", "requireNonNull", "(Ljava/lang/Object;Ljava/lang/String;)Ljava/lang/Object;"⟩ : MethodName) jdk_31_method_11_code 2 (some (.object "java/lang/Object")) :: ws) ({ frames := 0, cells := 0, slots := 0, locals := 0 } : Room)) (fun a U => a = #[(.ref x0), (.ref x1)] ∧ Z.Warmed39 U.vm ∧ U.heap = h0) (fun _ _ _ _ _ => True) (fun _ U o U' => ∃ v L, o = .returned v ∧ (QP (some (.ref x0)) h0 n0) v U'.heap L ∧ FrameEnd U o U' L ({ frames := 0, cells := 0, slots := 0, locals := 0 } : Room).cells ({ frames := 0, cells := 0, slots := 0, locals := 0 } : Room).slots) := by
  refine MetFree.of_bodySF (plainFor_of_name pn_0) hisR ?_
  intro p e s m args below meth c s₁ Bd hml0 hP hK
  obtain ⟨rfl, hZ, hh⟩ := hP
  have hx := Bd.exec
  have hby := Bd.bytes
  have hml : c.maxLocals = 2 := hml0
  have hown : s.vm.findClass "java/util/Objects" = some m.cls := findClass_of_methodNamed Bd.named
  have hnm := (name_of_methodNamed Bd.named Bd.method).1
  have X0 : Stand p l e ({ frames := 0, cells := 0, slots := 0, locals := 0 } : Room) s m #[(.ref x0), (.ref x1)] below meth c s₁ [] 0 0 := Stand.of_body Bd
  have e0 : s₁.heap = h0 := by rw [← hh, Bd.state]; rfl
  have N0 := Fr.nil n0
  show Ends p e below (FE s ({ frames := 0, cells := 0, slots := 0, locals := 0 } : Room).cells ({ frames := 0, cells := 0, slots := 0, locals := 0 } : Room).slots) (QP (some (.ref x0)) h0 n0) (s₁.setTop (entryFrame m #[(.ref x0), (.ref x1)] 2))
  rw [ef_rm2 m x0 x1]
  show Ends p e below _ _ (s₁.setTop (mkF m 0 #[.val (.ref x0), .val (.ref x1)] []))
  refine Es.aloadN (q := 1) ?_ X0 hx (hb hby d2_0) rfl rfl rfl
  refine Es.ifnonnullYes (q := 13) ?_ X0 hx (hb hby d2_1) (by decide) (by decide)
  refine Es.aloadN (q := 14) ?_ X0 hx (hb hby d2_13) rfl rfl rfl
  exact Ends.retA X0 hx Bd.notSynchronized Bd.returns rfl (fun _ => rfl) (hb hby d2_14) (by rw [e0]; exact ⟨rfl, N0, rfl⟩) (by decide) (by decide)

theorem d3_0 : decode prog_16_method_2_code 0 = .ok (.aload_n 0, 1) := by decide +kernel
theorem d3_1 : decode prog_16_method_2_code 1 = .ok (.invokespecial 17, 3) := by decide +kernel
theorem d3_4 : decode prog_16_method_2_code 4 = .ok (.aload_n 0, 1) := by decide +kernel
theorem d3_5 : decode prog_16_method_2_code 5 = .ok (.aload_n 1, 1) := by decide +kernel
theorem d3_6 : decode prog_16_method_2_code 6 = .ok (.putfield 22, 3) := by decide +kernel
theorem d3_9 : decode prog_16_method_2_code 9 = .ok (.aload_n 0, 1) := by decide +kernel
theorem d3_10 : decode prog_16_method_2_code 10 = .ok (.iload_n 2, 1) := by decide +kernel
theorem d3_11 : decode prog_16_method_2_code 11 = .ok (.putfield 24, 3) := by decide +kernel
theorem d3_14 : decode prog_16_method_2_code 14 = .ok (.aload_n 0, 1) := by decide +kernel
theorem d3_15 : decode prog_16_method_2_code 15 = .ok (.iload_n 2, 1) := by decide +kernel
theorem d3_16 : decode prog_16_method_2_code 16 = .ok (.putfield 28, 3) := by decide +kernel
theorem d3_19 : decode prog_16_method_2_code 19 = .ok (.aload_n 0, 1) := by decide +kernel
theorem d3_20 : decode prog_16_method_2_code 20 = .ok (.iload_n 3, 1) := by decide +kernel
theorem d3_21 : decode prog_16_method_2_code 21 = .ok (.putfield 31, 3) := by decide +kernel
theorem d3_24 : decode prog_16_method_2_code 24 = .ok (.aload_n 0, 1) := by decide +kernel
theorem d3_25 : decode prog_16_method_2_code 25 = .ok (.iload 4, 2) := by decide +kernel
theorem d3_27 : decode prog_16_method_2_code 27 = .ok (.putfield 34, 3) := by decide +kernel
theorem d3_30 : decode prog_16_method_2_code 30 = .ok (.aload_n 0, 1) := by decide +kernel
theorem d3_31 : decode prog_16_method_2_code 31 = .ok (.aload 5, 2) := by decide +kernel
theorem d3_33 : decode prog_16_method_2_code 33 = .ok (.putfield 38, 3) := by decide +kernel
theorem d3_36 : decode prog_16_method_2_code 36 = .ok (.aload_n 0, 1) := by decide +kernel
theorem d3_37 : decode prog_16_method_2_code 37 = .ok (.aload 6, 2) := by decide +kernel
theorem d3_39 : decode prog_16_method_2_code 39 = .ok (.putfield 42, 3) := by decide +kernel
theorem d3_42 : decode prog_16_method_2_code 42 = .ok (.return_, 1) := by decide +kernel
theorem ef_rmK0 (m : MethodId) (x0 : Addr) (x1 : Addr) (x2 : Int32) (x3 : Int32) : entryFrame m #[(.ref x0), (.ref x1), (.int x2), (.int x3), (.int (0 : Int32)), .null, .null] 7 = mkF m 0 #[.val (.ref x0), .val (.ref x1), .val (.int x2), .val (.int x3), .val (.int (0 : Int32)), .val .null, .val .null] [] := by first | (simp [entryFrame, mkF, argsToLocals, Value.category]; done) | rfl
theorem pn_1 : plainName "com/example/tagwright/tagwright/codec/OctetInput" = true := by first | (simp [plainName, overriddenIn]; done) | decide +kernel
set_option maxRecDepth 65536 in
set_option maxHeartbeats 40000000 in
theorem rmK0 (l : Launch) (Z : State) (a0 : Array Value) (hw : ∀ d ∈ tables_1, d.before a0 Z = true) (ws : List Jvm.Cond) (x0 : Addr) (x1 : Addr) (x2 : Int32) (x3 : Int32) (h0 : Heap) (n0 : Nat) (Z0 : n0 ≤ h0.size) (E0 : Exa Z h0 x0 "com/example/tagwright/tagwright/codec/OctetInput") (G0 : Fld Z h0 x0 "com/example/tagwright/tagwright/codec/OctetInput" "octets" "[B" .null) (G1 : Fld Z h0 x0 "com/example/tagwright/tagwright/codec/OctetInput" "start" "I" (.int (0 : Int32))) (G2 : Fld Z h0 x0 "com/example/tagwright/tagwright/codec/OctetInput" "next" "I" (.int (0 : Int32))) (G3 : Fld Z h0 x0 "com/example/tagwright/tagwright/codec/OctetInput" "end" "I" (.int (0 : Int32))) (G4 : Fld Z h0 x0 "com/example/tagwright/tagwright/codec/OctetInput" "toEndOfContents" "Z" (.int (0 : Int32))) (G5 : Fld Z h0 x0 "com/example/tagwright/tagwright/codec/OctetInput" "pieceIndexes" "[I" .null) (G6 : Fld Z h0 x0 "com/example/tagwright/tagwright/codec/OctetInput" "pieceOffsets" "[I" .null) (g0 : n0 ≤ x0) :
    MetFree l (⟨"com/example/tagwright/tagwright/codec/OctetInput", "<init>", "([BIIZ[I[I)V"⟩ : MethodName) (head1 (Jvm.Cond.code (⟨"com/example/tagwright/tagwright/codec/OctetInput", "<init>", "([BIIZ[I[I)V"⟩ : MethodName) prog_16_method_2_code 7 none :: ws) ({ frames := 1, cells := 0, slots := 0, locals := 12 } : Room)) (fun a U => a = #[(.ref x0), (.ref x1), (.int x2), (.int x3), (.int (0 : Int32)), .null, .null] ∧ Z.Warmed39 U.vm ∧ U.heap = h0) (fun _ _ _ _ _ => True) (fun _ U o U' => ∃ v L, o = .returned v ∧ (QK none h0 [x0] n0 (fun h => OI Z h x0 x1 x2 x3 0)) v U'.heap L ∧ FrameEnd U o U' L ({ frames := 1, cells := 0, slots := 0, locals := 12 } : Room).cells ({ frames := 1, cells := 0, slots := 0, locals := 12 } : Room).slots) := by
  refine MetFree.of_bodySF (plainFor_of_name pn_1) hisR ?_
  intro p e s m args below meth c s₁ Bd hml0 hP hK
  obtain ⟨rfl, hZ, hh⟩ := hP
  have hx := Bd.exec
  have hby := Bd.bytes
  have hml : c.maxLocals = 7 := hml0
  have hown : s.vm.findClass "com/example/tagwright/tagwright/codec/OctetInput" = some m.cls := findClass_of_methodNamed Bd.named
  have hnm := (name_of_methodNamed Bd.named Bd.method).1
  have X0 : Stand p l e ({ frames := 1, cells := 0, slots := 0, locals := 12 } : Room) s m #[(.ref x0), (.ref x1), (.int x2), (.int x3), (.int (0 : Int32)), .null, .null] below meth c s₁ [] 0 0 := Stand.of_body Bd
  have e0 : s₁.heap = h0 := by rw [← hh, Bd.state]; rfl
  have N0 := Fr.nil n0
  show Ends p e below (FE s ({ frames := 1, cells := 0, slots := 0, locals := 12 } : Room).cells ({ frames := 1, cells := 0, slots := 0, locals := 12 } : Room).slots) (QK none h0 [x0] n0 (fun h => OI Z h x0 x1 x2 x3 0)) (s₁.setTop (entryFrame m #[(.ref x0), (.ref x1), (.int x2), (.int x3), (.int (0 : Int32)), .null, .null] 7))
  rw [ef_rmK0 m x0 x1 x2 x3]
  show Ends p e below _ _ (s₁.setTop (mkF m 0 #[.val (.ref x0), .val (.ref x1), .val (.int x2), .val (.int x3), .val (.int (0 : Int32)), .val .null, .val .null] []))
  refine Es.aloadN (q := 1) ?_ X0 hx (hb hby d3_0) rfl rfl rfl
  obtain ⟨T1, X1, e1, st1⟩ := initO X0 hx hZ hown (hw _ (List.mem_of_getElem? (i := 24) rfl)) (hw _ (List.mem_of_getElem? (i := 25) rfl)) (hw _ (List.mem_of_getElem? (i := 26) rfl)) e0 (g := (mkF m 1 #[.val (.ref x0), .val (.ref x1), .val (.int x2), .val (.int x3), .val (.int (0 : Int32)), .val .null, .val .null] [(.ref x0)])) rfl (by rw [hml]; rfl) rfl (hb hby d3_1) (by decide) (W := 0) (by show 2 * 0 + _ ≤ _; exact Nat.le_of_eq rfl) (by decide)
  refine Ends.by ?_ st1
  show Ends p e below _ _ (T1.setTop (mkF m 4 #[.val (.ref x0), .val (.ref x1), .val (.int x2), .val (.int x3), .val (.int (0 : Int32)), .val .null, .val .null] []))
  refine Es.aloadN (q := 5) ?_ X1 hx (hb hby d3_4) rfl rfl rfl
  refine Es.aloadN (q := 6) ?_ X1 hx (hb hby d3_5) rfl rfl rfl
  obtain ⟨T2, h2, X2, e2, W2, st2⟩ := putF X1 hx hZ hown (host := "") (Or.inl (hw _ (List.mem_of_getElem? (i := 27) rfl))) Via.refl e1 G0 E0 (Or.inr ⟨(hw _ (List.mem_of_getElem? (i := 28) rfl)), rfl, hnm⟩) (hw _ (List.mem_of_getElem? (i := 3) rfl)) (ty := (.array .byte)) (by decide) rfl rfl (g := (mkF m 6 #[.val (.ref x0), .val (.ref x1), .val (.int x2), .val (.int x3), .val (.int (0 : Int32)), .val .null, .val .null] [(.ref x1), (.ref x0)])) rfl rfl (hb hby d3_6)
  have Fw2 := Fld.same W2 G0
  have f3 := Exa.wr W2 E0
  have f5 := Fld.other W2 G1 (Or.inr (slot_ne (Or.inr (hw _ (List.mem_of_getElem? (i := 30) rfl))) (Or.inr (hw _ (List.mem_of_getElem? (i := 28) rfl))) (by decide) (t := .int) (t' := (.array .byte)) (by decide) (by decide)))
  have f6 := Fld.other W2 G2 (Or.inr (slot_ne (Or.inl (hw _ (List.mem_of_getElem? (i := 32) rfl))) (Or.inr (hw _ (List.mem_of_getElem? (i := 28) rfl))) (by decide) (t := .int) (t' := (.array .byte)) (by decide) (by decide)))
  have f7 := Fld.other W2 G3 (Or.inr (slot_ne (Or.inr (hw _ (List.mem_of_getElem? (i := 34) rfl))) (Or.inr (hw _ (List.mem_of_getElem? (i := 28) rfl))) (by decide) (t := .int) (t' := (.array .byte)) (by decide) (by decide)))
  have f8 := Fld.other W2 G4 (Or.inr (slot_ne (Or.inr (hw _ (List.mem_of_getElem? (i := 36) rfl))) (Or.inr (hw _ (List.mem_of_getElem? (i := 28) rfl))) (by decide) (t := .boolean) (t' := (.array .byte)) (by decide) (by decide)))
  have f9 := Fld.other W2 G5 (Or.inr (slot_ne (Or.inr (hw _ (List.mem_of_getElem? (i := 38) rfl))) (Or.inr (hw _ (List.mem_of_getElem? (i := 28) rfl))) (by decide) (t := (.array .int)) (t' := (.array .byte)) (by decide) (by decide)))
  have f10 := Fld.other W2 G6 (Or.inr (slot_ne (Or.inr (hw _ (List.mem_of_getElem? (i := 40) rfl))) (Or.inr (hw _ (List.mem_of_getElem? (i := 28) rfl))) (by decide) (t := (.array .int)) (t' := (.array .byte)) (by decide) (by decide)))
  have K11 := (Keep.refl h0 [x0]).wr W2 (Or.inl (by simp))
  have N2 := Fr.snoc X2 N0 g0
  have Zs12 : n0 ≤ h2.size := Nat.le_trans Z0 (Keep.of_wr W2).1
  refine Ends.by ?_ st2
  show Ends p e below _ _ (T2.setTop (mkF m 9 #[.val (.ref x0), .val (.ref x1), .val (.int x2), .val (.int x3), .val (.int (0 : Int32)), .val .null, .val .null] []))
  refine Es.aloadN (q := 10) ?_ X2 hx (hb hby d3_9) rfl rfl rfl
  refine Es.iloadN (q := 11) ?_ X2 hx (hb hby d3_10) rfl rfl
  obtain ⟨T13, h13, X13, e13, W13, st13⟩ := putF X2 hx hZ hown (host := "") (Or.inl (hw _ (List.mem_of_getElem? (i := 29) rfl))) Via.refl e2 f5 f3 (Or.inr ⟨(hw _ (List.mem_of_getElem? (i := 30) rfl)), rfl, hnm⟩) (hw _ (List.mem_of_getElem? (i := 3) rfl)) (ty := .int) (by decide) rfl rfl (g := (mkF m 11 #[.val (.ref x0), .val (.ref x1), .val (.int x2), .val (.int x3), .val (.int (0 : Int32)), .val .null, .val .null] [(.int x2), (.ref x0)])) rfl rfl (hb hby d3_11)
  have Fw13 := Fld.same W13 f5
  have f14 := Exa.wr W13 f3
  have f15 := Fld.other W13 Fw2 (Or.inr (slot_ne (Or.inr (hw _ (List.mem_of_getElem? (i := 28) rfl))) (Or.inr (hw _ (List.mem_of_getElem? (i := 30) rfl))) (by decide) (t := (.array .byte)) (t' := .int) (by decide) (by decide)))
  have f17 := Fld.other W13 f6 (Or.inr (slot_ne (Or.inl (hw _ (List.mem_of_getElem? (i := 32) rfl))) (Or.inr (hw _ (List.mem_of_getElem? (i := 30) rfl))) (by decide) (t := .int) (t' := .int) (by decide) (by decide)))
  have f18 := Fld.other W13 f7 (Or.inr (slot_ne (Or.inr (hw _ (List.mem_of_getElem? (i := 34) rfl))) (Or.inr (hw _ (List.mem_of_getElem? (i := 30) rfl))) (by decide) (t := .int) (t' := .int) (by decide) (by decide)))
  have f19 := Fld.other W13 f8 (Or.inr (slot_ne (Or.inr (hw _ (List.mem_of_getElem? (i := 36) rfl))) (Or.inr (hw _ (List.mem_of_getElem? (i := 30) rfl))) (by decide) (t := .boolean) (t' := .int) (by decide) (by decide)))
  have f20 := Fld.other W13 f9 (Or.inr (slot_ne (Or.inr (hw _ (List.mem_of_getElem? (i := 38) rfl))) (Or.inr (hw _ (List.mem_of_getElem? (i := 30) rfl))) (by decide) (t := (.array .int)) (t' := .int) (by decide) (by decide)))
  have f21 := Fld.other W13 f10 (Or.inr (slot_ne (Or.inr (hw _ (List.mem_of_getElem? (i := 40) rfl))) (Or.inr (hw _ (List.mem_of_getElem? (i := 30) rfl))) (by decide) (t := (.array .int)) (t' := .int) (by decide) (by decide)))
  have K22 := K11.wr W13 (Or.inl (by simp))
  have N13 := Fr.snoc X13 N2 g0
  have Zs23 : n0 ≤ h13.size := Nat.le_trans Zs12 (Keep.of_wr W13).1
  refine Ends.by ?_ st13
  show Ends p e below _ _ (T13.setTop (mkF m 14 #[.val (.ref x0), .val (.ref x1), .val (.int x2), .val (.int x3), .val (.int (0 : Int32)), .val .null, .val .null] []))
  refine Es.aloadN (q := 15) ?_ X13 hx (hb hby d3_14) rfl rfl rfl
  refine Es.iloadN (q := 16) ?_ X13 hx (hb hby d3_15) rfl rfl
  obtain ⟨T24, h24, X24, e24, W24, st24⟩ := putF X13 hx hZ hown (host := "") (Or.inl (hw _ (List.mem_of_getElem? (i := 31) rfl))) Via.refl e13 f17 f14 (Or.inl (hw _ (List.mem_of_getElem? (i := 32) rfl))) (hw _ (List.mem_of_getElem? (i := 3) rfl)) (ty := .int) (by decide) rfl rfl (g := (mkF m 16 #[.val (.ref x0), .val (.ref x1), .val (.int x2), .val (.int x3), .val (.int (0 : Int32)), .val .null, .val .null] [(.int x2), (.ref x0)])) rfl rfl (hb hby d3_16)
  have Fw24 := Fld.same W24 f17
  have f25 := Exa.wr W24 f14
  have f26 := Fld.other W24 f15 (Or.inr (slot_ne (Or.inr (hw _ (List.mem_of_getElem? (i := 28) rfl))) (Or.inl (hw _ (List.mem_of_getElem? (i := 32) rfl))) (by decide) (t := (.array .byte)) (t' := .int) (by decide) (by decide)))
  have f27 := Fld.other W24 Fw13 (Or.inr (slot_ne (Or.inr (hw _ (List.mem_of_getElem? (i := 30) rfl))) (Or.inl (hw _ (List.mem_of_getElem? (i := 32) rfl))) (by decide) (t := .int) (t' := .int) (by decide) (by decide)))
  have f29 := Fld.other W24 f18 (Or.inr (slot_ne (Or.inr (hw _ (List.mem_of_getElem? (i := 34) rfl))) (Or.inl (hw _ (List.mem_of_getElem? (i := 32) rfl))) (by decide) (t := .int) (t' := .int) (by decide) (by decide)))
  have f30 := Fld.other W24 f19 (Or.inr (slot_ne (Or.inr (hw _ (List.mem_of_getElem? (i := 36) rfl))) (Or.inl (hw _ (List.mem_of_getElem? (i := 32) rfl))) (by decide) (t := .boolean) (t' := .int) (by decide) (by decide)))
  have f31 := Fld.other W24 f20 (Or.inr (slot_ne (Or.inr (hw _ (List.mem_of_getElem? (i := 38) rfl))) (Or.inl (hw _ (List.mem_of_getElem? (i := 32) rfl))) (by decide) (t := (.array .int)) (t' := .int) (by decide) (by decide)))
  have f32 := Fld.other W24 f21 (Or.inr (slot_ne (Or.inr (hw _ (List.mem_of_getElem? (i := 40) rfl))) (Or.inl (hw _ (List.mem_of_getElem? (i := 32) rfl))) (by decide) (t := (.array .int)) (t' := .int) (by decide) (by decide)))
  have K33 := K22.wr W24 (Or.inl (by simp))
  have N24 := Fr.snoc X24 N13 g0
  have Zs34 : n0 ≤ h24.size := Nat.le_trans Zs23 (Keep.of_wr W24).1
  refine Ends.by ?_ st24
  show Ends p e below _ _ (T24.setTop (mkF m 19 #[.val (.ref x0), .val (.ref x1), .val (.int x2), .val (.int x3), .val (.int (0 : Int32)), .val .null, .val .null] []))
  refine Es.aloadN (q := 20) ?_ X24 hx (hb hby d3_19) rfl rfl rfl
  refine Es.iloadN (q := 21) ?_ X24 hx (hb hby d3_20) rfl rfl
  obtain ⟨T35, h35, X35, e35, W35, st35⟩ := putF X24 hx hZ hown (host := "") (Or.inl (hw _ (List.mem_of_getElem? (i := 33) rfl))) Via.refl e24 f29 f25 (Or.inr ⟨(hw _ (List.mem_of_getElem? (i := 34) rfl)), rfl, hnm⟩) (hw _ (List.mem_of_getElem? (i := 3) rfl)) (ty := .int) (by decide) rfl rfl (g := (mkF m 21 #[.val (.ref x0), .val (.ref x1), .val (.int x2), .val (.int x3), .val (.int (0 : Int32)), .val .null, .val .null] [(.int x3), (.ref x0)])) rfl rfl (hb hby d3_21)
  have Fw35 := Fld.same W35 f29
  have f36 := Exa.wr W35 f25
  have f37 := Fld.other W35 f26 (Or.inr (slot_ne (Or.inr (hw _ (List.mem_of_getElem? (i := 28) rfl))) (Or.inr (hw _ (List.mem_of_getElem? (i := 34) rfl))) (by decide) (t := (.array .byte)) (t' := .int) (by decide) (by decide)))
  have f38 := Fld.other W35 f27 (Or.inr (slot_ne (Or.inr (hw _ (List.mem_of_getElem? (i := 30) rfl))) (Or.inr (hw _ (List.mem_of_getElem? (i := 34) rfl))) (by decide) (t := .int) (t' := .int) (by decide) (by decide)))
  have f39 := Fld.other W35 Fw24 (Or.inr (slot_ne (Or.inl (hw _ (List.mem_of_getElem? (i := 32) rfl))) (Or.inr (hw _ (List.mem_of_getElem? (i := 34) rfl))) (by decide) (t := .int) (t' := .int) (by decide) (by decide)))
  have f41 := Fld.other W35 f30 (Or.inr (slot_ne (Or.inr (hw _ (List.mem_of_getElem? (i := 36) rfl))) (Or.inr (hw _ (List.mem_of_getElem? (i := 34) rfl))) (by decide) (t := .boolean) (t' := .int) (by decide) (by decide)))
  have f42 := Fld.other W35 f31 (Or.inr (slot_ne (Or.inr (hw _ (List.mem_of_getElem? (i := 38) rfl))) (Or.inr (hw _ (List.mem_of_getElem? (i := 34) rfl))) (by decide) (t := (.array .int)) (t' := .int) (by decide) (by decide)))
  have f43 := Fld.other W35 f32 (Or.inr (slot_ne (Or.inr (hw _ (List.mem_of_getElem? (i := 40) rfl))) (Or.inr (hw _ (List.mem_of_getElem? (i := 34) rfl))) (by decide) (t := (.array .int)) (t' := .int) (by decide) (by decide)))
  have K44 := K33.wr W35 (Or.inl (by simp))
  have N35 := Fr.snoc X35 N24 g0
  have Zs45 : n0 ≤ h35.size := Nat.le_trans Zs34 (Keep.of_wr W35).1
  refine Ends.by ?_ st35
  show Ends p e below _ _ (T35.setTop (mkF m 24 #[.val (.ref x0), .val (.ref x1), .val (.int x2), .val (.int x3), .val (.int (0 : Int32)), .val .null, .val .null] []))
  refine Es.aloadN (q := 25) ?_ X35 hx (hb hby d3_24) rfl rfl rfl
  refine Es.iload (q := 27) ?_ X35 hx (hb hby d3_25) rfl rfl
  obtain ⟨T46, h46, X46, e46, W46, st46⟩ := putFN X35 hx hZ hown (hw _ (List.mem_of_getElem? (i := 35) rfl)) Via.refl e35 f41 f36 (Or.inr ⟨(hw _ (List.mem_of_getElem? (i := 36) rfl)), rfl, hnm⟩) (hw _ (List.mem_of_getElem? (i := 3) rfl)) (ty := .boolean) (v' := (.int (0 : Int32))) (by decide) rfl rfl (g := (mkF m 27 #[.val (.ref x0), .val (.ref x1), .val (.int x2), .val (.int x3), .val (.int (0 : Int32)), .val .null, .val .null] [(.int (0 : Int32)), (.ref x0)])) rfl rfl (hb hby d3_27)
  have Fw46 := Fld.same W46 f41
  have f47 := Exa.wr W46 f36
  have f48 := Fld.other W46 f37 (Or.inr (slot_ne (Or.inr (hw _ (List.mem_of_getElem? (i := 28) rfl))) (Or.inr (hw _ (List.mem_of_getElem? (i := 36) rfl))) (by decide) (t := (.array .byte)) (t' := .boolean) (by decide) (by decide)))
  have f49 := Fld.other W46 f38 (Or.inr (slot_ne (Or.inr (hw _ (List.mem_of_getElem? (i := 30) rfl))) (Or.inr (hw _ (List.mem_of_getElem? (i := 36) rfl))) (by decide) (t := .int) (t' := .boolean) (by decide) (by decide)))
  have f50 := Fld.other W46 f39 (Or.inr (slot_ne (Or.inl (hw _ (List.mem_of_getElem? (i := 32) rfl))) (Or.inr (hw _ (List.mem_of_getElem? (i := 36) rfl))) (by decide) (t := .int) (t' := .boolean) (by decide) (by decide)))
  have f51 := Fld.other W46 Fw35 (Or.inr (slot_ne (Or.inr (hw _ (List.mem_of_getElem? (i := 34) rfl))) (Or.inr (hw _ (List.mem_of_getElem? (i := 36) rfl))) (by decide) (t := .int) (t' := .boolean) (by decide) (by decide)))
  have f53 := Fld.other W46 f42 (Or.inr (slot_ne (Or.inr (hw _ (List.mem_of_getElem? (i := 38) rfl))) (Or.inr (hw _ (List.mem_of_getElem? (i := 36) rfl))) (by decide) (t := (.array .int)) (t' := .boolean) (by decide) (by decide)))
  have f54 := Fld.other W46 f43 (Or.inr (slot_ne (Or.inr (hw _ (List.mem_of_getElem? (i := 40) rfl))) (Or.inr (hw _ (List.mem_of_getElem? (i := 36) rfl))) (by decide) (t := (.array .int)) (t' := .boolean) (by decide) (by decide)))
  have K55 := K44.wr W46 (Or.inl (by simp))
  have N46 := Fr.snoc X46 N35 g0
  have Zs56 : n0 ≤ h46.size := Nat.le_trans Zs45 (Keep.of_wr W46).1
  refine Ends.by ?_ st46
  show Ends p e below _ _ (T46.setTop (mkF m 30 #[.val (.ref x0), .val (.ref x1), .val (.int x2), .val (.int x3), .val (.int (0 : Int32)), .val .null, .val .null] []))
  refine Es.aloadN (q := 31) ?_ X46 hx (hb hby d3_30) rfl rfl rfl
  refine Es.aload (q := 33) ?_ X46 hx (hb hby d3_31) rfl rfl rfl
  obtain ⟨T57, h57, X57, e57, W57, st57⟩ := putF X46 hx hZ hown (host := "") (Or.inl (hw _ (List.mem_of_getElem? (i := 37) rfl))) Via.refl e46 f53 f47 (Or.inr ⟨(hw _ (List.mem_of_getElem? (i := 38) rfl)), rfl, hnm⟩) (hw _ (List.mem_of_getElem? (i := 3) rfl)) (ty := (.array .int)) (by decide) rfl rfl (g := (mkF m 33 #[.val (.ref x0), .val (.ref x1), .val (.int x2), .val (.int x3), .val (.int (0 : Int32)), .val .null, .val .null] [.null, (.ref x0)])) rfl rfl (hb hby d3_33)
  have Fw57 := Fld.same W57 f53
  have f58 := Exa.wr W57 f47
  have f59 := Fld.other W57 f48 (Or.inr (slot_ne (Or.inr (hw _ (List.mem_of_getElem? (i := 28) rfl))) (Or.inr (hw _ (List.mem_of_getElem? (i := 38) rfl))) (by decide) (t := (.array .byte)) (t' := (.array .int)) (by decide) (by decide)))
  have f60 := Fld.other W57 f49 (Or.inr (slot_ne (Or.inr (hw _ (List.mem_of_getElem? (i := 30) rfl))) (Or.inr (hw _ (List.mem_of_getElem? (i := 38) rfl))) (by decide) (t := .int) (t' := (.array .int)) (by decide) (by decide)))
  have f61 := Fld.other W57 f50 (Or.inr (slot_ne (Or.inl (hw _ (List.mem_of_getElem? (i := 32) rfl))) (Or.inr (hw _ (List.mem_of_getElem? (i := 38) rfl))) (by decide) (t := .int) (t' := (.array .int)) (by decide) (by decide)))
  have f62 := Fld.other W57 f51 (Or.inr (slot_ne (Or.inr (hw _ (List.mem_of_getElem? (i := 34) rfl))) (Or.inr (hw _ (List.mem_of_getElem? (i := 38) rfl))) (by decide) (t := .int) (t' := (.array .int)) (by decide) (by decide)))
  have f63 := Fld.other W57 Fw46 (Or.inr (slot_ne (Or.inr (hw _ (List.mem_of_getElem? (i := 36) rfl))) (Or.inr (hw _ (List.mem_of_getElem? (i := 38) rfl))) (by decide) (t := .boolean) (t' := (.array .int)) (by decide) (by decide)))
  have f65 := Fld.other W57 f54 (Or.inr (slot_ne (Or.inr (hw _ (List.mem_of_getElem? (i := 40) rfl))) (Or.inr (hw _ (List.mem_of_getElem? (i := 38) rfl))) (by decide) (t := (.array .int)) (t' := (.array .int)) (by decide) (by decide)))
  have K66 := K55.wr W57 (Or.inl (by simp))
  have N57 := Fr.snoc X57 N46 g0
  have Zs67 : n0 ≤ h57.size := Nat.le_trans Zs56 (Keep.of_wr W57).1
  refine Ends.by ?_ st57
  show Ends p e below _ _ (T57.setTop (mkF m 36 #[.val (.ref x0), .val (.ref x1), .val (.int x2), .val (.int x3), .val (.int (0 : Int32)), .val .null, .val .null] []))
  refine Es.aloadN (q := 37) ?_ X57 hx (hb hby d3_36) rfl rfl rfl
  refine Es.aload (q := 39) ?_ X57 hx (hb hby d3_37) rfl rfl rfl
  obtain ⟨T68, h68, X68, e68, W68, st68⟩ := putF X57 hx hZ hown (host := "") (Or.inl (hw _ (List.mem_of_getElem? (i := 39) rfl))) Via.refl e57 f65 f58 (Or.inr ⟨(hw _ (List.mem_of_getElem? (i := 40) rfl)), rfl, hnm⟩) (hw _ (List.mem_of_getElem? (i := 3) rfl)) (ty := (.array .int)) (by decide) rfl rfl (g := (mkF m 39 #[.val (.ref x0), .val (.ref x1), .val (.int x2), .val (.int x3), .val (.int (0 : Int32)), .val .null, .val .null] [.null, (.ref x0)])) rfl rfl (hb hby d3_39)
  have Fw68 := Fld.same W68 f65
  have f69 := Exa.wr W68 f58
  have f70 := Fld.other W68 f59 (Or.inr (slot_ne (Or.inr (hw _ (List.mem_of_getElem? (i := 28) rfl))) (Or.inr (hw _ (List.mem_of_getElem? (i := 40) rfl))) (by decide) (t := (.array .byte)) (t' := (.array .int)) (by decide) (by decide)))
  have f71 := Fld.other W68 f60 (Or.inr (slot_ne (Or.inr (hw _ (List.mem_of_getElem? (i := 30) rfl))) (Or.inr (hw _ (List.mem_of_getElem? (i := 40) rfl))) (by decide) (t := .int) (t' := (.array .int)) (by decide) (by decide)))
  have f72 := Fld.other W68 f61 (Or.inr (slot_ne (Or.inl (hw _ (List.mem_of_getElem? (i := 32) rfl))) (Or.inr (hw _ (List.mem_of_getElem? (i := 40) rfl))) (by decide) (t := .int) (t' := (.array .int)) (by decide) (by decide)))
  have f73 := Fld.other W68 f62 (Or.inr (slot_ne (Or.inr (hw _ (List.mem_of_getElem? (i := 34) rfl))) (Or.inr (hw _ (List.mem_of_getElem? (i := 40) rfl))) (by decide) (t := .int) (t' := (.array .int)) (by decide) (by decide)))
  have f74 := Fld.other W68 f63 (Or.inr (slot_ne (Or.inr (hw _ (List.mem_of_getElem? (i := 36) rfl))) (Or.inr (hw _ (List.mem_of_getElem? (i := 40) rfl))) (by decide) (t := .boolean) (t' := (.array .int)) (by decide) (by decide)))
  have f75 := Fld.other W68 Fw57 (Or.inr (slot_ne (Or.inr (hw _ (List.mem_of_getElem? (i := 38) rfl))) (Or.inr (hw _ (List.mem_of_getElem? (i := 40) rfl))) (by decide) (t := (.array .int)) (t' := (.array .int)) (by decide) (by decide)))
  have K77 := K66.wr W68 (Or.inl (by simp))
  have N68 := Fr.snoc X68 N57 g0
  have Zs78 : n0 ≤ h68.size := Nat.le_trans Zs67 (Keep.of_wr W68).1
  refine Ends.by ?_ st68
  show Ends p e below _ _ (T68.setTop (mkF m 42 #[.val (.ref x0), .val (.ref x1), .val (.int x2), .val (.int x3), .val (.int (0 : Int32)), .val .null, .val .null] []))
  exact Ends.retV X68 hx Bd.notSynchronized Bd.returns (hb hby d3_42) (by rw [e68]; exact ⟨rfl, N68, K77, ⟨f69, f70, f72, f73, f74, f75, Fw68⟩⟩) (by decide) (by decide)

theorem ef_rmK1 (m : MethodId) (x0 : Addr) (x1 : Addr) (x2 : Int32) (x3 : Int32) : entryFrame m #[(.ref x0), (.ref x1), (.int x2), (.int x3), (.int (1 : Int32)), .null, .null] 7 = mkF m 0 #[.val (.ref x0), .val (.ref x1), .val (.int x2), .val (.int x3), .val (.int (1 : Int32)), .val .null, .val .null] [] := by first | (simp [entryFrame, mkF, argsToLocals, Value.category]; done) | rfl
set_option maxRecDepth 65536 in
set_option maxHeartbeats 40000000 in
theorem rmK1 (l : Launch) (Z : State) (a0 : Array Value) (hw : ∀ d ∈ tables_1, d.before a0 Z = true) (ws : List Jvm.Cond) (x0 : Addr) (x1 : Addr) (x2 : Int32) (x3 : Int32) (h0 : Heap) (n0 : Nat) (Z0 : n0 ≤ h0.size) (E0 : Exa Z h0 x0 "com/example/tagwright/tagwright/codec/OctetInput") (G0 : Fld Z h0 x0 "com/example/tagwright/tagwright/codec/OctetInput" "octets" "[B" .null) (G1 : Fld Z h0 x0 "com/example/tagwright/tagwright/codec/OctetInput" "start" "I" (.int (0 : Int32))) (G2 : Fld Z h0 x0 "com/example/tagwright/tagwright/codec/OctetInput" "next" "I" (.int (0 : Int32))) (G3 : Fld Z h0 x0 "com/example/tagwright/tagwright/codec/OctetInput" "end" "I" (.int (0 : Int32))) (G4 : Fld Z h0 x0 "com/example/tagwright/tagwright/codec/OctetInput" "toEndOfContents" "Z" (.int (0 : Int32))) (G5 : Fld Z h0 x0 "com/example/tagwright/tagwright/codec/OctetInput" "pieceIndexes" "[I" .null) (G6 : Fld Z h0 x0 "com/example/tagwright/tagwright/codec/OctetInput" "pieceOffsets" "[I" .null) (g0 : n0 ≤ x0) :
    MetFree l (⟨"com/example/tagwright/tagwright/codec/OctetInput", "<init>", "([BIIZ[I[I)V"⟩ : MethodName) (head1 (Jvm.Cond.code (⟨"com/example/tagwright/tagwright/codec/OctetInput", "<init>", "([BIIZ[I[I)V"⟩ : MethodName) prog_16_method_2_code 7 none :: ws) ({ frames := 1, cells := 0, slots := 0, locals := 12 } : Room)) (fun a U => a = #[(.ref x0), (.ref x1), (.int x2), (.int x3), (.int (1 : Int32)), .null, .null] ∧ Z.Warmed39 U.vm ∧ U.heap = h0) (fun _ _ _ _ _ => True) (fun _ U o U' => ∃ v L, o = .returned v ∧ (QK none h0 [x0] n0 (fun h => OI Z h x0 x1 x2 x3 1)) v U'.heap L ∧ FrameEnd U o U' L ({ frames := 1, cells := 0, slots := 0, locals := 12 } : Room).cells ({ frames := 1, cells := 0, slots := 0, locals := 12 } : Room).slots) := by
  refine MetFree.of_bodySF (plainFor_of_name pn_1) hisR ?_
  intro p e s m args below meth c s₁ Bd hml0 hP hK
  obtain ⟨rfl, hZ, hh⟩ := hP
  have hx := Bd.exec
  have hby := Bd.bytes
  have hml : c.maxLocals = 7 := hml0
  have hown : s.vm.findClass "com/example/tagwright/tagwright/codec/OctetInput" = some m.cls := findClass_of_methodNamed Bd.named
  have hnm := (name_of_methodNamed Bd.named Bd.method).1
  have X0 : Stand p l e ({ frames := 1, cells := 0, slots := 0, locals := 12 } : Room) s m #[(.ref x0), (.ref x1), (.int x2), (.int x3), (.int (1 : Int32)), .null, .null] below meth c s₁ [] 0 0 := Stand.of_body Bd
  have e0 : s₁.heap = h0 := by rw [← hh, Bd.state]; rfl
  have N0 := Fr.nil n0
  show Ends p e below (FE s ({ frames := 1, cells := 0, slots := 0, locals := 12 } : Room).cells ({ frames := 1, cells := 0, slots := 0, locals := 12 } : Room).slots) (QK none h0 [x0] n0 (fun h => OI Z h x0 x1 x2 x3 1)) (s₁.setTop (entryFrame m #[(.ref x0), (.ref x1), (.int x2), (.int x3), (.int (1 : Int32)), .null, .null] 7))
  rw [ef_rmK1 m x0 x1 x2 x3]
  show Ends p e below _ _ (s₁.setTop (mkF m 0 #[.val (.ref x0), .val (.ref x1), .val (.int x2), .val (.int x3), .val (.int (1 : Int32)), .val .null, .val .null] []))
  refine Es.aloadN (q := 1) ?_ X0 hx (hb hby d3_0) rfl rfl rfl
  obtain ⟨T1, X1, e1, st1⟩ := initO X0 hx hZ hown (hw _ (List.mem_of_getElem? (i := 24) rfl)) (hw _ (List.mem_of_getElem? (i := 25) rfl)) (hw _ (List.mem_of_getElem? (i := 26) rfl)) e0 (g := (mkF m 1 #[.val (.ref x0), .val (.ref x1), .val (.int x2), .val (.int x3), .val (.int (1 : Int32)), .val .null, .val .null] [(.ref x0)])) rfl (by rw [hml]; rfl) rfl (hb hby d3_1) (by decide) (W := 0) (by show 2 * 0 + _ ≤ _; exact Nat.le_of_eq rfl) (by decide)
  refine Ends.by ?_ st1
  show Ends p e below _ _ (T1.setTop (mkF m 4 #[.val (.ref x0), .val (.ref x1), .val (.int x2), .val (.int x3), .val (.int (1 : Int32)), .val .null, .val .null] []))
  refine Es.aloadN (q := 5) ?_ X1 hx (hb hby d3_4) rfl rfl rfl
  refine Es.aloadN (q := 6) ?_ X1 hx (hb hby d3_5) rfl rfl rfl
  obtain ⟨T2, h2, X2, e2, W2, st2⟩ := putF X1 hx hZ hown (host := "") (Or.inl (hw _ (List.mem_of_getElem? (i := 27) rfl))) Via.refl e1 G0 E0 (Or.inr ⟨(hw _ (List.mem_of_getElem? (i := 28) rfl)), rfl, hnm⟩) (hw _ (List.mem_of_getElem? (i := 3) rfl)) (ty := (.array .byte)) (by decide) rfl rfl (g := (mkF m 6 #[.val (.ref x0), .val (.ref x1), .val (.int x2), .val (.int x3), .val (.int (1 : Int32)), .val .null, .val .null] [(.ref x1), (.ref x0)])) rfl rfl (hb hby d3_6)
  have Fw2 := Fld.same W2 G0
  have f3 := Exa.wr W2 E0
  have f5 := Fld.other W2 G1 (Or.inr (slot_ne (Or.inr (hw _ (List.mem_of_getElem? (i := 30) rfl))) (Or.inr (hw _ (List.mem_of_getElem? (i := 28) rfl))) (by decide) (t := .int) (t' := (.array .byte)) (by decide) (by decide)))
  have f6 := Fld.other W2 G2 (Or.inr (slot_ne (Or.inl (hw _ (List.mem_of_getElem? (i := 32) rfl))) (Or.inr (hw _ (List.mem_of_getElem? (i := 28) rfl))) (by decide) (t := .int) (t' := (.array .byte)) (by decide) (by decide)))
  have f7 := Fld.other W2 G3 (Or.inr (slot_ne (Or.inr (hw _ (List.mem_of_getElem? (i := 34) rfl))) (Or.inr (hw _ (List.mem_of_getElem? (i := 28) rfl))) (by decide) (t := .int) (t' := (.array .byte)) (by decide) (by decide)))
  have f8 := Fld.other W2 G4 (Or.inr (slot_ne (Or.inr (hw _ (List.mem_of_getElem? (i := 36) rfl))) (Or.inr (hw _ (List.mem_of_getElem? (i := 28) rfl))) (by decide) (t := .boolean) (t' := (.array .byte)) (by decide) (by decide)))
  have f9 := Fld.other W2 G5 (Or.inr (slot_ne (Or.inr (hw _ (List.mem_of_getElem? (i := 38) rfl))) (Or.inr (hw _ (List.mem_of_getElem? (i := 28) rfl))) (by decide) (t := (.array .int)) (t' := (.array .byte)) (by decide) (by decide)))
  have f10 := Fld.other W2 G6 (Or.inr (slot_ne (Or.inr (hw _ (List.mem_of_getElem? (i := 40) rfl))) (Or.inr (hw _ (List.mem_of_getElem? (i := 28) rfl))) (by decide) (t := (.array .int)) (t' := (.array .byte)) (by decide) (by decide)))
  have K11 := (Keep.refl h0 [x0]).wr W2 (Or.inl (by simp))
  have N2 := Fr.snoc X2 N0 g0
  have Zs12 : n0 ≤ h2.size := Nat.le_trans Z0 (Keep.of_wr W2).1
  refine Ends.by ?_ st2
  show Ends p e below _ _ (T2.setTop (mkF m 9 #[.val (.ref x0), .val (.ref x1), .val (.int x2), .val (.int x3), .val (.int (1 : Int32)), .val .null, .val .null] []))
  refine Es.aloadN (q := 10) ?_ X2 hx (hb hby d3_9) rfl rfl rfl
  refine Es.iloadN (q := 11) ?_ X2 hx (hb hby d3_10) rfl rfl
  obtain ⟨T13, h13, X13, e13, W13, st13⟩ := putF X2 hx hZ hown (host := "") (Or.inl (hw _ (List.mem_of_getElem? (i := 29) rfl))) Via.refl e2 f5 f3 (Or.inr ⟨(hw _ (List.mem_of_getElem? (i := 30) rfl)), rfl, hnm⟩) (hw _ (List.mem_of_getElem? (i := 3) rfl)) (ty := .int) (by decide) rfl rfl (g := (mkF m 11 #[.val (.ref x0), .val (.ref x1), .val (.int x2), .val (.int x3), .val (.int (1 : Int32)), .val .null, .val .null] [(.int x2), (.ref x0)])) rfl rfl (hb hby d3_11)
  have Fw13 := Fld.same W13 f5
  have f14 := Exa.wr W13 f3
  have f15 := Fld.other W13 Fw2 (Or.inr (slot_ne (Or.inr (hw _ (List.mem_of_getElem? (i := 28) rfl))) (Or.inr (hw _ (List.mem_of_getElem? (i := 30) rfl))) (by decide) (t := (.array .byte)) (t' := .int) (by decide) (by decide)))
  have f17 := Fld.other W13 f6 (Or.inr (slot_ne (Or.inl (hw _ (List.mem_of_getElem? (i := 32) rfl))) (Or.inr (hw _ (List.mem_of_getElem? (i := 30) rfl))) (by decide) (t := .int) (t' := .int) (by decide) (by decide)))
  have f18 := Fld.other W13 f7 (Or.inr (slot_ne (Or.inr (hw _ (List.mem_of_getElem? (i := 34) rfl))) (Or.inr (hw _ (List.mem_of_getElem? (i := 30) rfl))) (by decide) (t := .int) (t' := .int) (by decide) (by decide)))
  have f19 := Fld.other W13 f8 (Or.inr (slot_ne (Or.inr (hw _ (List.mem_of_getElem? (i := 36) rfl))) (Or.inr (hw _ (List.mem_of_getElem? (i := 30) rfl))) (by decide) (t := .boolean) (t' := .int) (by decide) (by decide)))
  have f20 := Fld.other W13 f9 (Or.inr (slot_ne (Or.inr (hw _ (List.mem_of_getElem? (i := 38) rfl))) (Or.inr (hw _ (List.mem_of_getElem? (i := 30) rfl))) (by decide) (t := (.array .int)) (t' := .int) (by decide) (by decide)))
  have f21 := Fld.other W13 f10 (Or.inr (slot_ne (Or.inr (hw _ (List.mem_of_getElem? (i := 40) rfl))) (Or.inr (hw _ (List.mem_of_getElem? (i := 30) rfl))) (by decide) (t := (.array .int)) (t' := .int) (by decide) (by decide)))
  have K22 := K11.wr W13 (Or.inl (by simp))
  have N13 := Fr.snoc X13 N2 g0
  have Zs23 : n0 ≤ h13.size := Nat.le_trans Zs12 (Keep.of_wr W13).1
  refine Ends.by ?_ st13
  show Ends p e below _ _ (T13.setTop (mkF m 14 #[.val (.ref x0), .val (.ref x1), .val (.int x2), .val (.int x3), .val (.int (1 : Int32)), .val .null, .val .null] []))
  refine Es.aloadN (q := 15) ?_ X13 hx (hb hby d3_14) rfl rfl rfl
  refine Es.iloadN (q := 16) ?_ X13 hx (hb hby d3_15) rfl rfl
  obtain ⟨T24, h24, X24, e24, W24, st24⟩ := putF X13 hx hZ hown (host := "") (Or.inl (hw _ (List.mem_of_getElem? (i := 31) rfl))) Via.refl e13 f17 f14 (Or.inl (hw _ (List.mem_of_getElem? (i := 32) rfl))) (hw _ (List.mem_of_getElem? (i := 3) rfl)) (ty := .int) (by decide) rfl rfl (g := (mkF m 16 #[.val (.ref x0), .val (.ref x1), .val (.int x2), .val (.int x3), .val (.int (1 : Int32)), .val .null, .val .null] [(.int x2), (.ref x0)])) rfl rfl (hb hby d3_16)
  have Fw24 := Fld.same W24 f17
  have f25 := Exa.wr W24 f14
  have f26 := Fld.other W24 f15 (Or.inr (slot_ne (Or.inr (hw _ (List.mem_of_getElem? (i := 28) rfl))) (Or.inl (hw _ (List.mem_of_getElem? (i := 32) rfl))) (by decide) (t := (.array .byte)) (t' := .int) (by decide) (by decide)))
  have f27 := Fld.other W24 Fw13 (Or.inr (slot_ne (Or.inr (hw _ (List.mem_of_getElem? (i := 30) rfl))) (Or.inl (hw _ (List.mem_of_getElem? (i := 32) rfl))) (by decide) (t := .int) (t' := .int) (by decide) (by decide)))
  have f29 := Fld.other W24 f18 (Or.inr (slot_ne (Or.inr (hw _ (List.mem_of_getElem? (i := 34) rfl))) (Or.inl (hw _ (List.mem_of_getElem? (i := 32) rfl))) (by decide) (t := .int) (t' := .int) (by decide) (by decide)))
  have f30 := Fld.other W24 f19 (Or.inr (slot_ne (Or.inr (hw _ (List.mem_of_getElem? (i := 36) rfl))) (Or.inl (hw _ (List.mem_of_getElem? (i := 32) rfl))) (by decide) (t := .boolean) (t' := .int) (by decide) (by decide)))
  have f31 := Fld.other W24 f20 (Or.inr (slot_ne (Or.inr (hw _ (List.mem_of_getElem? (i := 38) rfl))) (Or.inl (hw _ (List.mem_of_getElem? (i := 32) rfl))) (by decide) (t := (.array .int)) (t' := .int) (by decide) (by decide)))
  have f32 := Fld.other W24 f21 (Or.inr (slot_ne (Or.inr (hw _ (List.mem_of_getElem? (i := 40) rfl))) (Or.inl (hw _ (List.mem_of_getElem? (i := 32) rfl))) (by decide) (t := (.array .int)) (t' := .int) (by decide) (by decide)))
  have K33 := K22.wr W24 (Or.inl (by simp))
  have N24 := Fr.snoc X24 N13 g0
  have Zs34 : n0 ≤ h24.size := Nat.le_trans Zs23 (Keep.of_wr W24).1
  refine Ends.by ?_ st24
  show Ends p e below _ _ (T24.setTop (mkF m 19 #[.val (.ref x0), .val (.ref x1), .val (.int x2), .val (.int x3), .val (.int (1 : Int32)), .val .null, .val .null] []))
  refine Es.aloadN (q := 20) ?_ X24 hx (hb hby d3_19) rfl rfl rfl
  refine Es.iloadN (q := 21) ?_ X24 hx (hb hby d3_20) rfl rfl
  obtain ⟨T35, h35, X35, e35, W35, st35⟩ := putF X24 hx hZ hown (host := "") (Or.inl (hw _ (List.mem_of_getElem? (i := 33) rfl))) Via.refl e24 f29 f25 (Or.inr ⟨(hw _ (List.mem_of_getElem? (i := 34) rfl)), rfl, hnm⟩) (hw _ (List.mem_of_getElem? (i := 3) rfl)) (ty := .int) (by decide) rfl rfl (g := (mkF m 21 #[.val (.ref x0), .val (.ref x1), .val (.int x2), .val (.int x3), .val (.int (1 : Int32)), .val .null, .val .null] [(.int x3), (.ref x0)])) rfl rfl (hb hby d3_21)
  have Fw35 := Fld.same W35 f29
  have f36 := Exa.wr W35 f25
  have f37 := Fld.other W35 f26 (Or.inr (slot_ne (Or.inr (hw _ (List.mem_of_getElem? (i := 28) rfl))) (Or.inr (hw _ (List.mem_of_getElem? (i := 34) rfl))) (by decide) (t := (.array .byte)) (t' := .int) (by decide) (by decide)))
  have f38 := Fld.other W35 f27 (Or.inr (slot_ne (Or.inr (hw _ (List.mem_of_getElem? (i := 30) rfl))) (Or.inr (hw _ (List.mem_of_getElem? (i := 34) rfl))) (by decide) (t := .int) (t' := .int) (by decide) (by decide)))
  have f39 := Fld.other W35 Fw24 (Or.inr (slot_ne (Or.inl (hw _ (List.mem_of_getElem? (i := 32) rfl))) (Or.inr (hw _ (List.mem_of_getElem? (i := 34) rfl))) (by decide) (t := .int) (t' := .int) (by decide) (by decide)))
  have f41 := Fld.other W35 f30 (Or.inr (slot_ne (Or.inr (hw _ (List.mem_of_getElem? (i := 36) rfl))) (Or.inr (hw _ (List.mem_of_getElem? (i := 34) rfl))) (by decide) (t := .boolean) (t' := .int) (by decide) (by decide)))
  have f42 := Fld.other W35 f31 (Or.inr (slot_ne (Or.inr (hw _ (List.mem_of_getElem? (i := 38) rfl))) (Or.inr (hw _ (List.mem_of_getElem? (i := 34) rfl))) (by decide) (t := (.array .int)) (t' := .int) (by decide) (by decide)))
  have f43 := Fld.other W35 f32 (Or.inr (slot_ne (Or.inr (hw _ (List.mem_of_getElem? (i := 40) rfl))) (Or.inr (hw _ (List.mem_of_getElem? (i := 34) rfl))) (by decide) (t := (.array .int)) (t' := .int) (by decide) (by decide)))
  have K44 := K33.wr W35 (Or.inl (by simp))
  have N35 := Fr.snoc X35 N24 g0
  have Zs45 : n0 ≤ h35.size := Nat.le_trans Zs34 (Keep.of_wr W35).1
  refine Ends.by ?_ st35
  show Ends p e below _ _ (T35.setTop (mkF m 24 #[.val (.ref x0), .val (.ref x1), .val (.int x2), .val (.int x3), .val (.int (1 : Int32)), .val .null, .val .null] []))
  refine Es.aloadN (q := 25) ?_ X35 hx (hb hby d3_24) rfl rfl rfl
  refine Es.iload (q := 27) ?_ X35 hx (hb hby d3_25) rfl rfl
  obtain ⟨T46, h46, X46, e46, W46, st46⟩ := putFN X35 hx hZ hown (hw _ (List.mem_of_getElem? (i := 35) rfl)) Via.refl e35 f41 f36 (Or.inr ⟨(hw _ (List.mem_of_getElem? (i := 36) rfl)), rfl, hnm⟩) (hw _ (List.mem_of_getElem? (i := 3) rfl)) (ty := .boolean) (v' := (.int (1 : Int32))) (by decide) rfl rfl (g := (mkF m 27 #[.val (.ref x0), .val (.ref x1), .val (.int x2), .val (.int x3), .val (.int (1 : Int32)), .val .null, .val .null] [(.int (1 : Int32)), (.ref x0)])) rfl rfl (hb hby d3_27)
  have Fw46 := Fld.same W46 f41
  have f47 := Exa.wr W46 f36
  have f48 := Fld.other W46 f37 (Or.inr (slot_ne (Or.inr (hw _ (List.mem_of_getElem? (i := 28) rfl))) (Or.inr (hw _ (List.mem_of_getElem? (i := 36) rfl))) (by decide) (t := (.array .byte)) (t' := .boolean) (by decide) (by decide)))
  have f49 := Fld.other W46 f38 (Or.inr (slot_ne (Or.inr (hw _ (List.mem_of_getElem? (i := 30) rfl))) (Or.inr (hw _ (List.mem_of_getElem? (i := 36) rfl))) (by decide) (t := .int) (t' := .boolean) (by decide) (by decide)))
  have f50 := Fld.other W46 f39 (Or.inr (slot_ne (Or.inl (hw _ (List.mem_of_getElem? (i := 32) rfl))) (Or.inr (hw _ (List.mem_of_getElem? (i := 36) rfl))) (by decide) (t := .int) (t' := .boolean) (by decide) (by decide)))
  have f51 := Fld.other W46 Fw35 (Or.inr (slot_ne (Or.inr (hw _ (List.mem_of_getElem? (i := 34) rfl))) (Or.inr (hw _ (List.mem_of_getElem? (i := 36) rfl))) (by decide) (t := .int) (t' := .boolean) (by decide) (by decide)))
  have f53 := Fld.other W46 f42 (Or.inr (slot_ne (Or.inr (hw _ (List.mem_of_getElem? (i := 38) rfl))) (Or.inr (hw _ (List.mem_of_getElem? (i := 36) rfl))) (by decide) (t := (.array .int)) (t' := .boolean) (by decide) (by decide)))
  have f54 := Fld.other W46 f43 (Or.inr (slot_ne (Or.inr (hw _ (List.mem_of_getElem? (i := 40) rfl))) (Or.inr (hw _ (List.mem_of_getElem? (i := 36) rfl))) (by decide) (t := (.array .int)) (t' := .boolean) (by decide) (by decide)))
  have K55 := K44.wr W46 (Or.inl (by simp))
  have N46 := Fr.snoc X46 N35 g0
  have Zs56 : n0 ≤ h46.size := Nat.le_trans Zs45 (Keep.of_wr W46).1
  refine Ends.by ?_ st46
  show Ends p e below _ _ (T46.setTop (mkF m 30 #[.val (.ref x0), .val (.ref x1), .val (.int x2), .val (.int x3), .val (.int (1 : Int32)), .val .null, .val .null] []))
  refine Es.aloadN (q := 31) ?_ X46 hx (hb hby d3_30) rfl rfl rfl
  refine Es.aload (q := 33) ?_ X46 hx (hb hby d3_31) rfl rfl rfl
  obtain ⟨T57, h57, X57, e57, W57, st57⟩ := putF X46 hx hZ hown (host := "") (Or.inl (hw _ (List.mem_of_getElem? (i := 37) rfl))) Via.refl e46 f53 f47 (Or.inr ⟨(hw _ (List.mem_of_getElem? (i := 38) rfl)), rfl, hnm⟩) (hw _ (List.mem_of_getElem? (i := 3) rfl)) (ty := (.array .int)) (by decide) rfl rfl (g := (mkF m 33 #[.val (.ref x0), .val (.ref x1), .val (.int x2), .val (.int x3), .val (.int (1 : Int32)), .val .null, .val .null] [.null, (.ref x0)])) rfl rfl (hb hby d3_33)
  have Fw57 := Fld.same W57 f53
  have f58 := Exa.wr W57 f47
  have f59 := Fld.other W57 f48 (Or.inr (slot_ne (Or.inr (hw _ (List.mem_of_getElem? (i := 28) rfl))) (Or.inr (hw _ (List.mem_of_getElem? (i := 38) rfl))) (by decide) (t := (.array .byte)) (t' := (.array .int)) (by decide) (by decide)))
  have f60 := Fld.other W57 f49 (Or.inr (slot_ne (Or.inr (hw _ (List.mem_of_getElem? (i := 30) rfl))) (Or.inr (hw _ (List.mem_of_getElem? (i := 38) rfl))) (by decide) (t := .int) (t' := (.array .int)) (by decide) (by decide)))
  have f61 := Fld.other W57 f50 (Or.inr (slot_ne (Or.inl (hw _ (List.mem_of_getElem? (i := 32) rfl))) (Or.inr (hw _ (List.mem_of_getElem? (i := 38) rfl))) (by decide) (t := .int) (t' := (.array .int)) (by decide) (by decide)))
  have f62 := Fld.other W57 f51 (Or.inr (slot_ne (Or.inr (hw _ (List.mem_of_getElem? (i := 34) rfl))) (Or.inr (hw _ (List.mem_of_getElem? (i := 38) rfl))) (by decide) (t := .int) (t' := (.array .int)) (by decide) (by decide)))
  have f63 := Fld.other W57 Fw46 (Or.inr (slot_ne (Or.inr (hw _ (List.mem_of_getElem? (i := 36) rfl))) (Or.inr (hw _ (List.mem_of_getElem? (i := 38) rfl))) (by decide) (t := .boolean) (t' := (.array .int)) (by decide) (by decide)))
  have f65 := Fld.other W57 f54 (Or.inr (slot_ne (Or.inr (hw _ (List.mem_of_getElem? (i := 40) rfl))) (Or.inr (hw _ (List.mem_of_getElem? (i := 38) rfl))) (by decide) (t := (.array .int)) (t' := (.array .int)) (by decide) (by decide)))
  have K66 := K55.wr W57 (Or.inl (by simp))
  have N57 := Fr.snoc X57 N46 g0
  have Zs67 : n0 ≤ h57.size := Nat.le_trans Zs56 (Keep.of_wr W57).1
  refine Ends.by ?_ st57
  show Ends p e below _ _ (T57.setTop (mkF m 36 #[.val (.ref x0), .val (.ref x1), .val (.int x2), .val (.int x3), .val (.int (1 : Int32)), .val .null, .val .null] []))
  refine Es.aloadN (q := 37) ?_ X57 hx (hb hby d3_36) rfl rfl rfl
  refine Es.aload (q := 39) ?_ X57 hx (hb hby d3_37) rfl rfl rfl
  obtain ⟨T68, h68, X68, e68, W68, st68⟩ := putF X57 hx hZ hown (host := "") (Or.inl (hw _ (List.mem_of_getElem? (i := 39) rfl))) Via.refl e57 f65 f58 (Or.inr ⟨(hw _ (List.mem_of_getElem? (i := 40) rfl)), rfl, hnm⟩) (hw _ (List.mem_of_getElem? (i := 3) rfl)) (ty := (.array .int)) (by decide) rfl rfl (g := (mkF m 39 #[.val (.ref x0), .val (.ref x1), .val (.int x2), .val (.int x3), .val (.int (1 : Int32)), .val .null, .val .null] [.null, (.ref x0)])) rfl rfl (hb hby d3_39)
  have Fw68 := Fld.same W68 f65
  have f69 := Exa.wr W68 f58
  have f70 := Fld.other W68 f59 (Or.inr (slot_ne (Or.inr (hw _ (List.mem_of_getElem? (i := 28) rfl))) (Or.inr (hw _ (List.mem_of_getElem? (i := 40) rfl))) (by decide) (t := (.array .byte)) (t' := (.array .int)) (by decide) (by decide)))
  have f71 := Fld.other W68 f60 (Or.inr (slot_ne (Or.inr (hw _ (List.mem_of_getElem? (i := 30) rfl))) (Or.inr (hw _ (List.mem_of_getElem? (i := 40) rfl))) (by decide) (t := .int) (t' := (.array .int)) (by decide) (by decide)))
  have f72 := Fld.other W68 f61 (Or.inr (slot_ne (Or.inl (hw _ (List.mem_of_getElem? (i := 32) rfl))) (Or.inr (hw _ (List.mem_of_getElem? (i := 40) rfl))) (by decide) (t := .int) (t' := (.array .int)) (by decide) (by decide)))
  have f73 := Fld.other W68 f62 (Or.inr (slot_ne (Or.inr (hw _ (List.mem_of_getElem? (i := 34) rfl))) (Or.inr (hw _ (List.mem_of_getElem? (i := 40) rfl))) (by decide) (t := .int) (t' := (.array .int)) (by decide) (by decide)))
  have f74 := Fld.other W68 f63 (Or.inr (slot_ne (Or.inr (hw _ (List.mem_of_getElem? (i := 36) rfl))) (Or.inr (hw _ (List.mem_of_getElem? (i := 40) rfl))) (by decide) (t := .boolean) (t' := (.array .int)) (by decide) (by decide)))
  have f75 := Fld.other W68 Fw57 (Or.inr (slot_ne (Or.inr (hw _ (List.mem_of_getElem? (i := 38) rfl))) (Or.inr (hw _ (List.mem_of_getElem? (i := 40) rfl))) (by decide) (t := (.array .int)) (t' := (.array .int)) (by decide) (by decide)))
  have K77 := K66.wr W68 (Or.inl (by simp))
  have N68 := Fr.snoc X68 N57 g0
  have Zs78 : n0 ≤ h68.size := Nat.le_trans Zs67 (Keep.of_wr W68).1
  refine Ends.by ?_ st68
  show Ends p e below _ _ (T68.setTop (mkF m 42 #[.val (.ref x0), .val (.ref x1), .val (.int x2), .val (.int x3), .val (.int (1 : Int32)), .val .null, .val .null] []))
  exact Ends.retV X68 hx Bd.notSynchronized Bd.returns (hb hby d3_42) (by rw [e68]; exact ⟨rfl, N68, K77, ⟨f69, f70, f72, f73, f74, f75, Fw68⟩⟩) (by decide) (by decide)

theorem own_ofNat {i : Nat} (h : i < 1000) : (Int32.ofNat i).toInt = i := Int32.toInt_ofNat_small (by omega)
theorem d1_0 : decode prog_16_method_1_code 0 = .ok (.aload_n 0, 1) := by decide +kernel
theorem d1_1 : decode prog_16_method_1_code 1 = .ok (.aload_n 1, 1) := by decide +kernel
theorem d1_2 : decode prog_16_method_1_code 2 = .ok (.ldc 1, 2) := by decide +kernel
theorem d1_4 : decode prog_16_method_1_code 4 = .ok (.invokestatic 3, 3) := by decide +kernel
theorem pd_0 : parseMethodDescriptor "(Ljava/lang/Object;Ljava/lang/String;)Ljava/lang/Object;" = some ⟨[(.object "java/lang/Object"), (.object "java/lang/String")], some (.object "java/lang/Object")⟩ := by decide +kernel
theorem d1_7 : decode prog_16_method_1_code 7 = .ok (.checkcast 9, 3) := by decide +kernel
theorem d1_10 : decode prog_16_method_1_code 10 = .ok (.iconst 0, 1) := by decide +kernel
theorem d1_11 : decode prog_16_method_1_code 11 = .ok (.aload_n 1, 1) := by decide +kernel
theorem d1_12 : decode prog_16_method_1_code 12 = .ok (.arraylength, 1) := by decide +kernel
theorem d1_13 : decode prog_16_method_1_code 13 = .ok (.iconst 0, 1) := by decide +kernel
theorem d1_14 : decode prog_16_method_1_code 14 = .ok (.aconst_null, 1) := by decide +kernel
theorem d1_15 : decode prog_16_method_1_code 15 = .ok (.aconst_null, 1) := by decide +kernel
theorem d1_16 : decode prog_16_method_1_code 16 = .ok (.invokespecial 11, 3) := by decide +kernel
theorem pd_1 : parseMethodDescriptor "([BIIZ[I[I)V" = some ⟨[(.array .byte), .int, .int, .boolean, (.array .int), (.array .int)], none⟩ := by decide +kernel
theorem d1_19 : decode prog_16_method_1_code 19 = .ok (.return_, 1) := by decide +kernel
theorem ef_rm1 (m : MethodId) (x0 : Addr) (x1 : Addr) : entryFrame m #[(.ref x0), (.ref x1)] 2 = mkF m 0 #[.val (.ref x0), .val (.ref x1)] [] := by first | (simp [entryFrame, mkF, argsToLocals, Value.category]; done) | rfl
set_option maxRecDepth 65536 in
set_option maxHeartbeats 40000000 in
theorem rm1 (l : Launch) (Z : State) (a0 : Array Value) (hw : ∀ d ∈ tables_1, d.before a0 Z = true) (ws : List Jvm.Cond) (x0 : Addr) (x1 : Addr) (NN : Nat) (g : Nat → Int32) (h0 : Heap) (n0 : Nat) (Z0 : n0 ≤ h0.size) (E0 : Exa Z h0 x0 "com/example/tagwright/tagwright/codec/OctetInput") (G0 : Fld Z h0 x0 "com/example/tagwright/tagwright/codec/OctetInput" "octets" "[B" .null) (G1 : Fld Z h0 x0 "com/example/tagwright/tagwright/codec/OctetInput" "start" "I" (.int (0 : Int32))) (G2 : Fld Z h0 x0 "com/example/tagwright/tagwright/codec/OctetInput" "next" "I" (.int (0 : Int32))) (G3 : Fld Z h0 x0 "com/example/tagwright/tagwright/codec/OctetInput" "end" "I" (.int (0 : Int32))) (G4 : Fld Z h0 x0 "com/example/tagwright/tagwright/codec/OctetInput" "toEndOfContents" "Z" (.int (0 : Int32))) (G5 : Fld Z h0 x0 "com/example/tagwright/tagwright/codec/OctetInput" "pieceIndexes" "[I" .null) (G6 : Fld Z h0 x0 "com/example/tagwright/tagwright/codec/OctetInput" "pieceOffsets" "[I" .null) (g0 : n0 ≤ x0) (V0 : Ary Z h0 x1 .byte NN g) (Ea : Exa Z h0 x1 "[B") (hNN : NN ≤ 4) (hne : x1 ≠ x0) :
    MetFree l (⟨"com/example/tagwright/tagwright/codec/OctetInput", "<init>", "([B)V"⟩ : MethodName) (head1 (Jvm.Cond.code (⟨"com/example/tagwright/tagwright/codec/OctetInput", "<init>", "([B)V"⟩ : MethodName) prog_16_method_1_code 2 none :: ws) ({ frames := 2, cells := 2, slots := 28, locals := 30 } : Room)) (fun a U => a = #[(.ref x0), (.ref x1)] ∧ Z.Warmed39 U.vm ∧ U.heap = h0) (fun _ _ _ _ _ => True) (fun _ U o U' => ∃ v L, o = .returned v ∧ (QK none h0 [x0] n0 (fun h => OI Z h x0 x1 0 (Int32.ofNat NN) 0)) v U'.heap L ∧ ReturnedEndW U o U' L ({ frames := 2, cells := 2, slots := 28, locals := 30 } : Room).cells ({ frames := 2, cells := 2, slots := 28, locals := 30 } : Room).slots) := by
  refine MetFree.of_bodySF (plainFor_of_name pn_1) hisR ?_
  intro p e s m args below meth c s₁ Bd hml0 hP hK
  obtain ⟨rfl, hZ, hh⟩ := hP
  have hx := Bd.exec
  have hby := Bd.bytes
  have hml : c.maxLocals = 2 := hml0
  have hown : s.vm.findClass "com/example/tagwright/tagwright/codec/OctetInput" = some m.cls := findClass_of_methodNamed Bd.named
  have hnm := (name_of_methodNamed Bd.named Bd.method).1
  have X0 : Stand p l e ({ frames := 2, cells := 2, slots := 28, locals := 30 } : Room) (s.setVm s.vm) m #[(.ref x0), (.ref x1)] below meth c s₁ [] 0 0 := Stand.of_body Bd
  have e0 : s₁.heap = h0 := by rw [← hh, Bd.state]; rfl
  have N0 := Fr.nil n0
  have hS : s.Since s.vm s.heap.size := (State.WarmedH.refl s).since _
  have hk0 : s.heap.size ≤ h0.size := by rw [← hh]; exact Nat.le_refl _
  show Ends p e below (FW s ({ frames := 2, cells := 2, slots := 28, locals := 30 } : Room).cells ({ frames := 2, cells := 2, slots := 28, locals := 30 } : Room).slots) (QK none h0 [x0] n0 (fun h => OI Z h x0 x1 0 (Int32.ofNat NN) 0)) (s₁.setTop (entryFrame m #[(.ref x0), (.ref x1)] 2))
  rw [ef_rm1 m x0 x1]
  show Ends p e below _ _ (s₁.setTop (mkF m 0 #[.val (.ref x0), .val (.ref x1)] []))
  refine Es.aloadN (q := 1) ?_ X0 hx (hb hby d1_0) rfl rfl rfl
  refine Es.aloadN (q := 2) ?_ X0 hx (hb hby d1_1) rfl rfl rfl
  obtain ⟨b1, T1, h1, k1, X1, e1, E1, hS, hk1, hZ, hown, st1⟩ := ldcS X0 hx hZ hown (hw _ (List.mem_of_getElem? (i := 8) rfl)) (own_str hw) e0 hS hk0 (g := (mkF m 2 #[.val (.ref x0), .val (.ref x1)] [(.ref x1), (.ref x0)])) rfl (hb hby d1_2) (n := 24) (by decide) (by decide) (by decide) (by decide)
  have f2 := Exa.ext E1 E0
  have f3 := Fld.ext E1 G0
  have f4 := Fld.ext E1 G1
  have f5 := Fld.ext E1 G2
  have f6 := Fld.ext E1 G3
  have f7 := Fld.ext E1 G4
  have f8 := Fld.ext E1 G5
  have f9 := Fld.ext E1 G6
  have f10 := V0.ext E1
  have f11 := Exa.ext E1 Ea
  have K12 := (Keep.refl h0 [x0]).ext E1
  have hk13 := Nat.le_trans hk0 E1.1
  have Zs14 : n0 ≤ h1.size := Nat.le_trans Z0 E1.1
  refine Ends.by ?_ st1
  show Ends p e below _ _ (T1.setTop (mkF m 4 #[.val (.ref x0), .val (.ref x1)] [(.ref b1), (.ref x1), (.ref x0)]))
  obtain ⟨v15, _, ⟨T15, L15, k15, n15⟩, -, X15, ⟨Lc15, hQ15, l15, y15, z15⟩, st15⟩ := Jvm.LawKit.callS X1 hx (y := (⟨"java/util/Objects", "requireNonNull", "(Ljava/lang/Object;Ljava/lang/String;)Ljava/lang/Object;"⟩ : MethodName)) hown (mvT hZ (hw _ (List.mem_of_getElem? (i := 15) rfl))) (mvT hZ (hw _ (List.mem_of_getElem? (i := 16) rfl))) (mvT hZ (hw _ (List.mem_of_getElem? (i := 17) rfl))) (mvT hZ (hw _ (List.mem_of_getElem? (i := 18) rfl))) (by decide) (backOf (W := 1) (rm2 l Z a0 hw [] x1 b1 h1 n0 Zs14) hZ (hw _ (List.mem_of_getElem? (i := 18) rfl)) (hw _ (List.mem_of_getElem? (i := 17) rfl)) (by decide) (by decide)) (g := (mkF m 4 #[.val (.ref x0), .val (.ref x1)] [(.ref b1), (.ref x1), (.ref x0)])) rfl (by rw [hml]; rfl) (argsL := [(.ref x1), (.ref b1)]) (rest := [(.ref x0)]) (lenOf pd_0 rfl) rfl (by show 2 * 0 + _ ≤ _; exact Nat.le_of_eq rfl) (hb hby d1_4) (fun _ _ => ⟨rfl, e1, (by decide : 2 + 0 ≤ _), (by decide : 28 + 0 ≤ _)⟩)
  dsimp only [Pt.U, Pt.locs, Pt.cells, Pt.slots] at X15 l15 y15 z15 st15 hQ15
  subst l15 y15 z15
  obtain ⟨rfl, N15q, e15⟩ := hQ15
  have N15 := Fr.app N0 N15q
  refine Ends.by ?_ st15
  show Ends p e below _ _ (T15.setTop (mkF m 7 #[.val (.ref x0), .val (.ref x1)] [(.ref x1), (.ref x0)]))
  obtain ⟨T16, X16, e16, st16⟩ := castY X15 hx hZ hown (hw _ (List.mem_of_getElem? (i := 19) rfl)) e15 (Ins.self f11) (g := (mkF m 7 #[.val (.ref x0), .val (.ref x1)] [(.ref x1), (.ref x0)])) rfl rfl (hb hby d1_7)
  refine Ends.by ?_ st16
  show Ends p e below _ _ (T16.setTop (mkF m 10 #[.val (.ref x0), .val (.ref x1)] [(.ref x1), (.ref x0)]))
  refine Es.iconst (q := 11) (z := (0 : Int32)) ?_ X16 hx (hb hby d1_10) rfl rfl
  refine Es.aloadN (q := 12) ?_ X16 hx (hb hby d1_11) rfl rfl rfl
  refine Ends.alen (z := (Int32.ofNat NN)) ?_ X16 hx hZ e16 f10 (own_ofNat (by omega)) (hb hby d1_12)
  show Ends p e below _ _ (T16.setTop (mkF m 13 #[.val (.ref x0), .val (.ref x1)] [(.int (Int32.ofNat NN)), (.int (0 : Int32)), (.ref x1), (.ref x0)]))
  refine Es.iconst (q := 14) (z := (0 : Int32)) ?_ X16 hx (hb hby d1_13) rfl rfl
  refine Es.aconst_null (q := 15) ?_ X16 hx (hb hby d1_14) rfl
  refine Es.aconst_null (q := 16) ?_ X16 hx (hb hby d1_15) rfl
  obtain ⟨v17, _, ⟨T17, L17, k17, n17⟩, -, X17, ⟨Lc17, hQ17, l17, y17, z17⟩, st17⟩ := X16.specialBack hx (y := (⟨"com/example/tagwright/tagwright/codec/OctetInput", "<init>", "([BIIZ[I[I)V"⟩ : MethodName)) rfl hown (mvT hZ (hw _ (List.mem_of_getElem? (i := 21) rfl))) (mvT hZ (hw _ (List.mem_of_getElem? (i := 22) rfl))) (mvT hZ (hw _ (List.mem_of_getElem? (i := 23) rfl))) (by decide) (backOf (W := 0) (rmK0 l Z a0 hw [] x0 x1 (0 : Int32) (Int32.ofNat NN) h1 n0 Zs14 f2 f3 f4 f5 f6 f7 f8 f9 g0) hZ (hw _ (List.mem_of_getElem? (i := 23) rfl)) (hw _ (List.mem_of_getElem? (i := 4) rfl)) (by decide) (by decide)) (g := (mkF m 16 #[.val (.ref x0), .val (.ref x1)] [.null, .null, (.int (0 : Int32)), (.int (Int32.ofNat NN)), (.int (0 : Int32)), (.ref x1), (.ref x0)])) rfl (by rw [hml]; rfl) (Steps.refl _) (a := x0) (argsL := [(.ref x1), (.int (0 : Int32)), (.int (Int32.ofNat NN)), (.int (0 : Int32)), .null, .null]) (rest := []) (lenOf pd_1 rfl) rfl (by show 2 * 0 + _ ≤ _; exact Nat.le_of_eq rfl) (hb hby d1_16) (fun _ _ => ⟨rfl, e16, (by decide : 2 + 0 ≤ _), (by decide : 28 + 0 ≤ _)⟩)
  dsimp only [Pt.U, Pt.locs, Pt.cells, Pt.slots] at X17 l17 y17 z17 st17 hQ17
  subst l17 y17 z17
  obtain ⟨rfl, N17q, K17, HI17⟩ := hQ17
  have N17 := Fr.app N15 N17q
  have f18 := f10.keep K17 (by simp [hne])
  have f19 := f11.keep K17
  have K20 := K12.trans K17 (by intro x hx; simp only [List.mem_cons, List.not_mem_nil, or_false] at hx; obtain rfl := hx; exact (Or.inl (by simp)))
  have hk21 := Nat.le_trans hk1 K17.1
  have Zs22 : n0 ≤ T17.heap.size := Nat.le_trans Zs14 K17.1
  refine Ends.go st17 ?_
  show Ends p e below _ _ (T17.setTop (mkF m 19 #[.val (.ref x0), .val (.ref x1)] []))
  exact Ends.retVW X17 hS hk21 hx Bd.notSynchronized Bd.returns (hb hby d1_19) ⟨rfl, N17, K20, HI17⟩ (by decide) (by decide)

theorem d7_0 : decode prog_16_method_4_code 0 = .ok (.aload_n 0, 1) := by decide +kernel
theorem d7_1 : decode prog_16_method_4_code 1 = .ok (.getfield 31, 3) := by decide +kernel
theorem d7_4 : decode prog_16_method_4_code 4 = .ok (.aload_n 0, 1) := by decide +kernel
theorem d7_5 : decode prog_16_method_4_code 5 = .ok (.getfield 28, 3) := by decide +kernel
theorem d7_8 : decode prog_16_method_4_code 8 = .ok (.isub, 1) := by decide +kernel
theorem d7_9 : decode prog_16_method_4_code 9 = .ok (.ireturn, 1) := by decide +kernel
theorem ef_rm7 (m : MethodId) (x0 : Addr) : entryFrame m #[(.ref x0)] 1 = mkF m 0 #[.val (.ref x0)] [] := by first | (simp [entryFrame, mkF, argsToLocals, Value.category]; done) | rfl
set_option maxRecDepth 65536 in
set_option maxHeartbeats 40000000 in
theorem rm7 (l : Launch) (Z : State) (a0 : Array Value) (hw : ∀ d ∈ tables_1, d.before a0 Z = true) (ws : List Jvm.Cond) (x0 : Addr) (b : Addr) (nx en t : Int32) (h0 : Heap) (n0 : Nat) (Z0 : n0 ≤ h0.size) (HI : OI Z h0 x0 b nx en t) :
    MetFree l (⟨"com/example/tagwright/tagwright/codec/OctetInput", "remaining", "()I"⟩ : MethodName) (head1 (Jvm.Cond.code (⟨"com/example/tagwright/tagwright/codec/OctetInput", "remaining", "()I"⟩ : MethodName) prog_16_method_4_code 1 (some .int) :: ws) ({ frames := 0, cells := 0, slots := 0, locals := 0 } : Room)) (fun a U => a = #[(.ref x0)] ∧ Z.Warmed39 U.vm ∧ U.heap = h0) (fun _ _ _ _ _ => True) (fun _ U o U' => ∃ v L, o = .returned v ∧ (QP (some (.int (en - nx))) h0 n0) v U'.heap L ∧ FrameEnd U o U' L ({ frames := 0, cells := 0, slots := 0, locals := 0 } : Room).cells ({ frames := 0, cells := 0, slots := 0, locals := 0 } : Room).slots) := by
  refine MetFree.of_bodySF (plainFor_of_name pn_1) hisR ?_
  intro p e s m args below meth c s₁ Bd hml0 hP hK
  obtain ⟨rfl, hZ, hh⟩ := hP
  have hx := Bd.exec
  have hby := Bd.bytes
  have hml : c.maxLocals = 1 := hml0
  have hown : s.vm.findClass "com/example/tagwright/tagwright/codec/OctetInput" = some m.cls := findClass_of_methodNamed Bd.named
  have hnm := (name_of_methodNamed Bd.named Bd.method).1
  have X0 : Stand p l e ({ frames := 0, cells := 0, slots := 0, locals := 0 } : Room) s m #[(.ref x0)] below meth c s₁ [] 0 0 := Stand.of_body Bd
  have e0 : s₁.heap = h0 := by rw [← hh, Bd.state]; rfl
  have N0 := Fr.nil n0
  show Ends p e below (FE s ({ frames := 0, cells := 0, slots := 0, locals := 0 } : Room).cells ({ frames := 0, cells := 0, slots := 0, locals := 0 } : Room).slots) (QP (some (.int (en - nx))) h0 n0) (s₁.setTop (entryFrame m #[(.ref x0)] 1))
  rw [ef_rm7 m x0]
  show Ends p e below _ _ (s₁.setTop (mkF m 0 #[.val (.ref x0)] []))
  obtain ⟨E0, F1, F2, F3, F4, F5, F6⟩ := HI
  refine Es.aloadN (q := 1) ?_ X0 hx (hb hby d7_0) rfl rfl rfl
  obtain ⟨T1, X1, e1, st1⟩ := getF X0 hx hZ hown (host := "") (Or.inl (hw _ (List.mem_of_getElem? (i := 33) rfl))) Via.refl e0 F3 (g := (mkF m 1 #[.val (.ref x0)] [(.ref x0)])) rfl rfl (hb hby d7_1)
  refine Ends.by ?_ st1
  show Ends p e below _ _ (T1.setTop (mkF m 4 #[.val (.ref x0)] [(.int en)]))
  refine Es.aloadN (q := 5) ?_ X1 hx (hb hby d7_4) rfl rfl rfl
  obtain ⟨T2, X2, e2, st2⟩ := getF X1 hx hZ hown (host := "") (Or.inl (hw _ (List.mem_of_getElem? (i := 31) rfl))) Via.refl e1 F2 (g := (mkF m 5 #[.val (.ref x0)] [(.ref x0), (.int en)])) rfl rfl (hb hby d7_5)
  refine Ends.by ?_ st2
  show Ends p e below _ _ (T2.setTop (mkF m 8 #[.val (.ref x0)] [(.int nx), (.int en)]))
  refine Es.isub (q := 9) ?_ X2 hx (hb hby d7_8) rfl
  exact Ends.retI X2 hx Bd.notSynchronized Bd.returns (hb hby d7_9) (by rw [e2]; exact ⟨rfl, N0, rfl⟩) (by decide) (by decide)

theorem d6_0 : decode prog_16_method_16_code 0 = .ok (.iload_n 1, 1) := by decide +kernel
theorem d6_1 : decode prog_16_method_16_code 1 = .ok (.ifCond .ge 17, 3) := by decide +kernel
theorem d6_18 : decode prog_16_method_16_code 18 = .ok (.iload_n 1, 1) := by decide +kernel
theorem d6_19 : decode prog_16_method_16_code 19 = .ok (.aload_n 0, 1) := by decide +kernel
theorem d6_20 : decode prog_16_method_16_code 20 = .ok (.invokevirtual 87, 3) := by decide +kernel
theorem pd_2 : parseMethodDescriptor "()I" = some ⟨[], some .int⟩ := by decide +kernel
theorem d6_23 : decode prog_16_method_16_code 23 = .ok (.if_icmp .le 32, 3) := by decide +kernel
theorem d6_55 : decode prog_16_method_16_code 55 = .ok (.return_, 1) := by decide +kernel
theorem ef_rm6 (m : MethodId) (x0 : Addr) (x1 : Int32) : entryFrame m #[(.ref x0), (.int x1)] 2 = mkF m 0 #[.val (.ref x0), .val (.int x1)] [] := by first | (simp [entryFrame, mkF, argsToLocals, Value.category]; done) | rfl
set_option maxRecDepth 65536 in
set_option maxHeartbeats 40000000 in
theorem rm6 (l : Launch) (Z : State) (a0 : Array Value) (hw : ∀ d ∈ tables_1, d.before a0 Z = true) (ws : List Jvm.Cond) (x0 : Addr) (x1 : Int32) (b : Addr) (nx en t : Int32) (h0 : Heap) (n0 : Nat) (Z0 : n0 ≤ h0.size) (HI : OI Z h0 x0 b nx en t) (p1 : ¬ (x1 < (0 : Int32))) (p2 : ¬ ((en - nx) < x1)) :
    MetFree l (⟨"com/example/tagwright/tagwright/codec/OctetInput", "require", "(I)V"⟩ : MethodName) (head1 (Jvm.Cond.code (⟨"com/example/tagwright/tagwright/codec/OctetInput", "require", "(I)V"⟩ : MethodName) prog_16_method_16_code 2 none :: ws) ({ frames := 1, cells := 0, slots := 0, locals := 13 } : Room)) (fun a U => a = #[(.ref x0), (.int x1)] ∧ Z.Warmed39 U.vm ∧ U.heap = h0) (fun _ _ _ _ _ => True) (fun _ U o U' => ∃ v L, o = .returned v ∧ (QP none h0 n0) v U'.heap L ∧ FrameEnd U o U' L ({ frames := 1, cells := 0, slots := 0, locals := 13 } : Room).cells ({ frames := 1, cells := 0, slots := 0, locals := 13 } : Room).slots) := by
  refine MetFree.of_bodySF (plainFor_of_name pn_1) hisR ?_
  intro p e s m args below meth c s₁ Bd hml0 hP hK
  obtain ⟨rfl, hZ, hh⟩ := hP
  have hx := Bd.exec
  have hby := Bd.bytes
  have hml : c.maxLocals = 2 := hml0
  have hown : s.vm.findClass "com/example/tagwright/tagwright/codec/OctetInput" = some m.cls := findClass_of_methodNamed Bd.named
  have hnm := (name_of_methodNamed Bd.named Bd.method).1
  have X0 : Stand p l e ({ frames := 1, cells := 0, slots := 0, locals := 13 } : Room) s m #[(.ref x0), (.int x1)] below meth c s₁ [] 0 0 := Stand.of_body Bd
  have e0 : s₁.heap = h0 := by rw [← hh, Bd.state]; rfl
  have N0 := Fr.nil n0
  show Ends p e below (FE s ({ frames := 1, cells := 0, slots := 0, locals := 13 } : Room).cells ({ frames := 1, cells := 0, slots := 0, locals := 13 } : Room).slots) (QP none h0 n0) (s₁.setTop (entryFrame m #[(.ref x0), (.int x1)] 2))
  rw [ef_rm6 m x0 x1]
  show Ends p e below _ _ (s₁.setTop (mkF m 0 #[.val (.ref x0), .val (.int x1)] []))
  refine Es.iloadN (q := 1) ?_ X0 hx (hb hby d6_0) rfl rfl
  refine Es.ifYes (q := 18) ?_ X0 hx (hb hby d6_1) (XT.i0_ge_t p1) (by decide) (by decide)
  refine Es.iloadN (q := 19) ?_ X0 hx (hb hby d6_18) rfl rfl
  refine Es.aloadN (q := 20) ?_ X0 hx (hb hby d6_19) rfl rfl rfl
  obtain ⟨cq1, kq1, q1a, q1b, q1c⟩ := isOf hZ e0 HI.1
  obtain ⟨v1, _, ⟨T1, L1, k1, n1⟩, -, X1, ⟨Lc1, hQ1, l1, y1, z1⟩, st1⟩ := X0.virtualBack hx (y := (⟨"com/example/tagwright/tagwright/codec/OctetInput", "remaining", "()I"⟩ : MethodName)) (z := (⟨"com/example/tagwright/tagwright/codec/OctetInput", "remaining", "()I"⟩ : MethodName)) hown (mvT hZ (hw _ (List.mem_of_getElem? (i := 50) rfl))) (mvT hZ (hw _ (List.mem_of_getElem? (i := 51) rfl))) (notFace_of_selects (args := #[]) (mvT hZ (hw _ (List.mem_of_getElem? (i := 53) rfl)))) (mvT hZ (hw _ (List.mem_of_getElem? (i := 53) rfl))) (mvT hZ (hw _ (List.mem_of_getElem? (i := 52) rfl))) (by decide) (backOf (W := 1) (rm7 l Z a0 hw [] x0 b nx en t h0 n0 Z0 HI) hZ (hw _ (List.mem_of_getElem? (i := 54) rfl)) (hw _ (List.mem_of_getElem? (i := 4) rfl)) (by decide) (by decide)) q1a q1c (g := (mkF m 20 #[.val (.ref x0), .val (.int x1)] [(.ref x0), (.int x1)])) rfl (by rw [hml]; rfl) (Steps.refl _) (argsL := []) (rest := [(.int x1)]) (lenOf pd_2 rfl) rfl (by show 2 * 0 + _ ≤ _; exact Nat.le_of_eq rfl) (hb hby d6_20) (fun _ _ => ⟨rfl, e0, (by decide : 0 + 0 ≤ _), (by decide : 0 + 0 ≤ _)⟩)
  dsimp only [Pt.U, Pt.locs, Pt.cells, Pt.slots] at X1 l1 y1 z1 st1 hQ1
  subst l1 y1 z1
  obtain ⟨rfl, N1q, e1⟩ := hQ1
  have N1 := Fr.app N0 N1q
  refine Ends.go st1 ?_
  show Ends p e below _ _ (T1.setTop (mkF m 23 #[.val (.ref x0), .val (.int x1)] [(.int (en - nx)), (.int x1)]))
  refine Es.icmpYes (q := 55) ?_ X1 hx (hb hby d6_23) (XT.ii_le_t p2) (by decide) (by decide)
  exact Ends.retV X1 hx Bd.notSynchronized Bd.returns (hb hby d6_55) (by rw [e1]; exact ⟨rfl, N1, rfl⟩) (by decide) (by decide)

theorem d5_0 : decode prog_16_method_10_code 0 = .ok (.aload_n 0, 1) := by decide +kernel
theorem d5_1 : decode prog_16_method_10_code 1 = .ok (.iload_n 1, 1) := by decide +kernel
theorem d5_2 : decode prog_16_method_10_code 2 = .ok (.invokevirtual 49, 3) := by decide +kernel
theorem pd_3 : parseMethodDescriptor "(I)V" = some ⟨[.int], none⟩ := by decide +kernel
theorem d5_5 : decode prog_16_method_10_code 5 = .ok (.aload_n 0, 1) := by decide +kernel
theorem d5_6 : decode prog_16_method_10_code 6 = .ok (.dup, 1) := by decide +kernel
theorem d5_7 : decode prog_16_method_10_code 7 = .ok (.getfield 28, 3) := by decide +kernel
theorem d5_10 : decode prog_16_method_10_code 10 = .ok (.iload_n 1, 1) := by decide +kernel
theorem d5_11 : decode prog_16_method_10_code 11 = .ok (.iadd, 1) := by decide +kernel
theorem d5_12 : decode prog_16_method_10_code 12 = .ok (.putfield 28, 3) := by decide +kernel
theorem d5_15 : decode prog_16_method_10_code 15 = .ok (.return_, 1) := by decide +kernel
theorem ef_rm5 (m : MethodId) (x0 : Addr) (x1 : Int32) : entryFrame m #[(.ref x0), (.int x1)] 2 = mkF m 0 #[.val (.ref x0), .val (.int x1)] [] := by first | (simp [entryFrame, mkF, argsToLocals, Value.category]; done) | rfl
set_option maxRecDepth 65536 in
set_option maxHeartbeats 40000000 in
theorem rm5 (l : Launch) (Z : State) (a0 : Array Value) (hw : ∀ d ∈ tables_1, d.before a0 Z = true) (ws : List Jvm.Cond) (x0 : Addr) (x1 : Int32) (b : Addr) (nx en t : Int32) (h0 : Heap) (n0 : Nat) (Z0 : n0 ≤ h0.size) (HI : OI Z h0 x0 b nx en t) (g0 : n0 ≤ x0) (p1 : ¬ (x1 < (0 : Int32))) (p2 : ¬ ((en - nx) < x1)) :
    MetFree l (⟨"com/example/tagwright/tagwright/codec/OctetInput", "skip", "(I)V"⟩ : MethodName) (head1 (Jvm.Cond.code (⟨"com/example/tagwright/tagwright/codec/OctetInput", "skip", "(I)V"⟩ : MethodName) prog_16_method_10_code 2 none :: ws) ({ frames := 2, cells := 0, slots := 0, locals := 26 } : Room)) (fun a U => a = #[(.ref x0), (.int x1)] ∧ Z.Warmed39 U.vm ∧ U.heap = h0) (fun _ _ _ _ _ => True) (fun _ U o U' => ∃ v L, o = .returned v ∧ (QK none h0 [x0] n0 (fun h => OI Z h x0 b (nx + x1) en t)) v U'.heap L ∧ FrameEnd U o U' L ({ frames := 2, cells := 0, slots := 0, locals := 26 } : Room).cells ({ frames := 2, cells := 0, slots := 0, locals := 26 } : Room).slots) := by
  refine MetFree.of_bodySF (plainFor_of_name pn_1) hisR ?_
  intro p e s m args below meth c s₁ Bd hml0 hP hK
  obtain ⟨rfl, hZ, hh⟩ := hP
  have hx := Bd.exec
  have hby := Bd.bytes
  have hml : c.maxLocals = 2 := hml0
  have hown : s.vm.findClass "com/example/tagwright/tagwright/codec/OctetInput" = some m.cls := findClass_of_methodNamed Bd.named
  have hnm := (name_of_methodNamed Bd.named Bd.method).1
  have X0 : Stand p l e ({ frames := 2, cells := 0, slots := 0, locals := 26 } : Room) s m #[(.ref x0), (.int x1)] below meth c s₁ [] 0 0 := Stand.of_body Bd
  have e0 : s₁.heap = h0 := by rw [← hh, Bd.state]; rfl
  have N0 := Fr.nil n0
  show Ends p e below (FE s ({ frames := 2, cells := 0, slots := 0, locals := 26 } : Room).cells ({ frames := 2, cells := 0, slots := 0, locals := 26 } : Room).slots) (QK none h0 [x0] n0 (fun h => OI Z h x0 b (nx + x1) en t)) (s₁.setTop (entryFrame m #[(.ref x0), (.int x1)] 2))
  rw [ef_rm5 m x0 x1]
  show Ends p e below _ _ (s₁.setTop (mkF m 0 #[.val (.ref x0), .val (.int x1)] []))
  refine Es.aloadN (q := 1) ?_ X0 hx (hb hby d5_0) rfl rfl rfl
  refine Es.iloadN (q := 2) ?_ X0 hx (hb hby d5_1) rfl rfl
  obtain ⟨cq1, q1, q1'⟩ := HI.1.cell
  obtain ⟨v1, _, ⟨T1, L1, k1, n1⟩, -, X1, ⟨Lc1, hQ1, l1, y1, z1⟩, st1⟩ := X0.privateBack hx (y := (⟨"com/example/tagwright/tagwright/codec/OctetInput", "require", "(I)V"⟩ : MethodName)) hown (mvT hZ (hw _ (List.mem_of_getElem? (i := 46) rfl))) (mvT hZ (hw _ (List.mem_of_getElem? (i := 47) rfl))) (own_selp (z := (⟨"com/example/tagwright/tagwright/codec/OctetInput", "skip", "(I)V"⟩ : MethodName)) rfl (mvT (args := #[]) hZ (hw _ (List.mem_of_getElem? (i := 44) rfl))) (Cond.privateMethod_at (mvP hZ (hw _ (List.mem_of_getElem? (i := 48) rfl)) (args := #[]))) (mvT hZ (hw _ (List.mem_of_getElem? (i := 47) rfl))) (by decide)) (Cond.privateMethod_at (mvP hZ (hw _ (List.mem_of_getElem? (i := 48) rfl)) (args := #[]))) (mvT hZ (hw _ (List.mem_of_getElem? (i := 49) rfl))) (by decide) (backOf (W := 0) (rm6 l Z a0 hw [] x0 x1 b nx en t h0 n0 Z0 HI p1 p2) hZ (hw _ (List.mem_of_getElem? (i := 49) rfl)) (hw _ (List.mem_of_getElem? (i := 4) rfl)) (by decide) (by decide)) (g := (mkF m 2 #[.val (.ref x0), .val (.int x1)] [(.int x1), (.ref x0)])) rfl (by rw [hml]; rfl) (Steps.refl _) (a := x0) (by rw [e0]; exact q1) q1' (argsL := [(.int x1)]) (rest := []) (lenOf pd_3 rfl) rfl (by show 2 * 0 + _ ≤ _; exact Nat.le_of_eq rfl) (hb hby d5_2) (fun _ _ => ⟨rfl, e0, (by decide : 0 + 0 ≤ _), (by decide : 0 + 0 ≤ _)⟩)
  dsimp only [Pt.U, Pt.locs, Pt.cells, Pt.slots] at X1 l1 y1 z1 st1 hQ1
  subst l1 y1 z1
  obtain ⟨rfl, N1q, e1⟩ := hQ1
  have N1 := Fr.app N0 N1q
  refine Ends.go st1 ?_
  show Ends p e below _ _ (T1.setTop (mkF m 5 #[.val (.ref x0), .val (.int x1)] []))
  obtain ⟨E0, F1, F2, F3, F4, F5, F6⟩ := HI
  refine Es.aloadN (q := 6) ?_ X1 hx (hb hby d5_5) rfl rfl rfl
  refine Es.dup (q := 7) ?_ X1 hx (hb hby d5_6) rfl rfl
  obtain ⟨T2, X2, e2, st2⟩ := getF X1 hx hZ hown (host := "") (Or.inl (hw _ (List.mem_of_getElem? (i := 31) rfl))) Via.refl e1 F2 (g := (mkF m 7 #[.val (.ref x0), .val (.int x1)] [(.ref x0), (.ref x0)])) rfl rfl (hb hby d5_7)
  refine Ends.by ?_ st2
  show Ends p e below _ _ (T2.setTop (mkF m 10 #[.val (.ref x0), .val (.int x1)] [(.int nx), (.ref x0)]))
  refine Es.iloadN (q := 11) ?_ X2 hx (hb hby d5_10) rfl rfl
  refine Es.iadd (q := 12) ?_ X2 hx (hb hby d5_11) rfl
  obtain ⟨T3, h3, X3, e3, W3, st3⟩ := putF X2 hx hZ hown (host := "") (Or.inl (hw _ (List.mem_of_getElem? (i := 31) rfl))) Via.refl e2 F2 E0 (Or.inl (hw _ (List.mem_of_getElem? (i := 32) rfl))) (hw _ (List.mem_of_getElem? (i := 3) rfl)) (ty := .int) (by decide) rfl rfl (g := (mkF m 12 #[.val (.ref x0), .val (.int x1)] [(.int (nx + x1)), (.ref x0)])) rfl rfl (hb hby d5_12)
  have Fw3 := Fld.same W3 F2
  have f4 := Exa.wr W3 E0
  have f5 := Fld.other W3 F1 (Or.inr (slot_ne (Or.inr (hw _ (List.mem_of_getElem? (i := 28) rfl))) (Or.inl (hw _ (List.mem_of_getElem? (i := 32) rfl))) (by decide) (t := (.array .byte)) (t' := .int) (by decide) (by decide)))
  have f7 := Fld.other W3 F3 (Or.inr (slot_ne (Or.inr (hw _ (List.mem_of_getElem? (i := 34) rfl))) (Or.inl (hw _ (List.mem_of_getElem? (i := 32) rfl))) (by decide) (t := .int) (t' := .int) (by decide) (by decide)))
  have f8 := Fld.other W3 F4 (Or.inr (slot_ne (Or.inr (hw _ (List.mem_of_getElem? (i := 36) rfl))) (Or.inl (hw _ (List.mem_of_getElem? (i := 32) rfl))) (by decide) (t := .boolean) (t' := .int) (by decide) (by decide)))
  have f9 := Fld.other W3 F5 (Or.inr (slot_ne (Or.inr (hw _ (List.mem_of_getElem? (i := 38) rfl))) (Or.inl (hw _ (List.mem_of_getElem? (i := 32) rfl))) (by decide) (t := (.array .int)) (t' := .int) (by decide) (by decide)))
  have f10 := Fld.other W3 F6 (Or.inr (slot_ne (Or.inr (hw _ (List.mem_of_getElem? (i := 40) rfl))) (Or.inl (hw _ (List.mem_of_getElem? (i := 32) rfl))) (by decide) (t := (.array .int)) (t' := .int) (by decide) (by decide)))
  have K11 := (Keep.refl h0 [x0]).wr W3 (Or.inl (by simp))
  have N3 := Fr.snoc X3 N1 g0
  have Zs12 : n0 ≤ h3.size := Nat.le_trans Z0 (Keep.of_wr W3).1
  refine Ends.by ?_ st3
  show Ends p e below _ _ (T3.setTop (mkF m 15 #[.val (.ref x0), .val (.int x1)] []))
  exact Ends.retV X3 hx Bd.notSynchronized Bd.returns (hb hby d5_15) (by rw [e3]; exact ⟨rfl, N3, K11, ⟨f4, f5, Fw3, f7, f8, f9, f10⟩⟩) (by decide) (by decide)

theorem d8_0 : decode prog_16_method_5_code 0 = .ok (.aload_n 0, 1) := by decide +kernel
theorem d8_1 : decode prog_16_method_5_code 1 = .ok (.getfield 34, 3) := by decide +kernel
theorem d8_4 : decode prog_16_method_5_code 4 = .ok (.ifCond .eq 48, 3) := by decide +kernel
theorem d8_52 : decode prog_16_method_5_code 52 = .ok (.aload_n 0, 1) := by decide +kernel
theorem d8_53 : decode prog_16_method_5_code 53 = .ok (.getfield 28, 3) := by decide +kernel
theorem d8_56 : decode prog_16_method_5_code 56 = .ok (.aload_n 0, 1) := by decide +kernel
theorem d8_57 : decode prog_16_method_5_code 57 = .ok (.getfield 31, 3) := by decide +kernel
theorem d8_60 : decode prog_16_method_5_code 60 = .ok (.if_icmp .ne 7, 3) := by decide +kernel
theorem d8_63 : decode prog_16_method_5_code 63 = .ok (.iconst 1, 1) := by decide +kernel
theorem d8_64 : decode prog_16_method_5_code 64 = .ok (.goto 4, 3) := by decide +kernel
theorem d8_68 : decode prog_16_method_5_code 68 = .ok (.ireturn, 1) := by decide +kernel
theorem d8_67 : decode prog_16_method_5_code 67 = .ok (.iconst 0, 1) := by decide +kernel
def fAt0 (x0 : Addr) (b : Addr) (nx : Int32) (en : Int32) : Int32 := (if nx = en then (1 : Int32) else (0 : Int32))
theorem ef_rmAt0 (m : MethodId) (x0 : Addr) : entryFrame m #[(.ref x0)] 1 = mkF m 0 #[.val (.ref x0)] [] := by first | (simp [entryFrame, mkF, argsToLocals, Value.category]; done) | rfl
set_option maxRecDepth 65536 in
set_option maxHeartbeats 40000000 in
theorem rmAt0 (l : Launch) (Z : State) (a0 : Array Value) (hw : ∀ d ∈ tables_1, d.before a0 Z = true) (ws : List Jvm.Cond) (x0 : Addr) (b : Addr) (nx : Int32) (en : Int32) (h0 : Heap) (n0 : Nat) (Z0 : n0 ≤ h0.size) (HI : OI Z h0 x0 b nx en 0) :
    MetFree l (⟨"com/example/tagwright/tagwright/codec/OctetInput", "atEnd", "()Z"⟩ : MethodName) (head1 (Jvm.Cond.code (⟨"com/example/tagwright/tagwright/codec/OctetInput", "atEnd", "()Z"⟩ : MethodName) prog_16_method_5_code 1 (some .boolean) :: ws) ({ frames := 0, cells := 0, slots := 0, locals := 0 } : Room)) (fun a U => a = #[(.ref x0)] ∧ Z.Warmed39 U.vm ∧ U.heap = h0) (fun _ _ _ _ _ => True) (fun _ U o U' => ∃ v L, o = .returned v ∧ (QP (some (.int (fAt0 x0 b nx en))) h0 n0) v U'.heap L ∧ FrameEnd U o U' L ({ frames := 0, cells := 0, slots := 0, locals := 0 } : Room).cells ({ frames := 0, cells := 0, slots := 0, locals := 0 } : Room).slots) := by
  refine MetFree.of_bodySF (plainFor_of_name pn_1) hisR ?_
  intro p e s m args below meth c s₁ Bd hml0 hP hK
  obtain ⟨rfl, hZ, hh⟩ := hP
  have hx := Bd.exec
  have hby := Bd.bytes
  have hml : c.maxLocals = 1 := hml0
  have hown : s.vm.findClass "com/example/tagwright/tagwright/codec/OctetInput" = some m.cls := findClass_of_methodNamed Bd.named
  have hnm := (name_of_methodNamed Bd.named Bd.method).1
  have X0 : Stand p l e ({ frames := 0, cells := 0, slots := 0, locals := 0 } : Room) s m #[(.ref x0)] below meth c s₁ [] 0 0 := Stand.of_body Bd
  have e0 : s₁.heap = h0 := by rw [← hh, Bd.state]; rfl
  have N0 := Fr.nil n0
  show Ends p e below (FE s ({ frames := 0, cells := 0, slots := 0, locals := 0 } : Room).cells ({ frames := 0, cells := 0, slots := 0, locals := 0 } : Room).slots) (QP (some (.int (fAt0 x0 b nx en))) h0 n0) (s₁.setTop (entryFrame m #[(.ref x0)] 1))
  rw [ef_rmAt0 m x0]
  have hv0 : fAt0 x0 b nx en = fAt0 x0 b nx en := rfl
  show Ends p e below _ _ (s₁.setTop (mkF m 0 #[.val (.ref x0)] []))
  obtain ⟨E0, F1, F2, F3, F4, F5, F6⟩ := HI
  refine Es.aloadN (q := 1) ?_ X0 hx (hb hby d8_0) rfl rfl rfl
  obtain ⟨T1, X1, e1, st1⟩ := getF X0 hx hZ hown (host := "") (Or.inl (hw _ (List.mem_of_getElem? (i := 35) rfl))) Via.refl e0 F4 (g := (mkF m 1 #[.val (.ref x0)] [(.ref x0)])) rfl rfl (hb hby d8_1)
  refine Ends.by ?_ st1
  show Ends p e below _ _ (T1.setTop (mkF m 4 #[.val (.ref x0)] [(.int (0 : Int32))]))
  refine Es.ifYes (q := 52) ?_ X1 hx (hb hby d8_4) (XT.i0_eq_t (by decide)) (by decide) (by decide)
  refine Es.aloadN (q := 53) ?_ X1 hx (hb hby d8_52) rfl rfl rfl
  obtain ⟨T2, X2, e2, st2⟩ := getF X1 hx hZ hown (host := "") (Or.inl (hw _ (List.mem_of_getElem? (i := 31) rfl))) Via.refl e1 F2 (g := (mkF m 53 #[.val (.ref x0)] [(.ref x0)])) rfl rfl (hb hby d8_53)
  refine Ends.by ?_ st2
  show Ends p e below _ _ (T2.setTop (mkF m 56 #[.val (.ref x0)] [(.int nx)]))
  refine Es.aloadN (q := 57) ?_ X2 hx (hb hby d8_56) rfl rfl rfl
  obtain ⟨T3, X3, e3, st3⟩ := getF X2 hx hZ hown (host := "") (Or.inl (hw _ (List.mem_of_getElem? (i := 33) rfl))) Via.refl e2 F3 (g := (mkF m 57 #[.val (.ref x0)] [(.ref x0), (.int nx)])) rfl rfl (hb hby d8_57)
  refine Ends.by ?_ st3
  show Ends p e below _ _ (T3.setTop (mkF m 60 #[.val (.ref x0)] [(.int en), (.int nx)]))
  by_cases hc4 : nx = en
  · have hv5 := hv0.trans (if_pos hc4)
    refine Es.icmpNo (q := 63) ?_ X3 hx (hb hby d8_60) rfl (XT.ii_ne_f hc4)
    refine Es.iconst (q := 64) (z := (1 : Int32)) ?_ X3 hx (hb hby d8_63) rfl rfl
    refine Es.goto (q := 68) ?_ X3 hx (hb hby d8_64) (by decide) (by decide)
    exact Ends.retN X3 hx Bd.notSynchronized Bd.returns (t := .boolean) (by simp) (hb hby d8_68) (w := (1 : Int32)) rfl ⟨by rw [hv5]; first | done | rfl, N0, e3⟩ (by decide) (by decide)
  · have hv6 := hv0.trans (if_neg hc4)
    refine Es.icmpYes (q := 67) ?_ X3 hx (hb hby d8_60) (XT.ii_ne_t hc4) (by decide) (by decide)
    refine Es.iconst (q := 68) (z := (0 : Int32)) ?_ X3 hx (hb hby d8_67) rfl rfl
    exact Ends.retN X3 hx Bd.notSynchronized Bd.returns (t := .boolean) (by simp) (hb hby d8_68) (w := (0 : Int32)) rfl ⟨by rw [hv6]; first | done | rfl, N0, e3⟩ (by decide) (by decide)

theorem own_two {nx en : Int32} {NN : Nat} (h1 : 0 ≤ nx.toInt) (h2 : nx.toInt ≤ en.toInt) (h3 : en.toInt = NN) (h4 : NN ≤ 4) (h : ¬ ((en - nx) < (2 : Int32))) : nx.toInt + 2 ≤ NN ∧ (nx + (1 : Int32)).toInt = nx.toInt + 1 := by
  rw [Int32.lt_iff_toInt_lt] at h
  have q1 := c_isub en nx
  have q2 := rng32 (en - nx)
  have q3 := c_iadd nx 1
  have q4 := rng32 (nx + 1)
  have e1 : (1 : Int32).toInt = 1 := rfl
  have e2 : (2 : Int32).toInt = 2 := rfl
  omega
theorem own_i0 {nx en : Int32} {NN : Nat} (h1 : 0 ≤ nx.toInt) (h2 : nx.toInt ≤ en.toInt) (h3 : en.toInt = NN) (h4 : NN ≤ 4) (h : ¬ ((en - nx) < (2 : Int32))) : 0 ≤ nx.toInt ∧ nx.toInt < NN := by have := own_two h1 h2 h3 h4 h; omega
theorem own_i1 {nx en : Int32} {NN : Nat} (h1 : 0 ≤ nx.toInt) (h2 : nx.toInt ≤ en.toInt) (h3 : en.toInt = NN) (h4 : NN ≤ 4) (h : ¬ ((en - nx) < (2 : Int32))) : 0 ≤ (nx + (1 : Int32)).toInt ∧ (nx + (1 : Int32)).toInt < NN := by have := own_two h1 h2 h3 h4 h; omega
theorem d8_7 : decode prog_16_method_5_code 7 = .ok (.aload_n 0, 1) := by decide +kernel
theorem d8_8 : decode prog_16_method_5_code 8 = .ok (.getfield 31, 3) := by decide +kernel
theorem d8_11 : decode prog_16_method_5_code 11 = .ok (.aload_n 0, 1) := by decide +kernel
theorem d8_12 : decode prog_16_method_5_code 12 = .ok (.getfield 28, 3) := by decide +kernel
theorem d8_15 : decode prog_16_method_5_code 15 = .ok (.isub, 1) := by decide +kernel
theorem d8_16 : decode prog_16_method_5_code 16 = .ok (.iconst 2, 1) := by decide +kernel
theorem d8_17 : decode prog_16_method_5_code 17 = .ok (.if_icmp .lt 33, 3) := by decide +kernel
theorem d8_50 : decode prog_16_method_5_code 50 = .ok (.iconst 0, 1) := by decide +kernel
theorem d8_51 : decode prog_16_method_5_code 51 = .ok (.ireturn, 1) := by decide +kernel
theorem d8_20 : decode prog_16_method_5_code 20 = .ok (.aload_n 0, 1) := by decide +kernel
theorem d8_21 : decode prog_16_method_5_code 21 = .ok (.getfield 22, 3) := by decide +kernel
theorem d8_24 : decode prog_16_method_5_code 24 = .ok (.aload_n 0, 1) := by decide +kernel
theorem d8_25 : decode prog_16_method_5_code 25 = .ok (.getfield 28, 3) := by decide +kernel
theorem d8_28 : decode prog_16_method_5_code 28 = .ok (.baload, 1) := by decide +kernel
theorem d8_29 : decode prog_16_method_5_code 29 = .ok (.ifCond .ne 21, 3) := by decide +kernel
theorem d8_32 : decode prog_16_method_5_code 32 = .ok (.aload_n 0, 1) := by decide +kernel
theorem d8_33 : decode prog_16_method_5_code 33 = .ok (.getfield 22, 3) := by decide +kernel
theorem d8_36 : decode prog_16_method_5_code 36 = .ok (.aload_n 0, 1) := by decide +kernel
theorem d8_37 : decode prog_16_method_5_code 37 = .ok (.getfield 28, 3) := by decide +kernel
theorem d8_40 : decode prog_16_method_5_code 40 = .ok (.iconst 1, 1) := by decide +kernel
theorem d8_41 : decode prog_16_method_5_code 41 = .ok (.iadd, 1) := by decide +kernel
theorem d8_42 : decode prog_16_method_5_code 42 = .ok (.baload, 1) := by decide +kernel
theorem d8_43 : decode prog_16_method_5_code 43 = .ok (.ifCond .ne 7, 3) := by decide +kernel
theorem d8_46 : decode prog_16_method_5_code 46 = .ok (.iconst 1, 1) := by decide +kernel
theorem d8_47 : decode prog_16_method_5_code 47 = .ok (.goto 4, 3) := by decide +kernel
def fAt1 (x0 : Addr) (b : Addr) (nx : Int32) (en : Int32) (NN : Nat) (g : Nat → Int32) : Int32 := (if (en - nx) < (2 : Int32) then (0 : Int32) else (if (g (nx).toNatClampNeg) = (0 : Int32) then (if (g ((nx + (1 : Int32))).toNatClampNeg) = (0 : Int32) then (1 : Int32) else (0 : Int32)) else (0 : Int32)))
theorem ef_rmAt1 (m : MethodId) (x0 : Addr) : entryFrame m #[(.ref x0)] 1 = mkF m 0 #[.val (.ref x0)] [] := by first | (simp [entryFrame, mkF, argsToLocals, Value.category]; done) | rfl
set_option maxRecDepth 65536 in
set_option maxHeartbeats 40000000 in
theorem rmAt1 (l : Launch) (Z : State) (a0 : Array Value) (hw : ∀ d ∈ tables_1, d.before a0 Z = true) (ws : List Jvm.Cond) (x0 : Addr) (b : Addr) (nx : Int32) (en : Int32) (NN : Nat) (g : Nat → Int32) (h0 : Heap) (n0 : Nat) (Z0 : n0 ≤ h0.size) (HI : OI Z h0 x0 b nx en 1) (V0 : Ary Z h0 b .byte NN g) (h1 : 0 ≤ nx.toInt) (h2 : nx.toInt ≤ en.toInt) (h3 : en.toInt = NN) (h4 : NN ≤ 4) :
    MetFree l (⟨"com/example/tagwright/tagwright/codec/OctetInput", "atEnd", "()Z"⟩ : MethodName) (head1 (Jvm.Cond.code (⟨"com/example/tagwright/tagwright/codec/OctetInput", "atEnd", "()Z"⟩ : MethodName) prog_16_method_5_code 1 (some .boolean) :: ws) ({ frames := 0, cells := 0, slots := 0, locals := 0 } : Room)) (fun a U => a = #[(.ref x0)] ∧ Z.Warmed39 U.vm ∧ U.heap = h0) (fun _ _ _ _ _ => True) (fun _ U o U' => ∃ v L, o = .returned v ∧ (QP (some (.int (fAt1 x0 b nx en NN g))) h0 n0) v U'.heap L ∧ FrameEnd U o U' L ({ frames := 0, cells := 0, slots := 0, locals := 0 } : Room).cells ({ frames := 0, cells := 0, slots := 0, locals := 0 } : Room).slots) := by
  refine MetFree.of_bodySF (plainFor_of_name pn_1) hisR ?_
  intro p e s m args below meth c s₁ Bd hml0 hP hK
  obtain ⟨rfl, hZ, hh⟩ := hP
  have hx := Bd.exec
  have hby := Bd.bytes
  have hml : c.maxLocals = 1 := hml0
  have hown : s.vm.findClass "com/example/tagwright/tagwright/codec/OctetInput" = some m.cls := findClass_of_methodNamed Bd.named
  have hnm := (name_of_methodNamed Bd.named Bd.method).1
  have X0 : Stand p l e ({ frames := 0, cells := 0, slots := 0, locals := 0 } : Room) s m #[(.ref x0)] below meth c s₁ [] 0 0 := Stand.of_body Bd
  have e0 : s₁.heap = h0 := by rw [← hh, Bd.state]; rfl
  have N0 := Fr.nil n0
  show Ends p e below (FE s ({ frames := 0, cells := 0, slots := 0, locals := 0 } : Room).cells ({ frames := 0, cells := 0, slots := 0, locals := 0 } : Room).slots) (QP (some (.int (fAt1 x0 b nx en NN g))) h0 n0) (s₁.setTop (entryFrame m #[(.ref x0)] 1))
  rw [ef_rmAt1 m x0]
  have hv0 : fAt1 x0 b nx en NN g = fAt1 x0 b nx en NN g := rfl
  show Ends p e below _ _ (s₁.setTop (mkF m 0 #[.val (.ref x0)] []))
  obtain ⟨E0, F1, F2, F3, F4, F5, F6⟩ := HI
  refine Es.aloadN (q := 1) ?_ X0 hx (hb hby d8_0) rfl rfl rfl
  obtain ⟨T1, X1, e1, st1⟩ := getF X0 hx hZ hown (host := "") (Or.inl (hw _ (List.mem_of_getElem? (i := 35) rfl))) Via.refl e0 F4 (g := (mkF m 1 #[.val (.ref x0)] [(.ref x0)])) rfl rfl (hb hby d8_1)
  refine Ends.by ?_ st1
  show Ends p e below _ _ (T1.setTop (mkF m 4 #[.val (.ref x0)] [(.int (1 : Int32))]))
  refine Es.ifNo (q := 7) ?_ X1 hx (hb hby d8_4) rfl (XT.i0_eq_f (by decide))
  refine Es.aloadN (q := 8) ?_ X1 hx (hb hby d8_7) rfl rfl rfl
  obtain ⟨T2, X2, e2, st2⟩ := getF X1 hx hZ hown (host := "") (Or.inl (hw _ (List.mem_of_getElem? (i := 33) rfl))) Via.refl e1 F3 (g := (mkF m 8 #[.val (.ref x0)] [(.ref x0)])) rfl rfl (hb hby d8_8)
  refine Ends.by ?_ st2
  show Ends p e below _ _ (T2.setTop (mkF m 11 #[.val (.ref x0)] [(.int en)]))
  refine Es.aloadN (q := 12) ?_ X2 hx (hb hby d8_11) rfl rfl rfl
  obtain ⟨T3, X3, e3, st3⟩ := getF X2 hx hZ hown (host := "") (Or.inl (hw _ (List.mem_of_getElem? (i := 31) rfl))) Via.refl e2 F2 (g := (mkF m 12 #[.val (.ref x0)] [(.ref x0), (.int en)])) rfl rfl (hb hby d8_12)
  refine Ends.by ?_ st3
  show Ends p e below _ _ (T3.setTop (mkF m 15 #[.val (.ref x0)] [(.int nx), (.int en)]))
  refine Es.isub (q := 16) ?_ X3 hx (hb hby d8_15) rfl
  refine Es.iconst (q := 17) (z := (2 : Int32)) ?_ X3 hx (hb hby d8_16) rfl rfl
  by_cases hc4 : (en - nx) < (2 : Int32)
  · have hv5 := hv0.trans (if_pos hc4)
    refine Es.icmpYes (q := 50) ?_ X3 hx (hb hby d8_17) (XT.ii_lt_t hc4) (by decide) (by decide)
    refine Es.iconst (q := 51) (z := (0 : Int32)) ?_ X3 hx (hb hby d8_50) rfl rfl
    exact Ends.retN X3 hx Bd.notSynchronized Bd.returns (t := .boolean) (by simp) (hb hby d8_51) (w := (0 : Int32)) rfl ⟨by rw [hv5]; first | done | rfl, N0, e3⟩ (by decide) (by decide)
  · have hv6 := hv0.trans (if_neg hc4)
    refine Es.icmpNo (q := 20) ?_ X3 hx (hb hby d8_17) rfl (XT.ii_lt_f hc4)
    refine Es.aloadN (q := 21) ?_ X3 hx (hb hby d8_20) rfl rfl rfl
    obtain ⟨T7, X7, e7, st7⟩ := getF X3 hx hZ hown (host := "") (Or.inl (hw _ (List.mem_of_getElem? (i := 27) rfl))) Via.refl e3 F1 (g := (mkF m 21 #[.val (.ref x0)] [(.ref x0)])) rfl rfl (hb hby d8_21)
    refine Ends.by ?_ st7
    show Ends p e below _ _ (T7.setTop (mkF m 24 #[.val (.ref x0)] [(.ref b)]))
    refine Es.aloadN (q := 25) ?_ X7 hx (hb hby d8_24) rfl rfl rfl
    obtain ⟨T8, X8, e8, st8⟩ := getF X7 hx hZ hown (host := "") (Or.inl (hw _ (List.mem_of_getElem? (i := 31) rfl))) Via.refl e7 F2 (g := (mkF m 25 #[.val (.ref x0)] [(.ref x0), (.ref b)])) rfl rfl (hb hby d8_25)
    refine Ends.by ?_ st8
    show Ends p e below _ _ (T8.setTop (mkF m 28 #[.val (.ref x0)] [(.int nx), (.ref b)]))
    refine Ends.bald ?_ X8 hx hZ e8 V0 (own_i0 h1 h2 h3 h4 hc4) (hb hby d8_28)
    show Ends p e below _ _ (T8.setTop (mkF m 29 #[.val (.ref x0)] [(.int (g (nx).toNatClampNeg))]))
    by_cases hc9 : (g (nx).toNatClampNeg) = (0 : Int32)
    · have hv10 := hv6.trans (if_pos hc9)
      refine Es.ifNo (q := 32) ?_ X8 hx (hb hby d8_29) rfl (XT.i0_ne_f hc9)
      refine Es.aloadN (q := 33) ?_ X8 hx (hb hby d8_32) rfl rfl rfl
      obtain ⟨T11, X11, e11, st11⟩ := getF X8 hx hZ hown (host := "") (Or.inl (hw _ (List.mem_of_getElem? (i := 27) rfl))) Via.refl e8 F1 (g := (mkF m 33 #[.val (.ref x0)] [(.ref x0)])) rfl rfl (hb hby d8_33)
      refine Ends.by ?_ st11
      show Ends p e below _ _ (T11.setTop (mkF m 36 #[.val (.ref x0)] [(.ref b)]))
      refine Es.aloadN (q := 37) ?_ X11 hx (hb hby d8_36) rfl rfl rfl
      obtain ⟨T12, X12, e12, st12⟩ := getF X11 hx hZ hown (host := "") (Or.inl (hw _ (List.mem_of_getElem? (i := 31) rfl))) Via.refl e11 F2 (g := (mkF m 37 #[.val (.ref x0)] [(.ref x0), (.ref b)])) rfl rfl (hb hby d8_37)
      refine Ends.by ?_ st12
      show Ends p e below _ _ (T12.setTop (mkF m 40 #[.val (.ref x0)] [(.int nx), (.ref b)]))
      refine Es.iconst (q := 41) (z := (1 : Int32)) ?_ X12 hx (hb hby d8_40) rfl rfl
      refine Es.iadd (q := 42) ?_ X12 hx (hb hby d8_41) rfl
      refine Ends.bald ?_ X12 hx hZ e12 V0 (own_i1 h1 h2 h3 h4 hc4) (hb hby d8_42)
      show Ends p e below _ _ (T12.setTop (mkF m 43 #[.val (.ref x0)] [(.int (g ((nx + (1 : Int32))).toNatClampNeg))]))
      by_cases hc13 : (g ((nx + (1 : Int32))).toNatClampNeg) = (0 : Int32)
      · have hv14 := hv10.trans (if_pos hc13)
        refine Es.ifNo (q := 46) ?_ X12 hx (hb hby d8_43) rfl (XT.i0_ne_f hc13)
        refine Es.iconst (q := 47) (z := (1 : Int32)) ?_ X12 hx (hb hby d8_46) rfl rfl
        refine Es.goto (q := 51) ?_ X12 hx (hb hby d8_47) (by decide) (by decide)
        exact Ends.retN X12 hx Bd.notSynchronized Bd.returns (t := .boolean) (by simp) (hb hby d8_51) (w := (1 : Int32)) rfl ⟨by rw [hv14]; first | done | rfl, N0, e12⟩ (by decide) (by decide)
      · have hv15 := hv10.trans (if_neg hc13)
        refine Es.ifYes (q := 50) ?_ X12 hx (hb hby d8_43) (XT.i0_ne_t hc13) (by decide) (by decide)
        refine Es.iconst (q := 51) (z := (0 : Int32)) ?_ X12 hx (hb hby d8_50) rfl rfl
        exact Ends.retN X12 hx Bd.notSynchronized Bd.returns (t := .boolean) (by simp) (hb hby d8_51) (w := (0 : Int32)) rfl ⟨by rw [hv15]; first | done | rfl, N0, e12⟩ (by decide) (by decide)
    · have hv16 := hv6.trans (if_neg hc9)
      refine Es.ifYes (q := 50) ?_ X8 hx (hb hby d8_29) (XT.i0_ne_t hc9) (by decide) (by decide)
      refine Es.iconst (q := 51) (z := (0 : Int32)) ?_ X8 hx (hb hby d8_50) rfl rfl
      exact Ends.retN X8 hx Bd.notSynchronized Bd.returns (t := .boolean) (by simp) (hb hby d8_51) (w := (0 : Int32)) rfl ⟨by rw [hv16]; first | done | rfl, N0, e8⟩ (by decide) (by decide)

theorem d9_0 : decode prog_16_method_14_code 0 = .ok (.new 12, 3) := by decide +kernel
theorem d9_3 : decode prog_16_method_14_code 3 = .ok (.dup, 1) := by decide +kernel
theorem d9_4 : decode prog_16_method_14_code 4 = .ok (.aload_n 0, 1) := by decide +kernel
theorem d9_5 : decode prog_16_method_14_code 5 = .ok (.getfield 22, 3) := by decide +kernel
theorem d9_8 : decode prog_16_method_14_code 8 = .ok (.aload_n 0, 1) := by decide +kernel
theorem d9_9 : decode prog_16_method_14_code 9 = .ok (.getfield 28, 3) := by decide +kernel
theorem d9_12 : decode prog_16_method_14_code 12 = .ok (.aload_n 0, 1) := by decide +kernel
theorem d9_13 : decode prog_16_method_14_code 13 = .ok (.getfield 31, 3) := by decide +kernel
theorem d9_16 : decode prog_16_method_14_code 16 = .ok (.iconst 1, 1) := by decide +kernel
theorem d9_17 : decode prog_16_method_14_code 17 = .ok (.aload_n 0, 1) := by decide +kernel
theorem d9_18 : decode prog_16_method_14_code 18 = .ok (.getfield 38, 3) := by decide +kernel
theorem d9_21 : decode prog_16_method_14_code 21 = .ok (.aload_n 0, 1) := by decide +kernel
theorem d9_22 : decode prog_16_method_14_code 22 = .ok (.getfield 42, 3) := by decide +kernel
theorem d9_25 : decode prog_16_method_14_code 25 = .ok (.invokespecial 11, 3) := by decide +kernel
theorem d9_28 : decode prog_16_method_14_code 28 = .ok (.areturn, 1) := by decide +kernel
theorem ef_rm9 (m : MethodId) (x0 : Addr) : entryFrame m #[(.ref x0)] 1 = mkF m 0 #[.val (.ref x0)] [] := by first | (simp [entryFrame, mkF, argsToLocals, Value.category]; done) | rfl
set_option maxRecDepth 65536 in
set_option maxHeartbeats 40000000 in
theorem rm9 (l : Launch) (Z : State) (a0 : Array Value) (hw : ∀ d ∈ tables_1, d.before a0 Z = true) (ws : List Jvm.Cond) (x0 : Addr) (b : Addr) (nx en t : Int32) (h0 : Heap) (n0 : Nat) (Z0 : n0 ≤ h0.size) (HI : OI Z h0 x0 b nx en t) :
    MetFree l (⟨"com/example/tagwright/tagwright/codec/OctetInput", "takeToEndOfContents", "()Lcom/example/tagwright/tagwright/codec/OctetInput;"⟩ : MethodName) (head1 (Jvm.Cond.code (⟨"com/example/tagwright/tagwright/codec/OctetInput", "takeToEndOfContents", "()Lcom/example/tagwright/tagwright/codec/OctetInput;"⟩ : MethodName) prog_16_method_14_code 1 (some (.object "com/example/tagwright/tagwright/codec/OctetInput")) :: ws) ({ frames := 2, cells := 1, slots := 7, locals := 31 } : Room)) (fun a U => a = #[(.ref x0)] ∧ Z.Warmed39 U.vm ∧ U.heap = h0) (fun _ _ _ _ _ => True) (fun _ U o U' => ∃ v L, o = .returned v ∧ (QN Z h0 n0 b nx en) v U'.heap L ∧ FrameEnd U o U' L ({ frames := 2, cells := 1, slots := 7, locals := 31 } : Room).cells ({ frames := 2, cells := 1, slots := 7, locals := 31 } : Room).slots) := by
  refine MetFree.of_bodySF (plainFor_of_name pn_1) hisR ?_
  intro p e s m args below meth c s₁ Bd hml0 hP hK
  obtain ⟨rfl, hZ, hh⟩ := hP
  have hx := Bd.exec
  have hby := Bd.bytes
  have hml : c.maxLocals = 1 := hml0
  have hown : s.vm.findClass "com/example/tagwright/tagwright/codec/OctetInput" = some m.cls := findClass_of_methodNamed Bd.named
  have hnm := (name_of_methodNamed Bd.named Bd.method).1
  have X0 : Stand p l e ({ frames := 2, cells := 1, slots := 7, locals := 31 } : Room) s m #[(.ref x0)] below meth c s₁ [] 0 0 := Stand.of_body Bd
  have e0 : s₁.heap = h0 := by rw [← hh, Bd.state]; rfl
  have N0 := Fr.nil n0
  show Ends p e below (FE s ({ frames := 2, cells := 1, slots := 7, locals := 31 } : Room).cells ({ frames := 2, cells := 1, slots := 7, locals := 31 } : Room).slots) (QN Z h0 n0 b nx en) (s₁.setTop (entryFrame m #[(.ref x0)] 1))
  rw [ef_rm9 m x0]
  show Ends p e below _ _ (s₁.setTop (mkF m 0 #[.val (.ref x0)] []))
  obtain ⟨E0, F1, F2, F3, F4, F5, F6⟩ := HI
  obtain ⟨T1, h1, X1, e1, E1, A1, D1, -, st1⟩ := newO X0 hx hZ hown (hw _ (List.mem_of_getElem? (i := 65) rfl)) (hw _ (List.mem_of_getElem? (i := 3) rfl)) (hw _ (List.mem_of_getElem? (i := 4) rfl)) e0 (g := (mkF m 0 #[.val (.ref x0)] [])) rfl (hb hby d9_0) (by decide) (by decide)
  obtain ⟨b1, g1⟩ : ∃ z, z = h0.size := ⟨_, rfl⟩
  rw [← g1] at A1 D1 st1
  have ne2 : x0 ≠ b1 := Nat.ne_of_lt (Nat.lt_of_lt_of_le E0.lt (Nat.le_of_eq g1.symm))
  have gn1 : n0 ≤ b1 := Nat.le_trans Z0 (Nat.le_of_eq g1.symm)
  have sz1 : h0.size ≤ b1 := Nat.le_trans (Keep.refl h0 []).1 (Nat.le_of_eq g1.symm)
  have f3 := Exa.ext E1 E0
  have f4 := Fld.ext E1 F1
  have f5 := Fld.ext E1 F2
  have f6 := Fld.ext E1 F3
  have f7 := Fld.ext E1 F4
  have f8 := Fld.ext E1 F5
  have f9 := Fld.ext E1 F6
  have K10 := (Keep.refl h0 []).ext E1
  have F1_octets : Fld Z h1 b1 "com/example/tagwright/tagwright/codec/OctetInput" "octets" "[B" .null := D1 (Or.inr (hw _ (List.mem_of_getElem? (i := 28) rfl))) (ty := (.array .byte)) (by decide)
  have F1_start : Fld Z h1 b1 "com/example/tagwright/tagwright/codec/OctetInput" "start" "I" (.int (0 : Int32)) := D1 (Or.inr (hw _ (List.mem_of_getElem? (i := 30) rfl))) (ty := .int) (by decide)
  have F1_next : Fld Z h1 b1 "com/example/tagwright/tagwright/codec/OctetInput" "next" "I" (.int (0 : Int32)) := D1 (Or.inl (hw _ (List.mem_of_getElem? (i := 32) rfl))) (ty := .int) (by decide)
  have F1_end : Fld Z h1 b1 "com/example/tagwright/tagwright/codec/OctetInput" "end" "I" (.int (0 : Int32)) := D1 (Or.inr (hw _ (List.mem_of_getElem? (i := 34) rfl))) (ty := .int) (by decide)
  have F1_toEndOfContents : Fld Z h1 b1 "com/example/tagwright/tagwright/codec/OctetInput" "toEndOfContents" "Z" (.int (0 : Int32)) := D1 (Or.inr (hw _ (List.mem_of_getElem? (i := 36) rfl))) (ty := .boolean) (by decide)
  have F1_pieceIndexes : Fld Z h1 b1 "com/example/tagwright/tagwright/codec/OctetInput" "pieceIndexes" "[I" .null := D1 (Or.inr (hw _ (List.mem_of_getElem? (i := 38) rfl))) (ty := (.array .int)) (by decide)
  have F1_pieceOffsets : Fld Z h1 b1 "com/example/tagwright/tagwright/codec/OctetInput" "pieceOffsets" "[I" .null := D1 (Or.inr (hw _ (List.mem_of_getElem? (i := 40) rfl))) (ty := (.array .int)) (by decide)
  have Zs11 : n0 ≤ h1.size := Nat.le_trans Z0 E1.1
  refine Ends.by ?_ st1
  show Ends p e below _ _ (T1.setTop (mkF m 3 #[.val (.ref x0)] [(.ref b1)]))
  refine Es.dup (q := 4) ?_ X1 hx (hb hby d9_3) rfl rfl
  refine Es.aloadN (q := 5) ?_ X1 hx (hb hby d9_4) rfl rfl rfl
  obtain ⟨T12, X12, e12, st12⟩ := getF X1 hx hZ hown (host := "") (Or.inl (hw _ (List.mem_of_getElem? (i := 27) rfl))) Via.refl e1 f4 (g := (mkF m 5 #[.val (.ref x0)] [(.ref x0), (.ref b1), (.ref b1)])) rfl rfl (hb hby d9_5)
  refine Ends.by ?_ st12
  show Ends p e below _ _ (T12.setTop (mkF m 8 #[.val (.ref x0)] [(.ref b), (.ref b1), (.ref b1)]))
  refine Es.aloadN (q := 9) ?_ X12 hx (hb hby d9_8) rfl rfl rfl
  obtain ⟨T13, X13, e13, st13⟩ := getF X12 hx hZ hown (host := "") (Or.inl (hw _ (List.mem_of_getElem? (i := 31) rfl))) Via.refl e12 f5 (g := (mkF m 9 #[.val (.ref x0)] [(.ref x0), (.ref b), (.ref b1), (.ref b1)])) rfl rfl (hb hby d9_9)
  refine Ends.by ?_ st13
  show Ends p e below _ _ (T13.setTop (mkF m 12 #[.val (.ref x0)] [(.int nx), (.ref b), (.ref b1), (.ref b1)]))
  refine Es.aloadN (q := 13) ?_ X13 hx (hb hby d9_12) rfl rfl rfl
  obtain ⟨T14, X14, e14, st14⟩ := getF X13 hx hZ hown (host := "") (Or.inl (hw _ (List.mem_of_getElem? (i := 33) rfl))) Via.refl e13 f6 (g := (mkF m 13 #[.val (.ref x0)] [(.ref x0), (.int nx), (.ref b), (.ref b1), (.ref b1)])) rfl rfl (hb hby d9_13)
  refine Ends.by ?_ st14
  show Ends p e below _ _ (T14.setTop (mkF m 16 #[.val (.ref x0)] [(.int en), (.int nx), (.ref b), (.ref b1), (.ref b1)]))
  refine Es.iconst (q := 17) (z := (1 : Int32)) ?_ X14 hx (hb hby d9_16) rfl rfl
  refine Es.aloadN (q := 18) ?_ X14 hx (hb hby d9_17) rfl rfl rfl
  obtain ⟨T15, X15, e15, st15⟩ := getF X14 hx hZ hown (host := "") (Or.inl (hw _ (List.mem_of_getElem? (i := 37) rfl))) Via.refl e14 f8 (g := (mkF m 18 #[.val (.ref x0)] [(.ref x0), (.int (1 : Int32)), (.int en), (.int nx), (.ref b), (.ref b1), (.ref b1)])) rfl rfl (hb hby d9_18)
  refine Ends.by ?_ st15
  show Ends p e below _ _ (T15.setTop (mkF m 21 #[.val (.ref x0)] [.null, (.int (1 : Int32)), (.int en), (.int nx), (.ref b), (.ref b1), (.ref b1)]))
  refine Es.aloadN (q := 22) ?_ X15 hx (hb hby d9_21) rfl rfl rfl
  obtain ⟨T16, X16, e16, st16⟩ := getF X15 hx hZ hown (host := "") (Or.inl (hw _ (List.mem_of_getElem? (i := 39) rfl))) Via.refl e15 f9 (g := (mkF m 22 #[.val (.ref x0)] [(.ref x0), .null, (.int (1 : Int32)), (.int en), (.int nx), (.ref b), (.ref b1), (.ref b1)])) rfl rfl (hb hby d9_22)
  refine Ends.by ?_ st16
  show Ends p e below _ _ (T16.setTop (mkF m 25 #[.val (.ref x0)] [.null, .null, (.int (1 : Int32)), (.int en), (.int nx), (.ref b), (.ref b1), (.ref b1)]))
  obtain ⟨v17, _, ⟨T17, L17, k17, n17⟩, -, X17, ⟨Lc17, hQ17, l17, y17, z17⟩, st17⟩ := X16.specialBack hx (y := (⟨"com/example/tagwright/tagwright/codec/OctetInput", "<init>", "([BIIZ[I[I)V"⟩ : MethodName)) rfl hown (mvT hZ (hw _ (List.mem_of_getElem? (i := 21) rfl))) (mvT hZ (hw _ (List.mem_of_getElem? (i := 22) rfl))) (mvT hZ (hw _ (List.mem_of_getElem? (i := 23) rfl))) (by decide) (backOf (W := 1) (rmK1 l Z a0 hw [] b1 b nx en h1 n0 Zs11 A1 F1_octets F1_start F1_next F1_end F1_toEndOfContents F1_pieceIndexes F1_pieceOffsets gn1) hZ (hw _ (List.mem_of_getElem? (i := 23) rfl)) (hw _ (List.mem_of_getElem? (i := 4) rfl)) (by decide) (by decide)) (g := (mkF m 25 #[.val (.ref x0)] [.null, .null, (.int (1 : Int32)), (.int en), (.int nx), (.ref b), (.ref b1), (.ref b1)])) rfl (by rw [hml]; rfl) (Steps.refl _) (a := b1) (argsL := [(.ref b), (.int nx), (.int en), (.int (1 : Int32)), .null, .null]) (rest := [(.ref b1)]) (lenOf pd_1 rfl) rfl (by show 2 * 0 + _ ≤ _; exact Nat.le_of_eq rfl) (hb hby d9_25) (fun _ _ => ⟨rfl, e16, (by decide : 1 + 0 ≤ _), (by decide : 7 + 0 ≤ _)⟩)
  dsimp only [Pt.U, Pt.locs, Pt.cells, Pt.slots] at X17 l17 y17 z17 st17 hQ17
  subst l17 y17 z17
  obtain ⟨rfl, N17q, K17, HI17⟩ := hQ17
  have N17 := Fr.app N0 N17q
  have f18 := f3.keep K17
  have f19 := f4.keep K17 (by simp [ne2])
  have f20 := f5.keep K17 (by simp [ne2])
  have f21 := f6.keep K17 (by simp [ne2])
  have f22 := f7.keep K17 (by simp [ne2])
  have f23 := f8.keep K17 (by simp [ne2])
  have f24 := f9.keep K17 (by simp [ne2])
  have K25 := K10.trans K17 (by intro x hx; simp only [List.mem_cons, List.not_mem_nil, or_false] at hx; obtain rfl := hx; exact (Or.inr sz1))
  have Zs26 : n0 ≤ T17.heap.size := Nat.le_trans Zs11 K17.1
  refine Ends.go st17 ?_
  show Ends p e below _ _ (T17.setTop (mkF m 28 #[.val (.ref x0)] [(.ref b1)]))
  exact Ends.retA X17 hx Bd.notSynchronized Bd.returns rfl (fun _ => rfl) (hb hby d9_28) ⟨_, rfl, N17, K25, sz1, HI17⟩ (by decide) (by decide)

theorem own_n (x : Int32) : ∃ (N : Nat) (a : Int32), a = (x &&& (2147483647 : Int32)) % (5 : Int32) ∧ N ≤ 4 ∧ a = Int32.ofNat N := by
  have h := c_mask x 2147483647 31 (by decide) (by decide)
  have h2 := (c_irem (x &&& (2147483647 : Int32)) 5 5 (by decide)).1 (by omega)
  refine ⟨(((x &&& (2147483647 : Int32)) % (5 : Int32)).toInt).toNat, _, rfl, by omega, ?_⟩
  apply Int32.toInt_inj.mp
  rw [own_ofNat (by omega)]; omega
theorem own_k (x : Int32) {r : Int32} {R : Nat} (hr : r.toInt = R) (h0 : 0 < R) (h1 : R ≤ 100) : ∃ (K : Nat) (a : Int32), a = (x &&& (2147483647 : Int32)) % r ∧ K < R ∧ a.toInt = K := by
  have h := c_mask x 2147483647 31 (by decide) (by decide)
  have h2 := (c_irem (x &&& (2147483647 : Int32)) r R hr).1 (by omega)
  have h3 := Int.emod_nonneg (x &&& (2147483647 : Int32)).toInt (show (R : Int) ≠ 0 by omega)
  have h4 := Int.emod_lt_of_pos (x &&& (2147483647 : Int32)).toInt (show 0 < (R : Int) by omega)
  exact ⟨(((x &&& (2147483647 : Int32)) % r).toInt).toNat, _, rfl, by omega, by omega⟩
theorem own_r1 {nn : Int32} {NN : Nat} (hnn : nn = Int32.ofNat NN) (hNN : NN ≤ 4) : (nn + (1 : Int32)).toInt = ((NN + 1 : Nat) : Int) := by
  have q0 : nn.toInt = NN := by rw [hnn]; exact own_ofNat (by omega)
  have q1 := c_iadd nn 1
  have q2 := rng32 (nn + 1)
  have e1 : (1 : Int32).toInt = 1 := rfl
  omega
theorem own_r2 {nn kk : Int32} {NN KK : Nat} (hnn : nn = Int32.ofNat NN) (hNN : NN ≤ 4) (hKK : KK < NN + 1) (hkk : kk.toInt = KK) : (nn - kk + (1 : Int32)).toInt = ((NN - KK + 1 : Nat) : Int) := by
  have q0 : nn.toInt = NN := by rw [hnn]; exact own_ofNat (by omega)
  have q1 := c_isub nn kk
  have q2 := rng32 (nn - kk)
  have q3 := c_iadd (nn - kk) 1
  have q4 := rng32 (nn - kk + 1)
  have e1 : (1 : Int32).toInt = 1 := rfl
  omega
theorem own_s1 {kk : Int32} {KK : Nat} (hkk : kk.toInt = KK) : ¬ (kk < (0 : Int32)) := by
  rw [Int32.lt_iff_toInt_lt]; have e0 : (0 : Int32).toInt = 0 := rfl; omega
theorem own_s2 {kk : Int32} {NN KK : Nat} (hNN : NN ≤ 4) (hKK : KK < NN + 1) (hkk : kk.toInt = KK) : ¬ ((Int32.ofNat NN - (0 : Int32)) < kk) := by
  rw [Int32.lt_iff_toInt_lt, Int32.sub_zero, own_ofNat (by omega)]; omega
theorem own_p0 {kk jj : Int32} {NN KK JJ : Nat} (hNN : NN ≤ 4) (hKK : KK < NN + 1) (hkk : kk.toInt = KK) (hJJ : JJ < NN - KK + 1) (hjj : jj.toInt = JJ) : (kk + jj).toInt = ((KK + JJ : Nat) : Int) := by
  have q1 := c_iadd kk jj
  have q2 := rng32 (kk + jj)
  omega
theorem own_s3 {kk jj : Int32} {NN KK JJ : Nat} (hNN : NN ≤ 4) (hKK : KK < NN + 1) (hkk : kk.toInt = KK) (hJJ : JJ < NN - KK + 1) (hjj : jj.toInt = JJ) : ¬ ((Int32.ofNat NN - ((0 : Int32) + kk)) < jj) := by
  rw [Int32.zero_add, Int32.lt_iff_toInt_lt]
  have q0 := own_ofNat (i := NN) (by omega)
  have q1 := c_isub (Int32.ofNat NN) kk
  have q2 := rng32 (Int32.ofNat NN - kk)
  omega
theorem own_p1 {kk jj : Int32} {NN KK JJ : Nat} (hNN : NN ≤ 4) (hKK : KK < NN + 1) (hkk : kk.toInt = KK) (hJJ : JJ < NN - KK + 1) (hjj : jj.toInt = JJ) : 0 ≤ ((0 : Int32) + kk + jj).toInt := by
  rw [Int32.zero_add, own_p0 hNN hKK hkk hJJ hjj]; omega
theorem own_p2 {kk jj : Int32} {NN KK JJ : Nat} (hNN : NN ≤ 4) (hKK : KK < NN + 1) (hkk : kk.toInt = KK) (hJJ : JJ < NN - KK + 1) (hjj : jj.toInt = JJ) : ((0 : Int32) + kk + jj).toInt ≤ (Int32.ofNat NN).toInt := by
  rw [Int32.zero_add, own_p0 hNN hKK hkk hJJ hjj, own_ofNat (by omega)]; omega
theorem own_nz {r : Int32} {R : Nat} (hr : r.toInt = R) (h0 : 0 < R) : r ≠ 0 := fun q => by
  have := congrArg Int32.toInt q
  have e0 : (0 : Int32).toInt = 0 := rfl
  omega
theorem own_in {i nn : Int32} {I NN : Nat} (hi : i.toInt = I) (hnn : nn = Int32.ofNat NN) (h4 : NN ≤ 4) (h : i < nn) : 0 ≤ i.toInt ∧ i.toInt < NN := by
  rw [Int32.lt_iff_toInt_lt, hnn, own_ofNat (by omega)] at h; omega
theorem own_at0 {x b : Addr} {nx en k nn : Int32} (h1 : nx = k) (h2 : en = nn) : fAt0 x b nx en = if k = nn then 1 else 0 := by
  subst h1 h2; rfl
theorem pd_4 : parseMethodDescriptor "([B)V" = some ⟨[(.array .byte)], none⟩ := by decide +kernel
theorem pd_5 : parseMethodDescriptor "()Z" = some ⟨[], some .boolean⟩ := by decide +kernel
theorem pd_6 : parseMethodDescriptor "()Lcom/example/tagwright/tagwright/codec/OctetInput;" = some ⟨[], some (.object "com/example/tagwright/tagwright/codec/OctetInput")⟩ := by decide +kernel
set_option maxRecDepth 65536 in
set_option maxHeartbeats 40000000 in
theorem sg0_206 {p : Program} {l : Launch} {e : Env} {s : State} {m : MethodId} {args : Array Value} {below : List Frame} {meth : Method} {c : Code} {Z : State} {a0 : Array Value} {vm0 : Vm} {kS : Nat} (hx : p.tables.exec = Jvm.exec) (hZ : Z.Warmed39 vm0) (hw : ∀ d ∈ tables_1, d.before a0 Z = true) (hby : c.code = code) (hml : c.maxLocals = 13) (hown : vm0.findClass "com/example/tagwright/tagwright/codec/OctetInputAtEndPinLaw" = some m.cls) (hlk : meth.locks = false) (hret : meth.sig.returnType = some .boolean) {T : State} {locs : List Loc} {h : Heap} {n0 : Nat} (x0 : Int32) (x1 : Int32) (x2 : Int32) (x3 : Int32) (NN : Nat) (nn : Int32) (gg : Nat → Int32) (KK : Nat) (kk : Int32) (JJ : Nat) (jj : Int32) (exd : Int32) (b1 : Addr) (b28 : Addr) (cc : Addr) (hS : s.Since vm0 kS) (hk : kS ≤ h.size) (X : Stand p l e room_1 (s.setVm vm0) m args below meth c T locs 5 46) (eT : T.heap = h) (N : Fr n0 locs) (Zs : n0 ≤ h.size) (q0 : Ary Z h b1 .byte NN gg) (q1 : Exa Z h b1 "[B") (q2 : OI Z h b28 b1 (0 + kk) (Int32.ofNat NN) 0) (q3 : OI Z h cc b1 ((0 + kk) + jj) (Int32.ofNat NN) 1) (ne0_ : b1 ≠ b28) (ne1_ : b1 ≠ cc) (ne2_ : b28 ≠ cc) (old0_ : n0 ≤ b1) (old1_ : n0 ≤ b28) (old2_ : n0 ≤ cc) (hNN : NN ≤ 4) (hnn : nn = Int32.ofNat NN) (hKK : KK < NN + 1) (hkk : kk.toInt = KK) (hJJ : JJ < NN - KK + 1) (hjj : jj.toInt = JJ) :
    Ends p e below (FW s room_1.cells room_1.slots) (QL n0) (T.setTop (mkF m 206 #[.val (.int x0), .val (.int x1), .val (.int x2), .val (.int x3), .val (.int nn), .val (.ref b1), .val (.ref b28), .val (.int kk), .val (.int (fAt0 b28 b1 (0 + kk) (Int32.ofNat NN))), .val (.ref cc), .val (.int jj), .val (.int (kk + jj)), .val (.int exd)] [])) := by
  show Ends p e below _ _ (T.setTop (mkF m 206 #[.val (.int x0), .val (.int x1), .val (.int x2), .val (.int x3), .val (.int nn), .val (.ref b1), .val (.ref b28), .val (.int kk), .val (.int (fAt0 b28 b1 (0 + kk) (Int32.ofNat NN))), .val (.ref cc), .val (.int jj), .val (.int (kk + jj)), .val (.int exd)] []))
  refine Es.aload (q := 208) ?_ X hx (hb hby at_206) rfl rfl rfl
  obtain ⟨cq59, kq59, q59a, q59b, q59c⟩ := isOf (s := s.setVm vm0) hZ eT q2.1
  obtain ⟨v59, _, ⟨T59, L59, k59, n59⟩, -, X59, ⟨Lc59, hQ59, l59, y59, z59⟩, st59⟩ := X.virtualBack hx (y := (⟨"com/example/tagwright/tagwright/codec/OctetInput", "atEnd", "()Z"⟩ : MethodName)) (z := (⟨"com/example/tagwright/tagwright/codec/OctetInput", "atEnd", "()Z"⟩ : MethodName)) hown (mvT hZ (hw _ (List.mem_of_getElem? (i := 55) rfl))) (mvT hZ (hw _ (List.mem_of_getElem? (i := 56) rfl))) (notFace_of_selects (args := #[]) (mvT hZ (hw _ (List.mem_of_getElem? (i := 58) rfl)))) (mvT hZ (hw _ (List.mem_of_getElem? (i := 58) rfl))) (mvT hZ (hw _ (List.mem_of_getElem? (i := 57) rfl))) (by decide) (backOf (W := 0) (rmAt0 l Z a0 hw [] b28 b1 (0 + kk) (Int32.ofNat NN) h n0 Zs q2) hZ (hw _ (List.mem_of_getElem? (i := 59) rfl)) (hw _ (List.mem_of_getElem? (i := 4) rfl)) (by decide) (by decide)) q59a q59c (g := (mkF m 208 #[.val (.int x0), .val (.int x1), .val (.int x2), .val (.int x3), .val (.int nn), .val (.ref b1), .val (.ref b28), .val (.int kk), .val (.int (fAt0 b28 b1 (0 + kk) (Int32.ofNat NN))), .val (.ref cc), .val (.int jj), .val (.int (kk + jj)), .val (.int exd)] [(.ref b28)])) rfl (by rw [hml]; rfl) (Steps.refl _) (argsL := []) (rest := []) (lenOf pd_5 rfl) rfl (by show 2 * 0 + _ ≤ _; exact Nat.le_of_eq rfl) (hb hby at_208) (fun _ _ => ⟨rfl, eT, (by decide : 5 + 0 ≤ _), (by decide : 46 + 0 ≤ _)⟩)
  dsimp only [Pt.U, Pt.locs, Pt.cells, Pt.slots] at X59 l59 y59 z59 st59 hQ59
  subst l59 y59 z59
  obtain ⟨rfl, N59q, e59⟩ := hQ59
  have N59 := Fr.app N N59q
  refine Ends.go st59 ?_
  show Ends p e below _ _ (T59.setTop (mkF m 211 #[.val (.int x0), .val (.int x1), .val (.int x2), .val (.int x3), .val (.int nn), .val (.ref b1), .val (.ref b28), .val (.int kk), .val (.int (fAt0 b28 b1 (0 + kk) (Int32.ofNat NN))), .val (.ref cc), .val (.int jj), .val (.int (kk + jj)), .val (.int exd)] [(.int (fAt0 b28 b1 (0 + kk) (Int32.ofNat NN)))]))
  refine Es.iload (q := 213) ?_ X59 hx (hb hby at_211) rfl rfl
  refine Es.iload (q := 215) ?_ X59 hx (hb hby at_213) rfl rfl
  by_cases hc60 : kk = nn
  · refine Es.icmpNo (q := 218) ?_ X59 hx (hb hby at_215) rfl (XT.ii_ne_f hc60)
    refine Es.iconst (q := 219) (z := (1 : Int32)) ?_ X59 hx (hb hby at_218) rfl rfl
    refine Es.goto (q := 223) ?_ X59 hx (hb hby at_219) (by decide) (by decide)
    refine Es.icmpNo (q := 226) ?_ X59 hx (hb hby at_223) rfl (XT.ii_ne_f ((own_at0 (Int32.zero_add kk) hnn.symm).trans (if_pos hc60) : (fAt0 b28 b1 (0 + kk) (Int32.ofNat NN)) = (1 : Int32)))
    refine Es.iconst (q := 227) (z := (1 : Int32)) ?_ X59 hx (hb hby at_226) rfl rfl
    refine Es.goto (q := 231) ?_ X59 hx (hb hby at_227) (by decide) (by decide)
    exact Ends.retNW X59 hS (by rw [e59]; exact hk) hx hlk hret (t := .boolean) (by simp) (hb hby at_231) (w := 1) rfl ⟨rfl, N59⟩ (by decide) (by decide)
  · refine Es.icmpYes (q := 222) ?_ X59 hx (hb hby at_215) (XT.ii_ne_t hc60) (by decide) (by decide)
    refine Es.iconst (q := 223) (z := (0 : Int32)) ?_ X59 hx (hb hby at_222) rfl rfl
    refine Es.icmpNo (q := 226) ?_ X59 hx (hb hby at_223) rfl (XT.ii_ne_f ((own_at0 (Int32.zero_add kk) hnn.symm).trans (if_neg hc60) : (fAt0 b28 b1 (0 + kk) (Int32.ofNat NN)) = (0 : Int32)))
    refine Es.iconst (q := 227) (z := (1 : Int32)) ?_ X59 hx (hb hby at_226) rfl rfl
    refine Es.goto (q := 231) ?_ X59 hx (hb hby at_227) (by decide) (by decide)
    exact Ends.retNW X59 hS (by rw [e59]; exact hk) hx hlk hret (t := .boolean) (by simp) (hb hby at_231) (w := 1) rfl ⟨rfl, N59⟩ (by decide) (by decide)

set_option maxRecDepth 65536 in
set_option maxHeartbeats 40000000 in
theorem sg0_153 {p : Program} {l : Launch} {e : Env} {s : State} {m : MethodId} {args : Array Value} {below : List Frame} {meth : Method} {c : Code} {Z : State} {a0 : Array Value} {vm0 : Vm} {kS : Nat} (hx : p.tables.exec = Jvm.exec) (hZ : Z.Warmed39 vm0) (hw : ∀ d ∈ tables_1, d.before a0 Z = true) (hby : c.code = code) (hml : c.maxLocals = 13) (hown : vm0.findClass "com/example/tagwright/tagwright/codec/OctetInputAtEndPinLaw" = some m.cls) (hlk : meth.locks = false) (hret : meth.sig.returnType = some .boolean) {T : State} {locs : List Loc} {h : Heap} {n0 : Nat} (x0 : Int32) (x1 : Int32) (x2 : Int32) (x3 : Int32) (NN : Nat) (nn : Int32) (gg : Nat → Int32) (KK : Nat) (kk : Int32) (JJ : Nat) (jj : Int32) (b1 : Addr) (b28 : Addr) (cc : Addr) (hS : s.Since vm0 kS) (hk : kS ≤ h.size) (X : Stand p l e room_1 (s.setVm vm0) m args below meth c T locs 5 46) (eT : T.heap = h) (N : Fr n0 locs) (Zs : n0 ≤ h.size) (q0 : Ary Z h b1 .byte NN gg) (q1 : Exa Z h b1 "[B") (q2 : OI Z h b28 b1 (0 + kk) (Int32.ofNat NN) 0) (q3 : OI Z h cc b1 ((0 + kk) + jj) (Int32.ofNat NN) 1) (ne0_ : b1 ≠ b28) (ne1_ : b1 ≠ cc) (ne2_ : b28 ≠ cc) (old0_ : n0 ≤ b1) (old1_ : n0 ≤ b28) (old2_ : n0 ≤ cc) (hNN : NN ≤ 4) (hnn : nn = Int32.ofNat NN) (hKK : KK < NN + 1) (hkk : kk.toInt = KK) (hJJ : JJ < NN - KK + 1) (hjj : jj.toInt = JJ) :
    Ends p e below (FW s room_1.cells room_1.slots) (QL n0) (T.setTop (mkF m 153 #[.val (.int x0), .val (.int x1), .val (.int x2), .val (.int x3), .val (.int nn), .val (.ref b1), .val (.ref b28), .val (.int kk), .val (.int (fAt0 b28 b1 (0 + kk) (Int32.ofNat NN))), .val (.ref cc), .val (.int jj), .unset, .unset] [])) := by
  show Ends p e below _ _ (T.setTop (mkF m 153 #[.val (.int x0), .val (.int x1), .val (.int x2), .val (.int x3), .val (.int nn), .val (.ref b1), .val (.ref b28), .val (.int kk), .val (.int (fAt0 b28 b1 (0 + kk) (Int32.ofNat NN))), .val (.ref cc), .val (.int jj), .unset, .unset] []))
  refine Es.iload (q := 155) ?_ X hx (hb hby at_153) rfl rfl
  refine Es.iload (q := 157) ?_ X hx (hb hby at_155) rfl rfl
  refine Es.iadd (q := 158) ?_ X hx (hb hby at_157) rfl
  refine Es.istore (q := 160) (l' := #[.val (.int x0), .val (.int x1), .val (.int x2), .val (.int x3), .val (.int nn), .val (.ref b1), .val (.ref b28), .val (.int kk), .val (.int (fAt0 b28 b1 (0 + kk) (Int32.ofNat NN))), .val (.ref cc), .val (.int jj), .val (.int (kk + jj)), .unset]) ?_ X hx (hb hby at_158) rfl rfl
  have hpp : (kk + jj).toInt = ((KK + JJ : Nat) : Int) := own_p0 hNN hKK hkk hJJ hjj
  have hen : nn.toInt = (NN : Nat) := by rw [hnn]; exact own_ofNat (by omega)
  refine Es.iload (q := 162) ?_ X hx (hb hby at_160) rfl rfl
  refine Es.iload (q := 164) ?_ X hx (hb hby at_162) rfl rfl
  refine Es.isub (q := 165) ?_ X hx (hb hby at_164) rfl
  refine Es.iconst (q := 166) (z := (2 : Int32)) ?_ X hx (hb hby at_165) rfl rfl
  by_cases hc57 : (nn - (kk + jj)) < (2 : Int32)
  · refine Es.icmpYes (q := 191) ?_ X hx (hb hby at_166) (XT.ii_lt_t hc57) (by decide) (by decide)
    refine Es.iconst (q := 192) (z := (0 : Int32)) ?_ X hx (hb hby at_191) rfl rfl
    refine Es.istore (q := 194) (l' := #[.val (.int x0), .val (.int x1), .val (.int x2), .val (.int x3), .val (.int nn), .val (.ref b1), .val (.ref b28), .val (.int kk), .val (.int (fAt0 b28 b1 (0 + kk) (Int32.ofNat NN))), .val (.ref cc), .val (.int jj), .val (.int (kk + jj)), .val (.int (0 : Int32))]) ?_ X hx (hb hby at_192) rfl rfl
    refine Es.aload (q := 196) ?_ X hx (hb hby at_194) rfl rfl rfl
    obtain ⟨cq58, kq58, q58a, q58b, q58c⟩ := isOf (s := s.setVm vm0) hZ eT q3.1
    obtain ⟨v58, _, ⟨T58, L58, k58, n58⟩, -, X58, ⟨Lc58, hQ58, l58, y58, z58⟩, st58⟩ := X.virtualBack hx (y := (⟨"com/example/tagwright/tagwright/codec/OctetInput", "atEnd", "()Z"⟩ : MethodName)) (z := (⟨"com/example/tagwright/tagwright/codec/OctetInput", "atEnd", "()Z"⟩ : MethodName)) hown (mvT hZ (hw _ (List.mem_of_getElem? (i := 55) rfl))) (mvT hZ (hw _ (List.mem_of_getElem? (i := 56) rfl))) (notFace_of_selects (args := #[]) (mvT hZ (hw _ (List.mem_of_getElem? (i := 58) rfl)))) (mvT hZ (hw _ (List.mem_of_getElem? (i := 58) rfl))) (mvT hZ (hw _ (List.mem_of_getElem? (i := 57) rfl))) (by decide) (backOf (W := 0) (rmAt1 l Z a0 hw [] cc b1 ((0 + kk) + jj) (Int32.ofNat NN) NN gg h n0 Zs q3 q0 (own_p1 hNN hKK hkk hJJ hjj) (own_p2 hNN hKK hkk hJJ hjj) (own_ofNat (by omega)) hNN) hZ (hw _ (List.mem_of_getElem? (i := 59) rfl)) (hw _ (List.mem_of_getElem? (i := 4) rfl)) (by decide) (by decide)) q58a q58c (g := (mkF m 196 #[.val (.int x0), .val (.int x1), .val (.int x2), .val (.int x3), .val (.int nn), .val (.ref b1), .val (.ref b28), .val (.int kk), .val (.int (fAt0 b28 b1 (0 + kk) (Int32.ofNat NN))), .val (.ref cc), .val (.int jj), .val (.int (kk + jj)), .val (.int (0 : Int32))] [(.ref cc)])) rfl (by rw [hml]; rfl) (Steps.refl _) (argsL := []) (rest := []) (lenOf pd_5 rfl) rfl (by show 2 * 0 + _ ≤ _; exact Nat.le_of_eq rfl) (hb hby at_196) (fun _ _ => ⟨rfl, eT, (by decide : 5 + 0 ≤ _), (by decide : 46 + 0 ≤ _)⟩)
    dsimp only [Pt.U, Pt.locs, Pt.cells, Pt.slots] at X58 l58 y58 z58 st58 hQ58
    subst l58 y58 z58
    obtain ⟨rfl, N58q, e58⟩ := hQ58
    have N58 := Fr.app N N58q
    refine Ends.go st58 ?_
    show Ends p e below _ _ (T58.setTop (mkF m 199 #[.val (.int x0), .val (.int x1), .val (.int x2), .val (.int x3), .val (.int nn), .val (.ref b1), .val (.ref b28), .val (.int kk), .val (.int (fAt0 b28 b1 (0 + kk) (Int32.ofNat NN))), .val (.ref cc), .val (.int jj), .val (.int (kk + jj)), .val (.int (0 : Int32))] [(.int (fAt1 cc b1 ((0 + kk) + jj) (Int32.ofNat NN) NN gg))]))
    refine Es.iload (q := 201) ?_ X58 hx (hb hby at_199) rfl rfl
    refine Es.icmpYes (q := 206) ?_ X58 hx (hb hby at_201) (XT.ii_eq_t (by rw [Int32.zero_add, ← hnn]; unfold fAt1; simp only [hc57, if_true, if_false] : (fAt1 cc b1 ((0 + kk) + jj) (Int32.ofNat NN) NN gg) = (0 : Int32))) (by decide) (by decide)
    exact sg0_206 hx hZ hw hby hml hown hlk hret (x0) (x1) (x2) (x3) (NN) (nn) (gg) (KK) (kk) (JJ) (jj) ((0 : Int32)) b1 b28 cc hS hk X58 e58 N58 Zs q0 q1 q2 q3 ne0_ ne1_ ne2_ old0_ old1_ old2_ hNN hnn hKK hkk hJJ hjj
  · refine Es.icmpNo (q := 169) ?_ X hx (hb hby at_166) rfl (XT.ii_lt_f hc57)
    refine Es.aload (q := 171) ?_ X hx (hb hby at_169) rfl rfl rfl
    refine Es.iload (q := 173) ?_ X hx (hb hby at_171) rfl rfl
    refine Ends.bald ?_ X hx hZ eT q0 (own_i0 (by omega) (by omega) hen hNN hc57) (hb hby at_173)
    show Ends p e below _ _ (T.setTop (mkF m 174 #[.val (.int x0), .val (.int x1), .val (.int x2), .val (.int x3), .val (.int nn), .val (.ref b1), .val (.ref b28), .val (.int kk), .val (.int (fAt0 b28 b1 (0 + kk) (Int32.ofNat NN))), .val (.ref cc), .val (.int jj), .val (.int (kk + jj)), .unset] [(.int (gg ((kk + jj)).toNatClampNeg))]))
    by_cases hc61 : (gg ((kk + jj)).toNatClampNeg) = (0 : Int32)
    · refine Es.ifNo (q := 177) ?_ X hx (hb hby at_174) rfl (XT.i0_ne_f hc61)
      refine Es.aload (q := 179) ?_ X hx (hb hby at_177) rfl rfl rfl
      refine Es.iload (q := 181) ?_ X hx (hb hby at_179) rfl rfl
      refine Es.iconst (q := 182) (z := (1 : Int32)) ?_ X hx (hb hby at_181) rfl rfl
      refine Es.iadd (q := 183) ?_ X hx (hb hby at_182) rfl
      refine Ends.bald ?_ X hx hZ eT q0 (own_i1 (by omega) (by omega) hen hNN hc57) (hb hby at_183)
      show Ends p e below _ _ (T.setTop (mkF m 184 #[.val (.int x0), .val (.int x1), .val (.int x2), .val (.int x3), .val (.int nn), .val (.ref b1), .val (.ref b28), .val (.int kk), .val (.int (fAt0 b28 b1 (0 + kk) (Int32.ofNat NN))), .val (.ref cc), .val (.int jj), .val (.int (kk + jj)), .unset] [(.int (gg (((kk + jj) + (1 : Int32))).toNatClampNeg))]))
      by_cases hc62 : (gg (((kk + jj) + (1 : Int32))).toNatClampNeg) = (0 : Int32)
      · refine Es.ifNo (q := 187) ?_ X hx (hb hby at_184) rfl (XT.i0_ne_f hc62)
        refine Es.iconst (q := 188) (z := (1 : Int32)) ?_ X hx (hb hby at_187) rfl rfl
        refine Es.goto (q := 192) ?_ X hx (hb hby at_188) (by decide) (by decide)
        refine Es.istore (q := 194) (l' := #[.val (.int x0), .val (.int x1), .val (.int x2), .val (.int x3), .val (.int nn), .val (.ref b1), .val (.ref b28), .val (.int kk), .val (.int (fAt0 b28 b1 (0 + kk) (Int32.ofNat NN))), .val (.ref cc), .val (.int jj), .val (.int (kk + jj)), .val (.int (1 : Int32))]) ?_ X hx (hb hby at_192) rfl rfl
        refine Es.aload (q := 196) ?_ X hx (hb hby at_194) rfl rfl rfl
        obtain ⟨cq63, kq63, q63a, q63b, q63c⟩ := isOf (s := s.setVm vm0) hZ eT q3.1
        obtain ⟨v63, _, ⟨T63, L63, k63, n63⟩, -, X63, ⟨Lc63, hQ63, l63, y63, z63⟩, st63⟩ := X.virtualBack hx (y := (⟨"com/example/tagwright/tagwright/codec/OctetInput", "atEnd", "()Z"⟩ : MethodName)) (z := (⟨"com/example/tagwright/tagwright/codec/OctetInput", "atEnd", "()Z"⟩ : MethodName)) hown (mvT hZ (hw _ (List.mem_of_getElem? (i := 55) rfl))) (mvT hZ (hw _ (List.mem_of_getElem? (i := 56) rfl))) (notFace_of_selects (args := #[]) (mvT hZ (hw _ (List.mem_of_getElem? (i := 58) rfl)))) (mvT hZ (hw _ (List.mem_of_getElem? (i := 58) rfl))) (mvT hZ (hw _ (List.mem_of_getElem? (i := 57) rfl))) (by decide) (backOf (W := 0) (rmAt1 l Z a0 hw [] cc b1 ((0 + kk) + jj) (Int32.ofNat NN) NN gg h n0 Zs q3 q0 (own_p1 hNN hKK hkk hJJ hjj) (own_p2 hNN hKK hkk hJJ hjj) (own_ofNat (by omega)) hNN) hZ (hw _ (List.mem_of_getElem? (i := 59) rfl)) (hw _ (List.mem_of_getElem? (i := 4) rfl)) (by decide) (by decide)) q63a q63c (g := (mkF m 196 #[.val (.int x0), .val (.int x1), .val (.int x2), .val (.int x3), .val (.int nn), .val (.ref b1), .val (.ref b28), .val (.int kk), .val (.int (fAt0 b28 b1 (0 + kk) (Int32.ofNat NN))), .val (.ref cc), .val (.int jj), .val (.int (kk + jj)), .val (.int (1 : Int32))] [(.ref cc)])) rfl (by rw [hml]; rfl) (Steps.refl _) (argsL := []) (rest := []) (lenOf pd_5 rfl) rfl (by show 2 * 0 + _ ≤ _; exact Nat.le_of_eq rfl) (hb hby at_196) (fun _ _ => ⟨rfl, eT, (by decide : 5 + 0 ≤ _), (by decide : 46 + 0 ≤ _)⟩)
        dsimp only [Pt.U, Pt.locs, Pt.cells, Pt.slots] at X63 l63 y63 z63 st63 hQ63
        subst l63 y63 z63
        obtain ⟨rfl, N63q, e63⟩ := hQ63
        have N63 := Fr.app N N63q
        refine Ends.go st63 ?_
        show Ends p e below _ _ (T63.setTop (mkF m 199 #[.val (.int x0), .val (.int x1), .val (.int x2), .val (.int x3), .val (.int nn), .val (.ref b1), .val (.ref b28), .val (.int kk), .val (.int (fAt0 b28 b1 (0 + kk) (Int32.ofNat NN))), .val (.ref cc), .val (.int jj), .val (.int (kk + jj)), .val (.int (1 : Int32))] [(.int (fAt1 cc b1 ((0 + kk) + jj) (Int32.ofNat NN) NN gg))]))
        refine Es.iload (q := 201) ?_ X63 hx (hb hby at_199) rfl rfl
        refine Es.icmpYes (q := 206) ?_ X63 hx (hb hby at_201) (XT.ii_eq_t (by rw [Int32.zero_add, ← hnn]; unfold fAt1; simp only [hc57, hc61, hc62, if_true, if_false] : (fAt1 cc b1 ((0 + kk) + jj) (Int32.ofNat NN) NN gg) = (1 : Int32))) (by decide) (by decide)
        exact sg0_206 hx hZ hw hby hml hown hlk hret (x0) (x1) (x2) (x3) (NN) (nn) (gg) (KK) (kk) (JJ) (jj) ((1 : Int32)) b1 b28 cc hS hk X63 e63 N63 Zs q0 q1 q2 q3 ne0_ ne1_ ne2_ old0_ old1_ old2_ hNN hnn hKK hkk hJJ hjj
      · refine Es.ifYes (q := 191) ?_ X hx (hb hby at_184) (XT.i0_ne_t hc62) (by decide) (by decide)
        refine Es.iconst (q := 192) (z := (0 : Int32)) ?_ X hx (hb hby at_191) rfl rfl
        refine Es.istore (q := 194) (l' := #[.val (.int x0), .val (.int x1), .val (.int x2), .val (.int x3), .val (.int nn), .val (.ref b1), .val (.ref b28), .val (.int kk), .val (.int (fAt0 b28 b1 (0 + kk) (Int32.ofNat NN))), .val (.ref cc), .val (.int jj), .val (.int (kk + jj)), .val (.int (0 : Int32))]) ?_ X hx (hb hby at_192) rfl rfl
        refine Es.aload (q := 196) ?_ X hx (hb hby at_194) rfl rfl rfl
        obtain ⟨cq64, kq64, q64a, q64b, q64c⟩ := isOf (s := s.setVm vm0) hZ eT q3.1
        obtain ⟨v64, _, ⟨T64, L64, k64, n64⟩, -, X64, ⟨Lc64, hQ64, l64, y64, z64⟩, st64⟩ := X.virtualBack hx (y := (⟨"com/example/tagwright/tagwright/codec/OctetInput", "atEnd", "()Z"⟩ : MethodName)) (z := (⟨"com/example/tagwright/tagwright/codec/OctetInput", "atEnd", "()Z"⟩ : MethodName)) hown (mvT hZ (hw _ (List.mem_of_getElem? (i := 55) rfl))) (mvT hZ (hw _ (List.mem_of_getElem? (i := 56) rfl))) (notFace_of_selects (args := #[]) (mvT hZ (hw _ (List.mem_of_getElem? (i := 58) rfl)))) (mvT hZ (hw _ (List.mem_of_getElem? (i := 58) rfl))) (mvT hZ (hw _ (List.mem_of_getElem? (i := 57) rfl))) (by decide) (backOf (W := 0) (rmAt1 l Z a0 hw [] cc b1 ((0 + kk) + jj) (Int32.ofNat NN) NN gg h n0 Zs q3 q0 (own_p1 hNN hKK hkk hJJ hjj) (own_p2 hNN hKK hkk hJJ hjj) (own_ofNat (by omega)) hNN) hZ (hw _ (List.mem_of_getElem? (i := 59) rfl)) (hw _ (List.mem_of_getElem? (i := 4) rfl)) (by decide) (by decide)) q64a q64c (g := (mkF m 196 #[.val (.int x0), .val (.int x1), .val (.int x2), .val (.int x3), .val (.int nn), .val (.ref b1), .val (.ref b28), .val (.int kk), .val (.int (fAt0 b28 b1 (0 + kk) (Int32.ofNat NN))), .val (.ref cc), .val (.int jj), .val (.int (kk + jj)), .val (.int (0 : Int32))] [(.ref cc)])) rfl (by rw [hml]; rfl) (Steps.refl _) (argsL := []) (rest := []) (lenOf pd_5 rfl) rfl (by show 2 * 0 + _ ≤ _; exact Nat.le_of_eq rfl) (hb hby at_196) (fun _ _ => ⟨rfl, eT, (by decide : 5 + 0 ≤ _), (by decide : 46 + 0 ≤ _)⟩)
        dsimp only [Pt.U, Pt.locs, Pt.cells, Pt.slots] at X64 l64 y64 z64 st64 hQ64
        subst l64 y64 z64
        obtain ⟨rfl, N64q, e64⟩ := hQ64
        have N64 := Fr.app N N64q
        refine Ends.go st64 ?_
        show Ends p e below _ _ (T64.setTop (mkF m 199 #[.val (.int x0), .val (.int x1), .val (.int x2), .val (.int x3), .val (.int nn), .val (.ref b1), .val (.ref b28), .val (.int kk), .val (.int (fAt0 b28 b1 (0 + kk) (Int32.ofNat NN))), .val (.ref cc), .val (.int jj), .val (.int (kk + jj)), .val (.int (0 : Int32))] [(.int (fAt1 cc b1 ((0 + kk) + jj) (Int32.ofNat NN) NN gg))]))
        refine Es.iload (q := 201) ?_ X64 hx (hb hby at_199) rfl rfl
        refine Es.icmpYes (q := 206) ?_ X64 hx (hb hby at_201) (XT.ii_eq_t (by rw [Int32.zero_add, ← hnn]; unfold fAt1; simp only [hc57, hc61, hc62, if_true, if_false] : (fAt1 cc b1 ((0 + kk) + jj) (Int32.ofNat NN) NN gg) = (0 : Int32))) (by decide) (by decide)
        exact sg0_206 hx hZ hw hby hml hown hlk hret (x0) (x1) (x2) (x3) (NN) (nn) (gg) (KK) (kk) (JJ) (jj) ((0 : Int32)) b1 b28 cc hS hk X64 e64 N64 Zs q0 q1 q2 q3 ne0_ ne1_ ne2_ old0_ old1_ old2_ hNN hnn hKK hkk hJJ hjj
    · refine Es.ifYes (q := 191) ?_ X hx (hb hby at_174) (XT.i0_ne_t hc61) (by decide) (by decide)
      refine Es.iconst (q := 192) (z := (0 : Int32)) ?_ X hx (hb hby at_191) rfl rfl
      refine Es.istore (q := 194) (l' := #[.val (.int x0), .val (.int x1), .val (.int x2), .val (.int x3), .val (.int nn), .val (.ref b1), .val (.ref b28), .val (.int kk), .val (.int (fAt0 b28 b1 (0 + kk) (Int32.ofNat NN))), .val (.ref cc), .val (.int jj), .val (.int (kk + jj)), .val (.int (0 : Int32))]) ?_ X hx (hb hby at_192) rfl rfl
      refine Es.aload (q := 196) ?_ X hx (hb hby at_194) rfl rfl rfl
      obtain ⟨cq65, kq65, q65a, q65b, q65c⟩ := isOf (s := s.setVm vm0) hZ eT q3.1
      obtain ⟨v65, _, ⟨T65, L65, k65, n65⟩, -, X65, ⟨Lc65, hQ65, l65, y65, z65⟩, st65⟩ := X.virtualBack hx (y := (⟨"com/example/tagwright/tagwright/codec/OctetInput", "atEnd", "()Z"⟩ : MethodName)) (z := (⟨"com/example/tagwright/tagwright/codec/OctetInput", "atEnd", "()Z"⟩ : MethodName)) hown (mvT hZ (hw _ (List.mem_of_getElem? (i := 55) rfl))) (mvT hZ (hw _ (List.mem_of_getElem? (i := 56) rfl))) (notFace_of_selects (args := #[]) (mvT hZ (hw _ (List.mem_of_getElem? (i := 58) rfl)))) (mvT hZ (hw _ (List.mem_of_getElem? (i := 58) rfl))) (mvT hZ (hw _ (List.mem_of_getElem? (i := 57) rfl))) (by decide) (backOf (W := 0) (rmAt1 l Z a0 hw [] cc b1 ((0 + kk) + jj) (Int32.ofNat NN) NN gg h n0 Zs q3 q0 (own_p1 hNN hKK hkk hJJ hjj) (own_p2 hNN hKK hkk hJJ hjj) (own_ofNat (by omega)) hNN) hZ (hw _ (List.mem_of_getElem? (i := 59) rfl)) (hw _ (List.mem_of_getElem? (i := 4) rfl)) (by decide) (by decide)) q65a q65c (g := (mkF m 196 #[.val (.int x0), .val (.int x1), .val (.int x2), .val (.int x3), .val (.int nn), .val (.ref b1), .val (.ref b28), .val (.int kk), .val (.int (fAt0 b28 b1 (0 + kk) (Int32.ofNat NN))), .val (.ref cc), .val (.int jj), .val (.int (kk + jj)), .val (.int (0 : Int32))] [(.ref cc)])) rfl (by rw [hml]; rfl) (Steps.refl _) (argsL := []) (rest := []) (lenOf pd_5 rfl) rfl (by show 2 * 0 + _ ≤ _; exact Nat.le_of_eq rfl) (hb hby at_196) (fun _ _ => ⟨rfl, eT, (by decide : 5 + 0 ≤ _), (by decide : 46 + 0 ≤ _)⟩)
      dsimp only [Pt.U, Pt.locs, Pt.cells, Pt.slots] at X65 l65 y65 z65 st65 hQ65
      subst l65 y65 z65
      obtain ⟨rfl, N65q, e65⟩ := hQ65
      have N65 := Fr.app N N65q
      refine Ends.go st65 ?_
      show Ends p e below _ _ (T65.setTop (mkF m 199 #[.val (.int x0), .val (.int x1), .val (.int x2), .val (.int x3), .val (.int nn), .val (.ref b1), .val (.ref b28), .val (.int kk), .val (.int (fAt0 b28 b1 (0 + kk) (Int32.ofNat NN))), .val (.ref cc), .val (.int jj), .val (.int (kk + jj)), .val (.int (0 : Int32))] [(.int (fAt1 cc b1 ((0 + kk) + jj) (Int32.ofNat NN) NN gg))]))
      refine Es.iload (q := 201) ?_ X65 hx (hb hby at_199) rfl rfl
      refine Es.icmpYes (q := 206) ?_ X65 hx (hb hby at_201) (XT.ii_eq_t (by rw [Int32.zero_add, ← hnn]; unfold fAt1; simp only [hc57, hc61, if_true, if_false] : (fAt1 cc b1 ((0 + kk) + jj) (Int32.ofNat NN) NN gg) = (0 : Int32))) (by decide) (by decide)
      exact sg0_206 hx hZ hw hby hml hown hlk hret (x0) (x1) (x2) (x3) (NN) (nn) (gg) (KK) (kk) (JJ) (jj) ((0 : Int32)) b1 b28 cc hS hk X65 e65 N65 Zs q0 q1 q2 q3 ne0_ ne1_ ne2_ old0_ old1_ old2_ hNN hnn hKK hkk hJJ hjj

set_option maxRecDepth 65536 in
set_option maxHeartbeats 40000000 in
theorem sg0_125 {p : Program} {l : Launch} {e : Env} {s : State} {m : MethodId} {args : Array Value} {below : List Frame} {meth : Method} {c : Code} {Z : State} {a0 : Array Value} {vm0 : Vm} {kS : Nat} (hx : p.tables.exec = Jvm.exec) (hZ : Z.Warmed39 vm0) (hw : ∀ d ∈ tables_1, d.before a0 Z = true) (hby : c.code = code) (hml : c.maxLocals = 13) (hown : vm0.findClass "com/example/tagwright/tagwright/codec/OctetInputAtEndPinLaw" = some m.cls) (hlk : meth.locks = false) (hret : meth.sig.returnType = some .boolean) {T : State} {locs : List Loc} {h : Heap} {n0 : Nat} (x0 : Int32) (x1 : Int32) (x2 : Int32) (x3 : Int32) (NN : Nat) (nn : Int32) (gg : Nat → Int32) (KK : Nat) (kk : Int32) (b1 : Addr) (b28 : Addr) (hS : s.Since vm0 kS) (hk : kS ≤ h.size) (X : Stand p l e room_1 (s.setVm vm0) m args below meth c T locs 4 39) (eT : T.heap = h) (N : Fr n0 locs) (Zs : n0 ≤ h.size) (q0 : Ary Z h b1 .byte NN gg) (q1 : Exa Z h b1 "[B") (q2 : OI Z h b28 b1 (0 + kk) (Int32.ofNat NN) 0) (ne0_ : b1 ≠ b28) (old0_ : n0 ≤ b1) (old1_ : n0 ≤ b28) (hNN : NN ≤ 4) (hnn : nn = Int32.ofNat NN) (hKK : KK < NN + 1) (hkk : kk.toInt = KK) :
    Ends p e below (FW s room_1.cells room_1.slots) (QL n0) (T.setTop (mkF m 125 #[.val (.int x0), .val (.int x1), .val (.int x2), .val (.int x3), .val (.int nn), .val (.ref b1), .val (.ref b28), .val (.int kk), .val (.int (fAt0 b28 b1 (0 + kk) (Int32.ofNat NN))), .unset, .unset, .unset, .unset] [])) := by
  show Ends p e below _ _ (T.setTop (mkF m 125 #[.val (.int x0), .val (.int x1), .val (.int x2), .val (.int x3), .val (.int nn), .val (.ref b1), .val (.ref b28), .val (.int kk), .val (.int (fAt0 b28 b1 (0 + kk) (Int32.ofNat NN))), .unset, .unset, .unset, .unset] []))
  refine Es.aload (q := 127) ?_ X hx (hb hby at_125) rfl rfl rfl
  obtain ⟨cq45, kq45, q45a, q45b, q45c⟩ := isOf (s := s.setVm vm0) hZ eT q2.1
  obtain ⟨v45, _, ⟨T45, L45, k45, n45⟩, -, X45, ⟨Lc45, hQ45, l45, y45, z45⟩, st45⟩ := X.virtualBack hx (y := (⟨"com/example/tagwright/tagwright/codec/OctetInput", "takeToEndOfContents", "()Lcom/example/tagwright/tagwright/codec/OctetInput;"⟩ : MethodName)) (z := (⟨"com/example/tagwright/tagwright/codec/OctetInput", "takeToEndOfContents", "()Lcom/example/tagwright/tagwright/codec/OctetInput;"⟩ : MethodName)) hown (mvT hZ (hw _ (List.mem_of_getElem? (i := 60) rfl))) (mvT hZ (hw _ (List.mem_of_getElem? (i := 61) rfl))) (notFace_of_selects (args := #[]) (mvT hZ (hw _ (List.mem_of_getElem? (i := 63) rfl)))) (mvT hZ (hw _ (List.mem_of_getElem? (i := 63) rfl))) (mvT hZ (hw _ (List.mem_of_getElem? (i := 62) rfl))) (by decide) (backOf (W := 0) (rm9 l Z a0 hw [] b28 b1 (0 + kk) (Int32.ofNat NN) 0 h n0 Zs q2) hZ (hw _ (List.mem_of_getElem? (i := 64) rfl)) (hw _ (List.mem_of_getElem? (i := 4) rfl)) (by decide) (by decide)) q45a q45c (g := (mkF m 127 #[.val (.int x0), .val (.int x1), .val (.int x2), .val (.int x3), .val (.int nn), .val (.ref b1), .val (.ref b28), .val (.int kk), .val (.int (fAt0 b28 b1 (0 + kk) (Int32.ofNat NN))), .unset, .unset, .unset, .unset] [(.ref b28)])) rfl (by rw [hml]; rfl) (Steps.refl _) (argsL := []) (rest := []) (lenOf pd_6 rfl) rfl (by show 2 * 0 + _ ≤ _; exact Nat.le_of_eq rfl) (hb hby at_127) (fun _ _ => ⟨rfl, eT, (by decide : 4 + 1 ≤ _), (by decide : 39 + 7 ≤ _)⟩)
  dsimp only [Pt.U, Pt.locs, Pt.cells, Pt.slots] at X45 l45 y45 z45 st45 hQ45
  subst l45 y45 z45
  obtain ⟨cc, rfl, N45q, K45, sc, HI45⟩ := hQ45
  have N45 := Fr.app N N45q
  have nec : b28 ≠ cc := Nat.ne_of_lt (Nat.lt_of_lt_of_le q2.lt sc)
  have gcc : n0 ≤ cc := Nat.le_trans Zs sc
  have nea : b1 ≠ cc := Nat.ne_of_lt (Nat.lt_of_lt_of_le q0.lt sc)
  have f46 := q0.keep K45 (by simp [List.not_mem_nil])
  have f47 := q1.keep K45
  have f48 := q2.keep K45 (by simp [List.not_mem_nil])
  have hk49 := Nat.le_trans hk K45.1
  have Zs50 : n0 ≤ T45.heap.size := Nat.le_trans Zs K45.1
  refine Ends.go st45 ?_
  show Ends p e below _ _ (T45.setTop (mkF m 130 #[.val (.int x0), .val (.int x1), .val (.int x2), .val (.int x3), .val (.int nn), .val (.ref b1), .val (.ref b28), .val (.int kk), .val (.int (fAt0 b28 b1 (0 + kk) (Int32.ofNat NN))), .unset, .unset, .unset, .unset] [(.ref cc)]))
  refine Es.astore (q := 132) (l' := #[.val (.int x0), .val (.int x1), .val (.int x2), .val (.int x3), .val (.int nn), .val (.ref b1), .val (.ref b28), .val (.int kk), .val (.int (fAt0 b28 b1 (0 + kk) (Int32.ofNat NN))), .val (.ref cc), .unset, .unset, .unset]) ?_ X45 hx (hb hby at_130) rfl rfl rfl
  refine Es.iloadN (q := 133) ?_ X45 hx (hb hby at_132) rfl rfl
  refine Es.ldc (q := 135) ?_ X45 hx hown (mvT hZ (hw _ (List.mem_of_getElem? (i := 0) rfl))) (hb hby at_133) rfl
  refine Es.iand (q := 136) ?_ X45 hx (hb hby at_135) rfl
  refine Es.iload (q := 138) ?_ X45 hx (hb hby at_136) rfl rfl
  refine Es.iload (q := 140) ?_ X45 hx (hb hby at_138) rfl rfl
  refine Es.isub (q := 141) ?_ X45 hx (hb hby at_140) rfl
  refine Es.iconst (q := 142) (z := (1 : Int32)) ?_ X45 hx (hb hby at_141) rfl rfl
  refine Es.iadd (q := 143) ?_ X45 hx (hb hby at_142) rfl
  have hr2 : (nn - kk + (1 : Int32)).toInt = ((NN - KK + 1 : Nat) : Int) := own_r2 hnn hNN hKK hkk
  refine Es.irem (q := 144) ?_ X45 hx (hb hby at_143) rfl (own_nz hr2 (by omega))
  show Ends p e below _ _ (T45.setTop (mkF m 144 #[.val (.int x0), .val (.int x1), .val (.int x2), .val (.int x3), .val (.int nn), .val (.ref b1), .val (.ref b28), .val (.int kk), .val (.int (fAt0 b28 b1 (0 + kk) (Int32.ofNat NN))), .val (.ref cc), .unset, .unset, .unset] [(.int ((x3 &&& (2147483647 : Int32)) % ((nn - kk) + (1 : Int32))))]))
  obtain ⟨JJ, jj, hjm, hJJ, hjj⟩ := own_k x3 hr2 (by omega) (by omega)
  rw [← hjm]
  show Ends p e below _ _ (T45.setTop (mkF m 144 #[.val (.int x0), .val (.int x1), .val (.int x2), .val (.int x3), .val (.int nn), .val (.ref b1), .val (.ref b28), .val (.int kk), .val (.int (fAt0 b28 b1 (0 + kk) (Int32.ofNat NN))), .val (.ref cc), .unset, .unset, .unset] [(.int jj)]))
  refine Es.istore (q := 146) (l' := #[.val (.int x0), .val (.int x1), .val (.int x2), .val (.int x3), .val (.int nn), .val (.ref b1), .val (.ref b28), .val (.int kk), .val (.int (fAt0 b28 b1 (0 + kk) (Int32.ofNat NN))), .val (.ref cc), .val (.int jj), .unset, .unset]) ?_ X45 hx (hb hby at_144) rfl rfl
  refine Es.aload (q := 148) ?_ X45 hx (hb hby at_146) rfl rfl rfl
  refine Es.iload (q := 150) ?_ X45 hx (hb hby at_148) rfl rfl
  obtain ⟨cq51, kq51, q51a, q51b, q51c⟩ := isOf (s := s.setVm vm0) hZ rfl HI45.1
  obtain ⟨v51, _, ⟨T51, L51, k51, n51⟩, -, X51, ⟨Lc51, hQ51, l51, y51, z51⟩, st51⟩ := X45.virtualBack hx (y := (⟨"com/example/tagwright/tagwright/codec/OctetInput", "skip", "(I)V"⟩ : MethodName)) (z := (⟨"com/example/tagwright/tagwright/codec/OctetInput", "skip", "(I)V"⟩ : MethodName)) hown (mvT hZ (hw _ (List.mem_of_getElem? (i := 41) rfl))) (mvT hZ (hw _ (List.mem_of_getElem? (i := 42) rfl))) (notFace_of_selects (args := #[]) (mvT hZ (hw _ (List.mem_of_getElem? (i := 44) rfl)))) (mvT hZ (hw _ (List.mem_of_getElem? (i := 44) rfl))) (mvT hZ (hw _ (List.mem_of_getElem? (i := 43) rfl))) (by decide) (backOf (W := 0) (rm5 l Z a0 hw [] cc jj b1 (0 + kk) (Int32.ofNat NN) 1 T45.heap n0 Zs50 HI45 gcc (own_s1 hjj) (own_s3 hNN hKK hkk hJJ hjj)) hZ (hw _ (List.mem_of_getElem? (i := 45) rfl)) (hw _ (List.mem_of_getElem? (i := 4) rfl)) (by decide) (by decide)) q51a q51c (g := (mkF m 150 #[.val (.int x0), .val (.int x1), .val (.int x2), .val (.int x3), .val (.int nn), .val (.ref b1), .val (.ref b28), .val (.int kk), .val (.int (fAt0 b28 b1 (0 + kk) (Int32.ofNat NN))), .val (.ref cc), .val (.int jj), .unset, .unset] [(.int jj), (.ref cc)])) rfl (by rw [hml]; rfl) (Steps.refl _) (argsL := [(.int jj)]) (rest := []) (lenOf pd_3 rfl) rfl (by show 2 * 0 + _ ≤ _; exact Nat.le_of_eq rfl) (hb hby at_150) (fun _ _ => ⟨rfl, rfl, (by decide : 5 + 0 ≤ _), (by decide : 46 + 0 ≤ _)⟩)
  dsimp only [Pt.U, Pt.locs, Pt.cells, Pt.slots] at X51 l51 y51 z51 st51 hQ51
  subst l51 y51 z51
  obtain ⟨rfl, N51q, K51, HI51⟩ := hQ51
  have N51 := Fr.app N45 N51q
  have f52 := f46.keep K51 (by simp [nea])
  have f53 := f47.keep K51
  have f54 := f48.keep K51 (by simp [nec])
  have hk55 := Nat.le_trans hk49 K51.1
  have Zs56 : n0 ≤ T51.heap.size := Nat.le_trans Zs50 K51.1
  refine Ends.go st51 ?_
  show Ends p e below _ _ (T51.setTop (mkF m 153 #[.val (.int x0), .val (.int x1), .val (.int x2), .val (.int x3), .val (.int nn), .val (.ref b1), .val (.ref b28), .val (.int kk), .val (.int (fAt0 b28 b1 (0 + kk) (Int32.ofNat NN))), .val (.ref cc), .val (.int jj), .unset, .unset] []))
  exact sg0_153 hx hZ hw hby hml hown hlk hret (x0) (x1) (x2) (x3) (NN) (nn) (gg) (KK) (kk) (JJ) (jj) b1 b28 cc hS hk55 X51 rfl N51 Zs56 f52 f53 f54 HI51 ne0_ nea nec old0_ old1_ gcc hNN hnn hKK hkk hJJ hjj

set_option maxRecDepth 65536 in
set_option maxHeartbeats 40000000 in
theorem sg0_99 {p : Program} {l : Launch} {e : Env} {s : State} {m : MethodId} {args : Array Value} {below : List Frame} {meth : Method} {c : Code} {Z : State} {a0 : Array Value} {vm0 : Vm} {kS : Nat} (hx : p.tables.exec = Jvm.exec) (hZ : Z.Warmed39 vm0) (hw : ∀ d ∈ tables_1, d.before a0 Z = true) (hby : c.code = code) (hml : c.maxLocals = 13) (hown : vm0.findClass "com/example/tagwright/tagwright/codec/OctetInputAtEndPinLaw" = some m.cls) (hlk : meth.locks = false) (hret : meth.sig.returnType = some .boolean) {T : State} {locs : List Loc} {h : Heap} {n0 : Nat} (x0 : Int32) (x1 : Int32) (x2 : Int32) (x3 : Int32) (NN : Nat) (nn : Int32) (gg : Nat → Int32) (KK : Nat) (kk : Int32) (b1 : Addr) (b28 : Addr) (hS : s.Since vm0 kS) (hk : kS ≤ h.size) (X : Stand p l e room_1 (s.setVm vm0) m args below meth c T locs 4 39) (eT : T.heap = h) (N : Fr n0 locs) (Zs : n0 ≤ h.size) (q0 : Ary Z h b1 .byte NN gg) (q1 : Exa Z h b1 "[B") (q2 : OI Z h b28 b1 (0 + kk) (Int32.ofNat NN) 0) (ne0_ : b1 ≠ b28) (old0_ : n0 ≤ b1) (old1_ : n0 ≤ b28) (hNN : NN ≤ 4) (hnn : nn = Int32.ofNat NN) (hKK : KK < NN + 1) (hkk : kk.toInt = KK) :
    Ends p e below (FW s room_1.cells room_1.slots) (QL n0) (T.setTop (mkF m 99 #[.val (.int x0), .val (.int x1), .val (.int x2), .val (.int x3), .val (.int nn), .val (.ref b1), .val (.ref b28), .val (.int kk), .unset, .unset, .unset, .unset, .unset] [])) := by
  show Ends p e below _ _ (T.setTop (mkF m 99 #[.val (.int x0), .val (.int x1), .val (.int x2), .val (.int x3), .val (.int nn), .val (.ref b1), .val (.ref b28), .val (.int kk), .unset, .unset, .unset, .unset, .unset] []))
  refine Es.aload (q := 101) ?_ X hx (hb hby at_99) rfl rfl rfl
  obtain ⟨cq43, kq43, q43a, q43b, q43c⟩ := isOf (s := s.setVm vm0) hZ eT q2.1
  obtain ⟨v43, _, ⟨T43, L43, k43, n43⟩, -, X43, ⟨Lc43, hQ43, l43, y43, z43⟩, st43⟩ := X.virtualBack hx (y := (⟨"com/example/tagwright/tagwright/codec/OctetInput", "atEnd", "()Z"⟩ : MethodName)) (z := (⟨"com/example/tagwright/tagwright/codec/OctetInput", "atEnd", "()Z"⟩ : MethodName)) hown (mvT hZ (hw _ (List.mem_of_getElem? (i := 55) rfl))) (mvT hZ (hw _ (List.mem_of_getElem? (i := 56) rfl))) (notFace_of_selects (args := #[]) (mvT hZ (hw _ (List.mem_of_getElem? (i := 58) rfl)))) (mvT hZ (hw _ (List.mem_of_getElem? (i := 58) rfl))) (mvT hZ (hw _ (List.mem_of_getElem? (i := 57) rfl))) (by decide) (backOf (W := 0) (rmAt0 l Z a0 hw [] b28 b1 (0 + kk) (Int32.ofNat NN) h n0 Zs q2) hZ (hw _ (List.mem_of_getElem? (i := 59) rfl)) (hw _ (List.mem_of_getElem? (i := 4) rfl)) (by decide) (by decide)) q43a q43c (g := (mkF m 101 #[.val (.int x0), .val (.int x1), .val (.int x2), .val (.int x3), .val (.int nn), .val (.ref b1), .val (.ref b28), .val (.int kk), .unset, .unset, .unset, .unset, .unset] [(.ref b28)])) rfl (by rw [hml]; rfl) (Steps.refl _) (argsL := []) (rest := []) (lenOf pd_5 rfl) rfl (by show 2 * 0 + _ ≤ _; exact Nat.le_of_eq rfl) (hb hby at_101) (fun _ _ => ⟨rfl, eT, (by decide : 4 + 0 ≤ _), (by decide : 39 + 0 ≤ _)⟩)
  dsimp only [Pt.U, Pt.locs, Pt.cells, Pt.slots] at X43 l43 y43 z43 st43 hQ43
  subst l43 y43 z43
  obtain ⟨rfl, N43q, e43⟩ := hQ43
  have N43 := Fr.app N N43q
  refine Ends.go st43 ?_
  show Ends p e below _ _ (T43.setTop (mkF m 104 #[.val (.int x0), .val (.int x1), .val (.int x2), .val (.int x3), .val (.int nn), .val (.ref b1), .val (.ref b28), .val (.int kk), .unset, .unset, .unset, .unset, .unset] [(.int (fAt0 b28 b1 (0 + kk) (Int32.ofNat NN)))]))
  refine Es.istore (q := 106) (l' := #[.val (.int x0), .val (.int x1), .val (.int x2), .val (.int x3), .val (.int nn), .val (.ref b1), .val (.ref b28), .val (.int kk), .val (.int (fAt0 b28 b1 (0 + kk) (Int32.ofNat NN))), .unset, .unset, .unset, .unset]) ?_ X43 hx (hb hby at_104) rfl rfl
  refine Es.iload (q := 108) ?_ X43 hx (hb hby at_106) rfl rfl
  refine Es.iload (q := 110) ?_ X43 hx (hb hby at_108) rfl rfl
  refine Es.iload (q := 112) ?_ X43 hx (hb hby at_110) rfl rfl
  by_cases hc44 : kk = nn
  · refine Es.icmpNo (q := 115) ?_ X43 hx (hb hby at_112) rfl (XT.ii_ne_f hc44)
    refine Es.iconst (q := 116) (z := (1 : Int32)) ?_ X43 hx (hb hby at_115) rfl rfl
    refine Es.goto (q := 120) ?_ X43 hx (hb hby at_116) (by decide) (by decide)
    refine Es.icmpYes (q := 125) ?_ X43 hx (hb hby at_120) (XT.ii_eq_t ((own_at0 (Int32.zero_add kk) hnn.symm).trans (if_pos hc44) : (fAt0 b28 b1 (0 + kk) (Int32.ofNat NN)) = (1 : Int32))) (by decide) (by decide)
    exact sg0_125 hx hZ hw hby hml hown hlk hret (x0) (x1) (x2) (x3) (NN) (nn) (gg) (KK) (kk) b1 b28 hS hk X43 e43 N43 Zs q0 q1 q2 ne0_ old0_ old1_ hNN hnn hKK hkk
  · refine Es.icmpYes (q := 119) ?_ X43 hx (hb hby at_112) (XT.ii_ne_t hc44) (by decide) (by decide)
    refine Es.iconst (q := 120) (z := (0 : Int32)) ?_ X43 hx (hb hby at_119) rfl rfl
    refine Es.icmpYes (q := 125) ?_ X43 hx (hb hby at_120) (XT.ii_eq_t ((own_at0 (Int32.zero_add kk) hnn.symm).trans (if_neg hc44) : (fAt0 b28 b1 (0 + kk) (Int32.ofNat NN)) = (0 : Int32))) (by decide) (by decide)
    exact sg0_125 hx hZ hw hby hml hown hlk hret (x0) (x1) (x2) (x3) (NN) (nn) (gg) (KK) (kk) b1 b28 hS hk X43 e43 N43 Zs q0 q1 q2 ne0_ old0_ old1_ hNN hnn hKK hkk

set_option maxRecDepth 65536 in
set_option maxHeartbeats 40000000 in
theorem sg70 {p : Program} {l : Launch} {e : Env} {s : State} {m : MethodId} {args : Array Value} {below : List Frame} {meth : Method} {c : Code} {Z : State} {a0 : Array Value} {vm0 : Vm} {kS : Nat} (hx : p.tables.exec = Jvm.exec) (hZ : Z.Warmed39 vm0) (hw : ∀ d ∈ tables_1, d.before a0 Z = true) (hby : c.code = code) (hml : c.maxLocals = 13) (hown : vm0.findClass "com/example/tagwright/tagwright/codec/OctetInputAtEndPinLaw" = some m.cls) (hlk : meth.locks = false) (hret : meth.sig.returnType = some .boolean) {T : State} {locs : List Loc} {h : Heap} {n0 : Nat} (x0 : Int32) (x1 : Int32) (x2 : Int32) (x3 : Int32) (NN : Nat) (nn : Int32) (gg : Nat → Int32) (b1 : Addr) (hS : s.Since vm0 kS) (hk : kS ≤ h.size) (X : Stand p l e room_1 (s.setVm vm0) m args below meth c T locs 1 4) (eT : T.heap = h) (N : Fr n0 locs) (Zs : n0 ≤ h.size) (q0 : Ary Z h b1 .byte NN gg) (q1 : Exa Z h b1 "[B") (old0_ : n0 ≤ b1) (hNN : NN ≤ 4) (hnn : nn = Int32.ofNat NN) :
    Ends p e below (FW s room_1.cells room_1.slots) (QL n0) (T.setTop (mkF m 70 #[.val (.int x0), .val (.int x1), .val (.int x2), .val (.int x3), .val (.int nn), .val (.ref b1), .unset, .unset, .unset, .unset, .unset, .unset, .unset] [])) := by
  show Ends p e below _ _ (T.setTop (mkF m 70 #[.val (.int x0), .val (.int x1), .val (.int x2), .val (.int x3), .val (.int nn), .val (.ref b1), .unset, .unset, .unset, .unset, .unset, .unset, .unset] []))
  obtain ⟨T28, h28, X28, e28, E28, A28, D28, -, st28⟩ := newO X hx hZ hown (hw _ (List.mem_of_getElem? (i := 2) rfl)) (hw _ (List.mem_of_getElem? (i := 3) rfl)) (hw _ (List.mem_of_getElem? (i := 4) rfl)) eT (g := (mkF m 70 #[.val (.int x0), .val (.int x1), .val (.int x2), .val (.int x3), .val (.int nn), .val (.ref b1), .unset, .unset, .unset, .unset, .unset, .unset, .unset] [])) rfl (hb hby at_70) (by decide) (by decide)
  obtain ⟨b28, g28⟩ : ∃ z, z = h.size := ⟨_, rfl⟩
  rw [← g28] at A28 D28 st28
  have ne29 : b1 ≠ b28 := Nat.ne_of_lt (Nat.lt_of_lt_of_le q0.lt (Nat.le_of_eq g28.symm))
  have gn28 : n0 ≤ b28 := Nat.le_trans Zs (Nat.le_of_eq g28.symm)
  have f30 := q0.ext E28
  have f31 := Exa.ext E28 q1
  have F28_octets : Fld Z h28 b28 "com/example/tagwright/tagwright/codec/OctetInput" "octets" "[B" .null := D28 (Or.inr (hw _ (List.mem_of_getElem? (i := 28) rfl))) (ty := (.array .byte)) (by decide)
  have F28_start : Fld Z h28 b28 "com/example/tagwright/tagwright/codec/OctetInput" "start" "I" (.int (0 : Int32)) := D28 (Or.inr (hw _ (List.mem_of_getElem? (i := 30) rfl))) (ty := .int) (by decide)
  have F28_next : Fld Z h28 b28 "com/example/tagwright/tagwright/codec/OctetInput" "next" "I" (.int (0 : Int32)) := D28 (Or.inl (hw _ (List.mem_of_getElem? (i := 32) rfl))) (ty := .int) (by decide)
  have F28_end : Fld Z h28 b28 "com/example/tagwright/tagwright/codec/OctetInput" "end" "I" (.int (0 : Int32)) := D28 (Or.inr (hw _ (List.mem_of_getElem? (i := 34) rfl))) (ty := .int) (by decide)
  have F28_toEndOfContents : Fld Z h28 b28 "com/example/tagwright/tagwright/codec/OctetInput" "toEndOfContents" "Z" (.int (0 : Int32)) := D28 (Or.inr (hw _ (List.mem_of_getElem? (i := 36) rfl))) (ty := .boolean) (by decide)
  have F28_pieceIndexes : Fld Z h28 b28 "com/example/tagwright/tagwright/codec/OctetInput" "pieceIndexes" "[I" .null := D28 (Or.inr (hw _ (List.mem_of_getElem? (i := 38) rfl))) (ty := (.array .int)) (by decide)
  have F28_pieceOffsets : Fld Z h28 b28 "com/example/tagwright/tagwright/codec/OctetInput" "pieceOffsets" "[I" .null := D28 (Or.inr (hw _ (List.mem_of_getElem? (i := 40) rfl))) (ty := (.array .int)) (by decide)
  have hk32 := Nat.le_trans hk E28.1
  have Zs33 : n0 ≤ h28.size := Nat.le_trans Zs E28.1
  refine Ends.by ?_ st28
  show Ends p e below _ _ (T28.setTop (mkF m 73 #[.val (.int x0), .val (.int x1), .val (.int x2), .val (.int x3), .val (.int nn), .val (.ref b1), .unset, .unset, .unset, .unset, .unset, .unset, .unset] [(.ref b28)]))
  refine Es.dup (q := 74) ?_ X28 hx (hb hby at_73) rfl rfl
  refine Es.aload (q := 76) ?_ X28 hx (hb hby at_74) rfl rfl rfl
  obtain ⟨v34, _, ⟨T34, L34, k34, n34⟩, -, X34a, hSn34, hge34, ⟨Lc34, hQ34, l34, y34, z34⟩, st34⟩ := X28.specialBackS hx (y := (⟨"com/example/tagwright/tagwright/codec/OctetInput", "<init>", "([B)V"⟩ : MethodName)) rfl hown (mvT hZ (hw _ (List.mem_of_getElem? (i := 5) rfl))) (mvT hZ (hw _ (List.mem_of_getElem? (i := 6) rfl))) (mvT hZ (hw _ (List.mem_of_getElem? (i := 7) rfl))) (by decide) (backOfS (W := 1) (rm1 l Z a0 hw [] b28 b1 NN gg h28 n0 Zs33 A28 F28_octets F28_start F28_next F28_end F28_toEndOfContents F28_pieceIndexes F28_pieceOffsets gn28 f30 f31 hNN ne29) hZ (hw _ (List.mem_of_getElem? (i := 7) rfl)) (hw _ (List.mem_of_getElem? (i := 4) rfl)) (by decide) (by decide)) (g := (mkF m 76 #[.val (.int x0), .val (.int x1), .val (.int x2), .val (.int x3), .val (.int nn), .val (.ref b1), .unset, .unset, .unset, .unset, .unset, .unset, .unset] [(.ref b1), (.ref b28), (.ref b28)])) rfl (by rw [hml]; rfl) (Steps.refl _) (a := b28) (argsL := [(.ref b1)]) (rest := [(.ref b28)]) (lenOf pd_4 rfl) rfl (by show 2 * 0 + _ ≤ _; exact Nat.le_of_eq rfl) (hb hby at_76) (fun _ _ => ⟨rfl, e28, (by decide : 2 + 2 ≤ _), (by decide : 11 + 28 ≤ _)⟩)
  dsimp only [Pt.U, Pt.locs, Pt.cells, Pt.slots] at hSn34 hge34
  have hS := foldS hS (by rw [e28]; exact hk32) hSn34 hge34
  have hZ : Z.Warmed39 (s.setVm T34.vm).vm := State.Warmed39.trans (t := s.setVm vm0) hZ hSn34.1
  have hown : (s.setVm T34.vm).vm.findClass "com/example/tagwright/tagwright/codec/OctetInputAtEndPinLaw" = some m.cls := by rw [show (s.setVm T34.vm).vm = T34.vm from rfl, hSn34.1.alike.findClass]; exact hown
  have X34 : Stand p l e _ (s.setVm T34.vm) m _ below meth c T34 _ _ _ := X34a
  dsimp only [Pt.U, Pt.locs, Pt.cells, Pt.slots] at X34 l34 y34 z34 st34 hQ34
  subst l34 y34 z34
  obtain ⟨rfl, N34q, K34, HI34⟩ := hQ34
  have N34 := Fr.app N N34q
  have f35 := f30.keep K34 (by simp [ne29])
  have f36 := f31.keep K34
  have Zs37 : n0 ≤ T34.heap.size := Nat.le_trans Zs33 K34.1
  refine Ends.go st34 ?_
  show Ends p e below _ _ (T34.setTop (mkF m 79 #[.val (.int x0), .val (.int x1), .val (.int x2), .val (.int x3), .val (.int nn), .val (.ref b1), .unset, .unset, .unset, .unset, .unset, .unset, .unset] [(.ref b28)]))
  refine Es.astore (q := 81) (l' := #[.val (.int x0), .val (.int x1), .val (.int x2), .val (.int x3), .val (.int nn), .val (.ref b1), .val (.ref b28), .unset, .unset, .unset, .unset, .unset, .unset]) ?_ X34 hx (hb hby at_79) rfl rfl rfl
  refine Es.iloadN (q := 82) ?_ X34 hx (hb hby at_81) rfl rfl
  refine Es.ldc (q := 84) ?_ X34 hx hown (mvT hZ (hw _ (List.mem_of_getElem? (i := 0) rfl))) (hb hby at_82) rfl
  refine Es.iand (q := 85) ?_ X34 hx (hb hby at_84) rfl
  refine Es.iload (q := 87) ?_ X34 hx (hb hby at_85) rfl rfl
  refine Es.iconst (q := 88) (z := (1 : Int32)) ?_ X34 hx (hb hby at_87) rfl rfl
  refine Es.iadd (q := 89) ?_ X34 hx (hb hby at_88) rfl
  have hr1 : (nn + (1 : Int32)).toInt = ((NN + 1 : Nat) : Int) := own_r1 hnn hNN
  refine Es.irem (q := 90) ?_ X34 hx (hb hby at_89) rfl (own_nz hr1 (by omega))
  show Ends p e below _ _ (T34.setTop (mkF m 90 #[.val (.int x0), .val (.int x1), .val (.int x2), .val (.int x3), .val (.int nn), .val (.ref b1), .val (.ref b28), .unset, .unset, .unset, .unset, .unset, .unset] [(.int ((x2 &&& (2147483647 : Int32)) % (nn + (1 : Int32))))]))
  obtain ⟨KK, kk, hkm, hKK, hkk⟩ := own_k x2 hr1 (by omega) (by omega)
  rw [← hkm]
  show Ends p e below _ _ (T34.setTop (mkF m 90 #[.val (.int x0), .val (.int x1), .val (.int x2), .val (.int x3), .val (.int nn), .val (.ref b1), .val (.ref b28), .unset, .unset, .unset, .unset, .unset, .unset] [(.int kk)]))
  refine Es.istore (q := 92) (l' := #[.val (.int x0), .val (.int x1), .val (.int x2), .val (.int x3), .val (.int nn), .val (.ref b1), .val (.ref b28), .val (.int kk), .unset, .unset, .unset, .unset, .unset]) ?_ X34 hx (hb hby at_90) rfl rfl
  refine Es.aload (q := 94) ?_ X34 hx (hb hby at_92) rfl rfl rfl
  refine Es.iload (q := 96) ?_ X34 hx (hb hby at_94) rfl rfl
  obtain ⟨cq38, kq38, q38a, q38b, q38c⟩ := isOf (s := s.setVm T34.vm) hZ rfl HI34.1
  obtain ⟨v38, _, ⟨T38, L38, k38, n38⟩, -, X38, ⟨Lc38, hQ38, l38, y38, z38⟩, st38⟩ := X34.virtualBack hx (y := (⟨"com/example/tagwright/tagwright/codec/OctetInput", "skip", "(I)V"⟩ : MethodName)) (z := (⟨"com/example/tagwright/tagwright/codec/OctetInput", "skip", "(I)V"⟩ : MethodName)) hown (mvT hZ (hw _ (List.mem_of_getElem? (i := 41) rfl))) (mvT hZ (hw _ (List.mem_of_getElem? (i := 42) rfl))) (notFace_of_selects (args := #[]) (mvT hZ (hw _ (List.mem_of_getElem? (i := 44) rfl)))) (mvT hZ (hw _ (List.mem_of_getElem? (i := 44) rfl))) (mvT hZ (hw _ (List.mem_of_getElem? (i := 43) rfl))) (by decide) (backOf (W := 0) (rm5 l Z a0 hw [] b28 kk b1 0 (Int32.ofNat NN) 0 T34.heap n0 Zs37 HI34 gn28 (own_s1 hkk) (own_s2 hNN hKK hkk)) hZ (hw _ (List.mem_of_getElem? (i := 45) rfl)) (hw _ (List.mem_of_getElem? (i := 4) rfl)) (by decide) (by decide)) q38a q38c (g := (mkF m 96 #[.val (.int x0), .val (.int x1), .val (.int x2), .val (.int x3), .val (.int nn), .val (.ref b1), .val (.ref b28), .val (.int kk), .unset, .unset, .unset, .unset, .unset] [(.int kk), (.ref b28)])) rfl (by rw [hml]; rfl) (Steps.refl _) (argsL := [(.int kk)]) (rest := []) (lenOf pd_3 rfl) rfl (by show 2 * 0 + _ ≤ _; exact Nat.le_of_eq rfl) (hb hby at_96) (fun _ _ => ⟨rfl, rfl, (by decide : 4 + 0 ≤ _), (by decide : 39 + 0 ≤ _)⟩)
  dsimp only [Pt.U, Pt.locs, Pt.cells, Pt.slots] at X38 l38 y38 z38 st38 hQ38
  subst l38 y38 z38
  obtain ⟨rfl, N38q, K38, HI38⟩ := hQ38
  have N38 := Fr.app N34 N38q
  have f39 := f35.keep K38 (by simp [ne29])
  have f40 := f36.keep K38
  have hk41 := Nat.le_trans (Nat.le_refl _) K38.1
  have Zs42 : n0 ≤ T38.heap.size := Nat.le_trans Zs37 K38.1
  refine Ends.go st38 ?_
  show Ends p e below _ _ (T38.setTop (mkF m 99 #[.val (.int x0), .val (.int x1), .val (.int x2), .val (.int x3), .val (.int nn), .val (.ref b1), .val (.ref b28), .val (.int kk), .unset, .unset, .unset, .unset, .unset] []))
  exact sg0_99 hx hZ hw hby hml hown hlk hret (x0) (x1) (x2) (x3) (NN) (nn) (gg) (KK) (kk) b1 b28 hS hk41 X38 rfl N38 Zs42 f39 f40 HI38 ne29 old0_ gn28 hNN hnn hKK hkk

set_option maxRecDepth 65536 in
set_option maxHeartbeats 40000000 in
theorem sg55 {p : Program} {l : Launch} {e : Env} {s : State} {m : MethodId} {args : Array Value} {below : List Frame} {meth : Method} {c : Code} {Z : State} {a0 : Array Value} {vm0 : Vm} {kS : Nat} (hx : p.tables.exec = Jvm.exec) (hZ : Z.Warmed39 vm0) (hw : ∀ d ∈ tables_1, d.before a0 Z = true) (hby : c.code = code) (hml : c.maxLocals = 13) (hown : vm0.findClass "com/example/tagwright/tagwright/codec/OctetInputAtEndPinLaw" = some m.cls) (hlk : meth.locks = false) (hret : meth.sig.returnType = some .boolean) {T : State} {locs : List Loc} {h : Heap} {n0 : Nat} (x0 : Int32) (x1 : Int32) (x2 : Int32) (x3 : Int32) (NN : Nat) (nn : Int32) (gg : Nat → Int32) (b1 : Addr) (hS : s.Since vm0 kS) (hk : kS ≤ h.size) (X : Stand p l e room_1 (s.setVm vm0) m args below meth c T locs 1 4) (eT : T.heap = h) (N : Fr n0 locs) (Zs : n0 ≤ h.size) (q0 : Ary Z h b1 .byte NN gg) (q1 : Exa Z h b1 "[B") (old0_ : n0 ≤ b1) (hNN : NN ≤ 4) (hnn : nn = Int32.ofNat NN) :
    Ends p e below (FW s room_1.cells room_1.slots) (QL n0) (T.setTop (mkF m 55 #[.val (.int x0), .val (.int x1), .val (.int x2), .val (.int x3), .val (.int nn), .val (.ref b1), .unset, .unset, .unset, .unset, .unset, .unset, .unset] [])) := by
  show Ends p e below _ _ (T.setTop (mkF m 55 #[.val (.int x0), .val (.int x1), .val (.int x2), .val (.int x3), .val (.int nn), .val (.ref b1), .unset, .unset, .unset, .unset, .unset, .unset, .unset] []))
  refine Es.iload (q := 57) ?_ X hx (hb hby at_55) rfl rfl
  refine Es.iconst (q := 58) (z := (3 : Int32)) ?_ X hx (hb hby at_57) rfl rfl
  by_cases hc22 : (3 : Int32) < nn
  · refine Es.icmpNo (q := 61) ?_ X hx (hb hby at_58) rfl (XT.ii_le_f hc22)
    refine Es.aload (q := 63) ?_ X hx (hb hby at_61) rfl rfl rfl
    refine Es.iconst (q := 64) (z := (3 : Int32)) ?_ X hx (hb hby at_63) rfl rfl
    refine Es.iloadN (q := 65) ?_ X hx (hb hby at_64) rfl rfl
    refine Es.bipush (q := 67) (z := (24 : Int32)) ?_ X hx (hb hby at_65) rfl rfl
    refine Es.iushr (q := 68) ?_ X hx (hb hby at_67) rfl
    refine Es.i2b (q := 69) ?_ X hx (hb hby at_68) rfl
    obtain ⟨T23, h23, X23, e23, W23, V23, st23⟩ := stBA X hx hZ eT q0 (j := (3 : Int32)) (x := (((x0.toUInt32 >>> ((24 : Int32) &&& 31).toUInt32).toInt32).toInt8.toInt32)) (own_in (I := 3) rfl hnn hNN hc22) (Ls := #[.val (.int x0), .val (.int x1), .val (.int x2), .val (.int x3), .val (.int nn), .val (.ref b1), .unset, .unset, .unset, .unset, .unset, .unset, .unset]) (S := []) (hb hby at_69)
    have f25 := Exa.wr W23 q1
    have N23 := Fr.snoc X23 N old0_
    have hk26 := Nat.le_trans hk (Keep.of_wr W23).1
    have Zs27 : n0 ≤ h23.size := Nat.le_trans Zs (Keep.of_wr W23).1
    refine Ends.by ?_ st23
    show Ends p e below _ _ (T23.setTop (mkF m 70 #[.val (.int x0), .val (.int x1), .val (.int x2), .val (.int x3), .val (.int nn), .val (.ref b1), .unset, .unset, .unset, .unset, .unset, .unset, .unset] []))
    obtain ⟨gg, Vg⟩ : ∃ g, Ary Z h23 b1 .byte NN g := ⟨_, V23⟩
    exact sg70 hx hZ hw hby hml hown hlk hret (x0) (x1) (x2) (x3) (NN) (nn) (gg) b1 hS hk26 X23 e23 N23 Zs27 Vg f25 old0_ hNN hnn
  · refine Es.icmpYes (q := 70) ?_ X hx (hb hby at_58) (XT.ii_le_t hc22) (by decide) (by decide)
    obtain ⟨gg, Vg⟩ : ∃ g, Ary Z h b1 .byte NN g := ⟨_, q0⟩
    exact sg70 hx hZ hw hby hml hown hlk hret (x0) (x1) (x2) (x3) (NN) (nn) (gg) b1 hS hk X eT N Zs Vg q1 old0_ hNN hnn

set_option maxRecDepth 65536 in
set_option maxHeartbeats 40000000 in
theorem sg40 {p : Program} {l : Launch} {e : Env} {s : State} {m : MethodId} {args : Array Value} {below : List Frame} {meth : Method} {c : Code} {Z : State} {a0 : Array Value} {vm0 : Vm} {kS : Nat} (hx : p.tables.exec = Jvm.exec) (hZ : Z.Warmed39 vm0) (hw : ∀ d ∈ tables_1, d.before a0 Z = true) (hby : c.code = code) (hml : c.maxLocals = 13) (hown : vm0.findClass "com/example/tagwright/tagwright/codec/OctetInputAtEndPinLaw" = some m.cls) (hlk : meth.locks = false) (hret : meth.sig.returnType = some .boolean) {T : State} {locs : List Loc} {h : Heap} {n0 : Nat} (x0 : Int32) (x1 : Int32) (x2 : Int32) (x3 : Int32) (NN : Nat) (nn : Int32) (gg : Nat → Int32) (b1 : Addr) (hS : s.Since vm0 kS) (hk : kS ≤ h.size) (X : Stand p l e room_1 (s.setVm vm0) m args below meth c T locs 1 4) (eT : T.heap = h) (N : Fr n0 locs) (Zs : n0 ≤ h.size) (q0 : Ary Z h b1 .byte NN gg) (q1 : Exa Z h b1 "[B") (old0_ : n0 ≤ b1) (hNN : NN ≤ 4) (hnn : nn = Int32.ofNat NN) :
    Ends p e below (FW s room_1.cells room_1.slots) (QL n0) (T.setTop (mkF m 40 #[.val (.int x0), .val (.int x1), .val (.int x2), .val (.int x3), .val (.int nn), .val (.ref b1), .unset, .unset, .unset, .unset, .unset, .unset, .unset] [])) := by
  show Ends p e below _ _ (T.setTop (mkF m 40 #[.val (.int x0), .val (.int x1), .val (.int x2), .val (.int x3), .val (.int nn), .val (.ref b1), .unset, .unset, .unset, .unset, .unset, .unset, .unset] []))
  refine Es.iload (q := 42) ?_ X hx (hb hby at_40) rfl rfl
  refine Es.iconst (q := 43) (z := (2 : Int32)) ?_ X hx (hb hby at_42) rfl rfl
  by_cases hc16 : (2 : Int32) < nn
  · refine Es.icmpNo (q := 46) ?_ X hx (hb hby at_43) rfl (XT.ii_le_f hc16)
    refine Es.aload (q := 48) ?_ X hx (hb hby at_46) rfl rfl rfl
    refine Es.iconst (q := 49) (z := (2 : Int32)) ?_ X hx (hb hby at_48) rfl rfl
    refine Es.iloadN (q := 50) ?_ X hx (hb hby at_49) rfl rfl
    refine Es.bipush (q := 52) (z := (16 : Int32)) ?_ X hx (hb hby at_50) rfl rfl
    refine Es.iushr (q := 53) ?_ X hx (hb hby at_52) rfl
    refine Es.i2b (q := 54) ?_ X hx (hb hby at_53) rfl
    obtain ⟨T17, h17, X17, e17, W17, V17, st17⟩ := stBA X hx hZ eT q0 (j := (2 : Int32)) (x := (((x0.toUInt32 >>> ((16 : Int32) &&& 31).toUInt32).toInt32).toInt8.toInt32)) (own_in (I := 2) rfl hnn hNN hc16) (Ls := #[.val (.int x0), .val (.int x1), .val (.int x2), .val (.int x3), .val (.int nn), .val (.ref b1), .unset, .unset, .unset, .unset, .unset, .unset, .unset]) (S := []) (hb hby at_54)
    have f19 := Exa.wr W17 q1
    have N17 := Fr.snoc X17 N old0_
    have hk20 := Nat.le_trans hk (Keep.of_wr W17).1
    have Zs21 : n0 ≤ h17.size := Nat.le_trans Zs (Keep.of_wr W17).1
    refine Ends.by ?_ st17
    show Ends p e below _ _ (T17.setTop (mkF m 55 #[.val (.int x0), .val (.int x1), .val (.int x2), .val (.int x3), .val (.int nn), .val (.ref b1), .unset, .unset, .unset, .unset, .unset, .unset, .unset] []))
    obtain ⟨gg, Vg⟩ : ∃ g, Ary Z h17 b1 .byte NN g := ⟨_, V17⟩
    exact sg55 hx hZ hw hby hml hown hlk hret (x0) (x1) (x2) (x3) (NN) (nn) (gg) b1 hS hk20 X17 e17 N17 Zs21 Vg f19 old0_ hNN hnn
  · refine Es.icmpYes (q := 55) ?_ X hx (hb hby at_43) (XT.ii_le_t hc16) (by decide) (by decide)
    obtain ⟨gg, Vg⟩ : ∃ g, Ary Z h b1 .byte NN g := ⟨_, q0⟩
    exact sg55 hx hZ hw hby hml hown hlk hret (x0) (x1) (x2) (x3) (NN) (nn) (gg) b1 hS hk X eT N Zs Vg q1 old0_ hNN hnn

set_option maxRecDepth 65536 in
set_option maxHeartbeats 40000000 in
theorem sg25 {p : Program} {l : Launch} {e : Env} {s : State} {m : MethodId} {args : Array Value} {below : List Frame} {meth : Method} {c : Code} {Z : State} {a0 : Array Value} {vm0 : Vm} {kS : Nat} (hx : p.tables.exec = Jvm.exec) (hZ : Z.Warmed39 vm0) (hw : ∀ d ∈ tables_1, d.before a0 Z = true) (hby : c.code = code) (hml : c.maxLocals = 13) (hown : vm0.findClass "com/example/tagwright/tagwright/codec/OctetInputAtEndPinLaw" = some m.cls) (hlk : meth.locks = false) (hret : meth.sig.returnType = some .boolean) {T : State} {locs : List Loc} {h : Heap} {n0 : Nat} (x0 : Int32) (x1 : Int32) (x2 : Int32) (x3 : Int32) (NN : Nat) (nn : Int32) (gg : Nat → Int32) (b1 : Addr) (hS : s.Since vm0 kS) (hk : kS ≤ h.size) (X : Stand p l e room_1 (s.setVm vm0) m args below meth c T locs 1 4) (eT : T.heap = h) (N : Fr n0 locs) (Zs : n0 ≤ h.size) (q0 : Ary Z h b1 .byte NN gg) (q1 : Exa Z h b1 "[B") (old0_ : n0 ≤ b1) (hNN : NN ≤ 4) (hnn : nn = Int32.ofNat NN) :
    Ends p e below (FW s room_1.cells room_1.slots) (QL n0) (T.setTop (mkF m 25 #[.val (.int x0), .val (.int x1), .val (.int x2), .val (.int x3), .val (.int nn), .val (.ref b1), .unset, .unset, .unset, .unset, .unset, .unset, .unset] [])) := by
  show Ends p e below _ _ (T.setTop (mkF m 25 #[.val (.int x0), .val (.int x1), .val (.int x2), .val (.int x3), .val (.int nn), .val (.ref b1), .unset, .unset, .unset, .unset, .unset, .unset, .unset] []))
  refine Es.iload (q := 27) ?_ X hx (hb hby at_25) rfl rfl
  refine Es.iconst (q := 28) (z := (1 : Int32)) ?_ X hx (hb hby at_27) rfl rfl
  by_cases hc10 : (1 : Int32) < nn
  · refine Es.icmpNo (q := 31) ?_ X hx (hb hby at_28) rfl (XT.ii_le_f hc10)
    refine Es.aload (q := 33) ?_ X hx (hb hby at_31) rfl rfl rfl
    refine Es.iconst (q := 34) (z := (1 : Int32)) ?_ X hx (hb hby at_33) rfl rfl
    refine Es.iloadN (q := 35) ?_ X hx (hb hby at_34) rfl rfl
    refine Es.bipush (q := 37) (z := (8 : Int32)) ?_ X hx (hb hby at_35) rfl rfl
    refine Es.iushr (q := 38) ?_ X hx (hb hby at_37) rfl
    refine Es.i2b (q := 39) ?_ X hx (hb hby at_38) rfl
    obtain ⟨T11, h11, X11, e11, W11, V11, st11⟩ := stBA X hx hZ eT q0 (j := (1 : Int32)) (x := (((x0.toUInt32 >>> ((8 : Int32) &&& 31).toUInt32).toInt32).toInt8.toInt32)) (own_in (I := 1) rfl hnn hNN hc10) (Ls := #[.val (.int x0), .val (.int x1), .val (.int x2), .val (.int x3), .val (.int nn), .val (.ref b1), .unset, .unset, .unset, .unset, .unset, .unset, .unset]) (S := []) (hb hby at_39)
    have f13 := Exa.wr W11 q1
    have N11 := Fr.snoc X11 N old0_
    have hk14 := Nat.le_trans hk (Keep.of_wr W11).1
    have Zs15 : n0 ≤ h11.size := Nat.le_trans Zs (Keep.of_wr W11).1
    refine Ends.by ?_ st11
    show Ends p e below _ _ (T11.setTop (mkF m 40 #[.val (.int x0), .val (.int x1), .val (.int x2), .val (.int x3), .val (.int nn), .val (.ref b1), .unset, .unset, .unset, .unset, .unset, .unset, .unset] []))
    obtain ⟨gg, Vg⟩ : ∃ g, Ary Z h11 b1 .byte NN g := ⟨_, V11⟩
    exact sg40 hx hZ hw hby hml hown hlk hret (x0) (x1) (x2) (x3) (NN) (nn) (gg) b1 hS hk14 X11 e11 N11 Zs15 Vg f13 old0_ hNN hnn
  · refine Es.icmpYes (q := 40) ?_ X hx (hb hby at_28) (XT.ii_le_t hc10) (by decide) (by decide)
    obtain ⟨gg, Vg⟩ : ∃ g, Ary Z h b1 .byte NN g := ⟨_, q0⟩
    exact sg40 hx hZ hw hby hml hown hlk hret (x0) (x1) (x2) (x3) (NN) (nn) (gg) b1 hS hk X eT N Zs Vg q1 old0_ hNN hnn

set_option maxRecDepth 65536 in
set_option maxHeartbeats 40000000 in
theorem sg14 {p : Program} {l : Launch} {e : Env} {s : State} {m : MethodId} {args : Array Value} {below : List Frame} {meth : Method} {c : Code} {Z : State} {a0 : Array Value} {vm0 : Vm} {kS : Nat} (hx : p.tables.exec = Jvm.exec) (hZ : Z.Warmed39 vm0) (hw : ∀ d ∈ tables_1, d.before a0 Z = true) (hby : c.code = code) (hml : c.maxLocals = 13) (hown : vm0.findClass "com/example/tagwright/tagwright/codec/OctetInputAtEndPinLaw" = some m.cls) (hlk : meth.locks = false) (hret : meth.sig.returnType = some .boolean) {T : State} {locs : List Loc} {h : Heap} {n0 : Nat} (x0 : Int32) (x1 : Int32) (x2 : Int32) (x3 : Int32) (NN : Nat) (nn : Int32) (gg : Nat → Int32) (b1 : Addr) (hS : s.Since vm0 kS) (hk : kS ≤ h.size) (X : Stand p l e room_1 (s.setVm vm0) m args below meth c T locs 1 4) (eT : T.heap = h) (N : Fr n0 locs) (Zs : n0 ≤ h.size) (q0 : Ary Z h b1 .byte NN gg) (q1 : Exa Z h b1 "[B") (old0_ : n0 ≤ b1) (hNN : NN ≤ 4) (hnn : nn = Int32.ofNat NN) :
    Ends p e below (FW s room_1.cells room_1.slots) (QL n0) (T.setTop (mkF m 14 #[.val (.int x0), .val (.int x1), .val (.int x2), .val (.int x3), .val (.int nn), .val (.ref b1), .unset, .unset, .unset, .unset, .unset, .unset, .unset] [])) := by
  show Ends p e below _ _ (T.setTop (mkF m 14 #[.val (.int x0), .val (.int x1), .val (.int x2), .val (.int x3), .val (.int nn), .val (.ref b1), .unset, .unset, .unset, .unset, .unset, .unset, .unset] []))
  refine Es.iload (q := 16) ?_ X hx (hb hby at_14) rfl rfl
  by_cases hc4 : (0 : Int32) < nn
  · refine Es.ifNo (q := 19) ?_ X hx (hb hby at_16) rfl (XT.i0_le_f hc4)
    refine Es.aload (q := 21) ?_ X hx (hb hby at_19) rfl rfl rfl
    refine Es.iconst (q := 22) (z := (0 : Int32)) ?_ X hx (hb hby at_21) rfl rfl
    refine Es.iloadN (q := 23) ?_ X hx (hb hby at_22) rfl rfl
    refine Es.i2b (q := 24) ?_ X hx (hb hby at_23) rfl
    obtain ⟨T5, h5, X5, e5, W5, V5, st5⟩ := stBA X hx hZ eT q0 (j := (0 : Int32)) (x := (x0.toInt8.toInt32)) (own_in (I := 0) rfl hnn hNN hc4) (Ls := #[.val (.int x0), .val (.int x1), .val (.int x2), .val (.int x3), .val (.int nn), .val (.ref b1), .unset, .unset, .unset, .unset, .unset, .unset, .unset]) (S := []) (hb hby at_24)
    have f7 := Exa.wr W5 q1
    have N5 := Fr.snoc X5 N old0_
    have hk8 := Nat.le_trans hk (Keep.of_wr W5).1
    have Zs9 : n0 ≤ h5.size := Nat.le_trans Zs (Keep.of_wr W5).1
    refine Ends.by ?_ st5
    show Ends p e below _ _ (T5.setTop (mkF m 25 #[.val (.int x0), .val (.int x1), .val (.int x2), .val (.int x3), .val (.int nn), .val (.ref b1), .unset, .unset, .unset, .unset, .unset, .unset, .unset] []))
    obtain ⟨gg, Vg⟩ : ∃ g, Ary Z h5 b1 .byte NN g := ⟨_, V5⟩
    exact sg25 hx hZ hw hby hml hown hlk hret (x0) (x1) (x2) (x3) (NN) (nn) (gg) b1 hS hk8 X5 e5 N5 Zs9 Vg f7 old0_ hNN hnn
  · refine Es.ifYes (q := 25) ?_ X hx (hb hby at_16) (XT.i0_le_t hc4) (by decide) (by decide)
    obtain ⟨gg, Vg⟩ : ∃ g, Ary Z h b1 .byte NN g := ⟨_, q0⟩
    exact sg25 hx hZ hw hby hml hown hlk hret (x0) (x1) (x2) (x3) (NN) (nn) (gg) b1 hS hk X eT N Zs Vg q1 old0_ hNN hnn

theorem ef_rm0 (m : MethodId) (x0 : Int32) (x1 : Int32) (x2 : Int32) (x3 : Int32) : entryFrame m #[(.int x0), (.int x1), (.int x2), (.int x3)] maxLocals = mkF m 0 #[.val (.int x0), .val (.int x1), .val (.int x2), .val (.int x3), .unset, .unset, .unset, .unset, .unset, .unset, .unset, .unset, .unset] [] := by first | (simp [entryFrame, mkF, argsToLocals, Value.category, maxLocals]; done) | rfl
theorem pn_2 : plainName "com/example/tagwright/tagwright/codec/OctetInputAtEndPinLaw" = true := by first | (simp [plainName, overriddenIn]; done) | decide +kernel
set_option maxRecDepth 65536 in
set_option maxHeartbeats 40000000 in
theorem rm0 (l : Launch) (Z : State) (a0 : Array Value) (hw : ∀ d ∈ tables_1, d.before a0 Z = true) (ws : List Jvm.Cond) (x0 : Int32) (x1 : Int32) (x2 : Int32) (x3 : Int32) (h0 : Heap) (n0 : Nat) (Z0 : n0 ≤ h0.size) :
    MetFree l x (head1 (Jvm.Cond.code x code maxLocals ret :: ws) room_1) (fun a U => a = #[(.int x0), (.int x1), (.int x2), (.int x3)] ∧ Z.Warmed39 U.vm ∧ U.heap = h0) (fun _ _ _ _ _ => True) (fun _ U o U' => ∃ v L, o = .returned v ∧ (QL n0) v U'.heap L ∧ ReturnedEndW U o U' L room_1.cells room_1.slots) := by
  refine MetFree.of_bodySF (plainFor_of_name pn_2) hisR ?_
  intro p e s m args below meth c s₁ Bd hml0 hP hK
  obtain ⟨rfl, hZ, hh⟩ := hP
  have hx := Bd.exec
  have hby := Bd.bytes
  have hml : c.maxLocals = 13 := hml0
  have hown : s.vm.findClass "com/example/tagwright/tagwright/codec/OctetInputAtEndPinLaw" = some m.cls := findClass_of_methodNamed Bd.named
  have hnm := (name_of_methodNamed Bd.named Bd.method).1
  have X0 : Stand p l e room_1 (s.setVm s.vm) m #[(.int x0), (.int x1), (.int x2), (.int x3)] below meth c s₁ [] 0 0 := Stand.of_body Bd
  have e0 : s₁.heap = h0 := by rw [← hh, Bd.state]; rfl
  have N0 := Fr.nil n0
  have hS : s.Since s.vm s.heap.size := (State.WarmedH.refl s).since _
  have hk0 : s.heap.size ≤ h0.size := by rw [← hh]; exact Nat.le_refl _
  show Ends p e below (FW s room_1.cells room_1.slots) (QL n0) (s₁.setTop (entryFrame m #[(.int x0), (.int x1), (.int x2), (.int x3)] maxLocals))
  rw [ef_rm0 m x0 x1 x2 x3]
  show Ends p e below _ _ (s₁.setTop (mkF m 0 #[.val (.int x0), .val (.int x1), .val (.int x2), .val (.int x3), .unset, .unset, .unset, .unset, .unset, .unset, .unset, .unset, .unset] []))
  refine Es.iloadN (q := 1) ?_ X0 hx (hb hby at_0) rfl rfl
  refine Es.ldc (q := 3) ?_ X0 hx hown (mvT hZ (hw _ (List.mem_of_getElem? (i := 0) rfl))) (hb hby at_1) rfl
  refine Es.iand (q := 4) ?_ X0 hx (hb hby at_3) rfl
  refine Es.iconst (q := 5) (z := (5 : Int32)) ?_ X0 hx (hb hby at_4) rfl rfl
  refine Es.irem (q := 6) ?_ X0 hx (hb hby at_5) rfl (by decide)
  obtain ⟨NN, nn, hnm_, hNN, hnn⟩ := own_n x1
  rw [← hnm_]
  show Ends p e below _ _ (s₁.setTop (mkF m 6 #[.val (.int x0), .val (.int x1), .val (.int x2), .val (.int x3), .unset, .unset, .unset, .unset, .unset, .unset, .unset, .unset, .unset] [(.int nn)]))
  refine Es.istore (q := 8) (l' := #[.val (.int x0), .val (.int x1), .val (.int x2), .val (.int x3), .val (.int nn), .unset, .unset, .unset, .unset, .unset, .unset, .unset, .unset]) ?_ X0 hx (hb hby at_6) rfl rfl
  refine Es.iload (q := 10) ?_ X0 hx (hb hby at_8) rfl rfl
  obtain ⟨T1, h1, X1, e1, E1, V1, Ax1, st1⟩ := newArE X0 hx hZ (C := "[B") rfl (hw _ (List.mem_of_getElem? (i := 1) rfl)) rfl e0 (n := NN) (z := nn) (cap := 4) (by rw [hnn]; exact own_ofNat (by omega)) hNN (by decide) (by decide) (by decide) (Ls := #[.val (.int x0), .val (.int x1), .val (.int x2), .val (.int x3), .val (.int nn), .unset, .unset, .unset, .unset, .unset, .unset, .unset, .unset]) (S := []) (hb hby at_10)
  obtain ⟨b1, g1⟩ : ∃ z, z = h0.size := ⟨_, rfl⟩
  rw [← g1] at V1 Ax1 st1
  have gn1 : n0 ≤ b1 := Nat.le_trans Z0 (Nat.le_of_eq g1.symm)
  have hk2 := Nat.le_trans hk0 E1.1
  have Zs3 : n0 ≤ h1.size := Nat.le_trans Z0 E1.1
  refine Ends.by ?_ st1
  show Ends p e below _ _ (T1.setTop (mkF m 12 #[.val (.int x0), .val (.int x1), .val (.int x2), .val (.int x3), .val (.int nn), .unset, .unset, .unset, .unset, .unset, .unset, .unset, .unset] [(.ref b1)]))
  refine Es.astore (q := 14) (l' := #[.val (.int x0), .val (.int x1), .val (.int x2), .val (.int x3), .val (.int nn), .val (.ref b1), .unset, .unset, .unset, .unset, .unset, .unset, .unset]) ?_ X1 hx (hb hby at_12) rfl rfl rfl
  obtain ⟨gg, Vg⟩ : ∃ g, Ary Z h1 b1 .byte NN g := ⟨_, V1⟩
  exact sg14 hx hZ hw hby hml hown Bd.notSynchronized Bd.returns (x0) (x1) (x2) (x3) (NN) (nn) (gg) b1 hS hk2 X1 e1 N0 Zs3 Vg Ax1 gn1 hNN hnn

set_option maxRecDepth 65536 in
set_option maxHeartbeats 40000000 in
theorem comes_1 {Post : Tables → Env → Array Value → State → Outcome → State → Prop} (hpost : ∀ tb e args s v u, (limb_1_1.after args s (.returned v) u = true ∧ limb_1_2.after args s (.returned v) u = true ∧ True) → ReturnedEndW s (.returned v) u (Jvm.fieldLocs frame_1_writes args s ++ Jvm.arrayLocs frame_1_arrays args s ++ Jvm.staticLocs frame_1_statics s) 16 1152 → Post tb e args s (.returned v) u) :
    ArmFor flags0 classFile x code maxLocals ret World_1 tables_1 room_1 Calls_1 rest_1 Pre_1 Post := by
  intro l hfl _ _ p e ha hc hk s m args below hf hA hF happ hP
  obtain ⟨hcalls, hrest, hpre⟩ := hP
  obtain ⟨-, -, -, hnamed, -, -, -, hat⟩ := (Spec.applies_iff hf).mp happ
  obtain ⟨hg, hn⟩ := and_e (Cond.before_iff.mp (show (Jvm.Cond.and given_1 narrow_1).before args s = true from hpre))
  obtain ⟨g1, g2⟩ := and_e hg
  obtain ⟨g3, g4⟩ := and_e g2
  obtain ⟨g5, g6⟩ := and_e g4
  obtain ⟨g7, g8⟩ := and_e g6
  obtain ⟨w0, w1, w2, w3, rfl⟩ : ∃ w0 w1 w2 w3 : Value, args = #[w0, w1, w2, w3] := by
    have hs : args.size = 4 := by simpa [Cond.value, given_1] using g1
    obtain ⟨L⟩ := args
    match L, hs with
    | [w0, w1, w2, w3], _ => exact ⟨w0, w1, w2, w3, rfl⟩
  have hw := fun d (hd : d ∈ tables_1) => atoms_spec (ws := Jvm.Cond.code x code maxLocals ret :: tables_1) hat d (List.mem_cons_of_mem _ hd)
  obtain ⟨i0, ei0⟩ := is_v g3
  obtain rfl : w0 = (.int i0) := Option.some.inj ei0
  obtain ⟨i1, ei1⟩ := is_v g5
  obtain rfl : w1 = (.int i1) := Option.some.inj ei1
  obtain ⟨i2, ei2⟩ := is_v g7
  obtain rfl : w2 = (.int i2) := Option.some.inj ei2
  obtain ⟨i3, ei3⟩ := is_v g8
  obtain rfl : w3 = (.int i3) := Option.some.inj ei3
  obtain ⟨n, o, h1, h2, h3, v, L, rfl, hQ, hq⟩ := rm0 l s _ hw tables_1 i0 i1 i2 i3 s.heap s.heap.size (Nat.le_refl _) p e ha hc hk s m _ below hf ((Spec.applies_iff_loose hf).mp happ).1 ⟨rfl, State.Warmed39.refl s, rfl⟩ trivial
  obtain ⟨rfl, N⟩ := hQ
  refine ⟨n, _, h1, h2, h3, hpost _ _ _ _ _ _ ⟨Cond.after_iff.mpr rfl, Cond.after_iff.mpr (eq_i res_at (Term.int_eval (1)) rfl), trivial⟩ ⟨hq.1, hq.2.1, hq.2.2.1, (hq.2.2.2.sift fun y hy => Or.inr (N y hy)).mono (by decide) (by decide)⟩⟩
theorem main_1_1 : Claimed_1_1 := comes_1 fun _ _ _ _ _ _ h hF => ⟨h.1, hF⟩
theorem main_1_2 : Claimed_1_2 := comes_1 fun _ _ _ _ _ _ h hF => ⟨h.2.1, hF⟩
end Jvm.Pilot.@@N@@
namespace Jvm.Pilot.@@N@@
open Jvm Jvm.ClassFile Sem Op Lib Jvm.Free Jvm.Stand Jvm.Pilot.@@N@@.Jvm.D
/-! MADE BY PROGRAM (witnessworld.py) out of the Statement's table words and the real class files: 15 classes; the members and pool entries that the words name. The judged class is class 1, her method 1. -/
namespace start1
open Jvm.ClassFile
def u (s : String) : CpInfo := .utf8 (stringToUtf16 s)
/-- a pool by its gaps: so many unusable entries, then the entry; so many at the end -/
def gap : Nat → List CpInfo → List CpInfo
  | 0, r => r
  | n + 1, r => .unusable :: gap n r
def poolList (es : List (Nat × CpInfo)) (last : Nat) : List CpInfo := es.foldr (fun e r => gap e.1 (e.2 :: r)) (gap last [])
def pool (es : List (Nat × CpInfo)) (last : Nat) : Array CpInfo := ⟨poolList es last⟩
def fileOf (pool : Array CpInfo) (this : Nat) (attrs : Array Attribute := #[]) (ms : Array MethodInfo := #[]) (fl : Nat := 33) (sup : Nat := 0) (ifs : Array Nat := #[]) (fds : Array FieldInfo := #[]) : ClassFile where
  minorVersion := 0
  majorVersion := 65
  constantPool := pool
  accessFlags := fl
  thisClass := this
  superClass := sup
  interfaces := ifs
  fields := fds
  methods := ms
  attributes := attrs
def plain (name : String) (sup : Option ClassId) : Class where
  name := name
  kind := .ordinary
  loader := none
  accessFlags := 33
  super := sup
  interfaces := #[]
  cf := none
  fields := #[]
  methods := #[]
  instanceTypes := #[]
  staticTypes := #[]
  resolved := #[]
  callSites := []
  init := .initialized
  statics := none
  mirror := none

def pool0 : Array CpInfo := pool [(5, u "<init>"), (0, u "()V"), (1, .class_ 10), (1, u "java/lang/Object")] 113

def k0c0 : Code := { maxStack := 0, maxLocals := 1, code := object_method_1_code, exceptionTable := #[], attributes := #[] }
def k0m0 : Method := { name := "<init>", desc := "()V", sig := { parameters := [], returnType := none }, accessFlags := 1, code := some k0c0 }
/-- java/lang/Object -/
def k0 : Class := { plain "java/lang/Object" none with
  accessFlags := 33
  interfaces := #[]
  cf := some (fileOf pool0 8 #[] #[{ accessFlags := 1, nameIndex := 5, descriptorIndex := 6, attributes := #[] }] 33 0 #[] #[])
  fields := #[]
  methods := #[k0m0]
  instanceTypes := #[]
  staticTypes := #[]
  resolved := Array.replicate 124 none
  statics := none }

def pool1 : Array CpInfo := pool [(2, .class_ 4), (1, u "java/lang/Object"), (0, u "<init>"), (0, u "()V"), (0, .integer 2147483647), (0, .class_ 9), (0, u "com/example/tagwright/tagwright/codec/OctetInput"), (0, .methodref 8 11), (0, .nameAndType 5 12), (0, u "([B)V"), (0, .methodref 8 14), (0, .nameAndType 15 16), (0, u "skip"), (0, u "(I)V"), (0, .methodref 8 18), (0, .nameAndType 19 20), (0, u "atEnd"), (0, u "()Z"), (0, .methodref 8 22), (0, .nameAndType 23 24), (0, u "takeToEndOfContents"), (0, u "()Lcom/example/tagwright/tagwright/codec/OctetInput;"), (0, .class_ 26), (0, u "com/example/tagwright/tagwright/codec/OctetInputAtEndPinLaw"), (2, u "law"), (0, u "(IIII)Z")] 5

def k1m0 : Method := { name := "<init>", desc := "()V", sig := { parameters := [], returnType := none }, accessFlags := 1, code := none }
def k1c1 : Code := { maxStack := 4, maxLocals := 13, code := code, exceptionTable := #[], attributes := #[] }
def k1m1 : Method := { name := "law", desc := "(IIII)Z", sig := { parameters := [.int, .int, .int, .int], returnType := some .boolean }, accessFlags := 9, code := some k1c1 }
/-- com/example/tagwright/tagwright/codec/OctetInputAtEndPinLaw -/
def k1 : Class := { plain "com/example/tagwright/tagwright/codec/OctetInputAtEndPinLaw" (some 0) with
  accessFlags := 49
  interfaces := #[]
  cf := some (fileOf pool1 25 #[] #[{ accessFlags := 1, nameIndex := 5, descriptorIndex := 6, attributes := #[] }, { accessFlags := 9, nameIndex := 29, descriptorIndex := 30, attributes := #[] }] 49 2 #[] #[])
  fields := #[]
  methods := #[k1m0, k1m1]
  instanceTypes := #[]
  staticTypes := #[]
  resolved := Array.replicate 36 none
  statics := none }

def pool2 : Array CpInfo := pool [(1, .string 2), (0, u "octets"), (0, .methodref 4 5), (0, .class_ 6), (0, .nameAndType 7 8), (0, u "java/util/Objects"), (0, u "requireNonNull"), (0, u "(Ljava/lang/Object;Ljava/lang/String;)Ljava/lang/Object;"), (0, .class_ 10), (0, u "[B"), (0, .methodref 12 13), (0, .class_ 14), (0, .nameAndType 15 16), (0, u "com/example/tagwright/tagwright/codec/OctetInput"), (0, u "<init>"), (0, u "([BIIZ[I[I)V"), (0, .methodref 18 19), (0, .class_ 20), (0, .nameAndType 15 21), (0, u "java/lang/Object"), (0, u "()V"), (0, .fieldref 12 23), (0, .nameAndType 2 10), (0, .fieldref 12 25), (0, .nameAndType 26 27), (0, u "start"), (0, u "I"), (0, .fieldref 12 29), (0, .nameAndType 30 27), (0, u "next"), (0, .fieldref 12 32), (0, .nameAndType 33 27), (0, u "end"), (0, .fieldref 12 35), (0, .nameAndType 36 37), (0, u "toEndOfContents"), (0, u "Z"), (0, .fieldref 12 39), (0, .nameAndType 40 41), (0, u "pieceIndexes"), (0, u "[I"), (0, .fieldref 12 43), (0, .nameAndType 44 41), (0, u "pieceOffsets"), (4, .methodref 12 50), (0, .nameAndType 51 52), (0, u "require"), (0, u "(I)V"), (14, u "()I"), (9, u "atEnd"), (0, u "()Z"), (8, .methodref 12 88), (0, .nameAndType 89 67), (0, u "remaining"), (29, u "([B)V"), (8, u "skip"), (1, u "()Lcom/example/tagwright/tagwright/codec/OctetInput;"), (3, u "takeToEndOfContents"), (7, .class_ 143), (0, u "com/example/tagwright/tagwright/codec/OctetInput$Joiner")] 22

def k2c0 : Code := { maxStack := 7, maxLocals := 2, code := prog_16_method_1_code, exceptionTable := #[], attributes := #[] }
def k2m0 : Method := { name := "<init>", desc := "([B)V", sig := { parameters := [(.array .byte)], returnType := none }, accessFlags := 1, code := some k2c0 }
def k2c1 : Code := { maxStack := 2, maxLocals := 7, code := prog_16_method_2_code, exceptionTable := #[], attributes := #[] }
def k2m1 : Method := { name := "<init>", desc := "([BIIZ[I[I)V", sig := { parameters := [(.array .byte), .int, .int, .boolean, (.array .int), (.array .int)], returnType := none }, accessFlags := 2, code := some k2c1 }
def k2c2 : Code := { maxStack := 2, maxLocals := 1, code := prog_16_method_4_code, exceptionTable := #[], attributes := #[] }
def k2m2 : Method := { name := "remaining", desc := "()I", sig := { parameters := [], returnType := some .int }, accessFlags := 1, code := some k2c2 }
def k2c3 : Code := { maxStack := 3, maxLocals := 1, code := prog_16_method_5_code, exceptionTable := #[], attributes := #[] }
def k2m3 : Method := { name := "atEnd", desc := "()Z", sig := { parameters := [], returnType := some .boolean }, accessFlags := 1, code := some k2c3 }
def k2c4 : Code := { maxStack := 3, maxLocals := 2, code := prog_16_method_10_code, exceptionTable := #[], attributes := #[] }
def k2m4 : Method := { name := "skip", desc := "(I)V", sig := { parameters := [.int], returnType := none }, accessFlags := 1, code := some k2c4 }
def k2c5 : Code := { maxStack := 8, maxLocals := 1, code := prog_16_method_14_code, exceptionTable := #[], attributes := #[] }
def k2m5 : Method := { name := "takeToEndOfContents", desc := "()Lcom/example/tagwright/tagwright/codec/OctetInput;", sig := { parameters := [], returnType := some (.object "com/example/tagwright/tagwright/codec/OctetInput") }, accessFlags := 1, code := some k2c5 }
def k2c6 : Code := { maxStack := 6, maxLocals := 2, code := prog_16_method_16_code, exceptionTable := #[], attributes := #[] }
def k2m6 : Method := { name := "require", desc := "(I)V", sig := { parameters := [.int], returnType := none }, accessFlags := 2, code := some k2c6 }
/-- com/example/tagwright/tagwright/codec/OctetInput -/
def k2 : Class := { plain "com/example/tagwright/tagwright/codec/OctetInput" (some 0) with
  accessFlags := 49
  interfaces := #[]
  cf := some (fileOf pool2 12 #[.nestMembers #[142]] #[{ accessFlags := 1, nameIndex := 15, descriptorIndex := 119, attributes := #[] }, { accessFlags := 2, nameIndex := 15, descriptorIndex := 16, attributes := #[] }, { accessFlags := 1, nameIndex := 89, descriptorIndex := 67, attributes := #[] }, { accessFlags := 1, nameIndex := 77, descriptorIndex := 78, attributes := #[] }, { accessFlags := 1, nameIndex := 128, descriptorIndex := 52, attributes := #[] }, { accessFlags := 1, nameIndex := 134, descriptorIndex := 130, attributes := #[] }, { accessFlags := 2, nameIndex := 51, descriptorIndex := 52, attributes := #[] }] 49 18 #[] #[{ accessFlags := 18, nameIndex := 2, descriptorIndex := 10, attributes := #[] }, { accessFlags := 18, nameIndex := 26, descriptorIndex := 27, attributes := #[] }, { accessFlags := 18, nameIndex := 33, descriptorIndex := 27, attributes := #[] }, { accessFlags := 2, nameIndex := 30, descriptorIndex := 27, attributes := #[] }, { accessFlags := 18, nameIndex := 36, descriptorIndex := 37, attributes := #[] }, { accessFlags := 18, nameIndex := 40, descriptorIndex := 41, attributes := #[] }, { accessFlags := 18, nameIndex := 44, descriptorIndex := 41, attributes := #[] }])
  fields := #[{ name := "octets", type := (.array .byte), accessFlags := 18, slot := 0, constantValue := 0 }, { name := "start", type := .int, accessFlags := 18, slot := 1, constantValue := 0 }, { name := "end", type := .int, accessFlags := 18, slot := 2, constantValue := 0 }, { name := "next", type := .int, accessFlags := 2, slot := 3, constantValue := 0 }, { name := "toEndOfContents", type := .boolean, accessFlags := 18, slot := 4, constantValue := 0 }, { name := "pieceIndexes", type := (.array .int), accessFlags := 18, slot := 5, constantValue := 0 }, { name := "pieceOffsets", type := (.array .int), accessFlags := 18, slot := 6, constantValue := 0 }]
  methods := #[k2m0, k2m1, k2m2, k2m3, k2m4, k2m5, k2m6]
  instanceTypes := #[(.array .byte), .int, .int, .int, .boolean, (.array .int), (.array .int)]
  staticTypes := #[]
  resolved := Array.replicate 166 none
  statics := none }

def pool3 : Array CpInfo := pool [(1, .class_ 2), (0, u "java/io/Serializable"), (0, .class_ 4), (0, u "java/lang/Object")] 2

/-- java/io/Serializable -/
def k3 : Class := { plain "java/io/Serializable" (some 0) with
  accessFlags := 1537
  interfaces := #[]
  cf := some (fileOf pool3 1 #[] #[] 1537 3 #[] #[])
  fields := #[]
  methods := #[]
  instanceTypes := #[]
  staticTypes := #[]
  resolved := Array.replicate 7 none
  statics := none }

def pool4 : Array CpInfo := pool [(1, .class_ 2), (0, u "java/lang/Comparable"), (0, .class_ 4), (0, u "java/lang/Object")] 7

/-- java/lang/Comparable -/
def k4 : Class := { plain "java/lang/Comparable" (some 0) with
  accessFlags := 1537
  interfaces := #[]
  cf := some (fileOf pool4 1 #[] #[] 1537 3 #[] #[])
  fields := #[]
  methods := #[]
  instanceTypes := #[]
  staticTypes := #[]
  resolved := Array.replicate 12 none
  statics := none }

def pool5 : Array CpInfo := pool [(2, .class_ 4), (1, u "java/lang/CharSequence"), (42, .class_ 48), (0, u "java/lang/CharSequence$1CodePointIterator"), (10, .class_ 60), (0, u "java/lang/CharSequence$1CharIterator"), (5, .class_ 67), (0, u "java/lang/Object")] 63

/-- java/lang/CharSequence -/
def k5 : Class := { plain "java/lang/CharSequence" (some 0) with
  accessFlags := 1537
  interfaces := #[]
  cf := some (fileOf pool5 2 #[.nestMembers #[47, 59]] #[] 1537 66 #[] #[])
  fields := #[]
  methods := #[]
  instanceTypes := #[]
  staticTypes := #[]
  resolved := Array.replicate 131 none
  statics := none }

def pool6 : Array CpInfo := pool [(1, .class_ 2), (0, u "java/lang/constant/Constable"), (0, .class_ 4), (0, u "java/lang/Object")] 6

/-- java/lang/constant/Constable -/
def k6 : Class := { plain "java/lang/constant/Constable" (some 0) with
  accessFlags := 1537
  interfaces := #[]
  cf := some (fileOf pool6 1 #[] #[] 1537 3 #[] #[])
  fields := #[]
  methods := #[]
  instanceTypes := #[]
  staticTypes := #[]
  resolved := Array.replicate 11 none
  statics := none }

def pool7 : Array CpInfo := pool [(1, .class_ 2), (0, u "java/lang/constant/ConstantDesc"), (0, .class_ 4), (0, u "java/lang/Object")] 32

/-- java/lang/constant/ConstantDesc -/
def k7 : Class := { plain "java/lang/constant/ConstantDesc" (some 0) with
  accessFlags := 1537
  interfaces := #[]
  cf := some (fileOf pool7 1 #[] #[] 1537 3 #[] #[])
  fields := #[]
  methods := #[]
  instanceTypes := #[]
  staticTypes := #[]
  resolved := Array.replicate 37 none
  statics := none }

def pool8 : Array CpInfo := pool [(2, .class_ 4), (1, u "java/lang/Object"), (0, u "<init>"), (0, u "()V"), (3, .class_ 12), (1, u "java/lang/String"), (0, u "value"), (0, u "[B"), (2, u "coder"), (0, u "B"), (2, u "hash"), (0, u "I"), (2, u "hashIsZero"), (0, u "Z"), (13, u "COMPACT_STRINGS"), (534, .class_ 576), (0, u "java/lang/CharSequence"), (22, u "CASE_INSENSITIVE_ORDER"), (0, u "Ljava/util/Comparator;"), (500, u "serialPersistentFields"), (0, u "[Ljava/io/ObjectStreamField;"), (0, .class_ 1104), (0, u "java/lang/String$CaseInsensitiveComparator"), (1, .class_ 1107), (0, u "java/io/Serializable"), (0, .class_ 1109), (0, u "java/lang/Comparable"), (0, .class_ 1111), (0, u "java/lang/constant/Constable"), (0, .class_ 1113), (0, u "java/lang/constant/ConstantDesc"), (2, u "serialVersionUID"), (0, u "J"), (3, u "REPL"), (0, u "C"), (2, u "LATIN1"), (1, u "UTF16")] 323

def k8m0 : Method := { name := "<init>", desc := "()V", sig := { parameters := [], returnType := none }, accessFlags := 1, code := none }
/-- java/lang/String -/
def k8 : Class := { plain "java/lang/String" (some 0) with
  accessFlags := 49
  interfaces := #[3, 4, 5, 6, 7]
  cf := some (fileOf pool8 10 #[.nestMembers #[1103]] #[{ accessFlags := 1, nameIndex := 5, descriptorIndex := 6, attributes := #[] }] 49 2 #[1106, 1108, 575, 1110, 1112] #[{ accessFlags := 18, nameIndex := 13, descriptorIndex := 14, attributes := #[] }, { accessFlags := 18, nameIndex := 17, descriptorIndex := 18, attributes := #[] }, { accessFlags := 2, nameIndex := 21, descriptorIndex := 22, attributes := #[] }, { accessFlags := 2, nameIndex := 25, descriptorIndex := 26, attributes := #[] }, { accessFlags := 26, nameIndex := 1116, descriptorIndex := 1117, attributes := #[] }, { accessFlags := 24, nameIndex := 40, descriptorIndex := 26, attributes := #[] }, { accessFlags := 26, nameIndex := 1101, descriptorIndex := 1102, attributes := #[] }, { accessFlags := 26, nameIndex := 1121, descriptorIndex := 1122, attributes := #[] }, { accessFlags := 25, nameIndex := 599, descriptorIndex := 600, attributes := #[] }, { accessFlags := 24, nameIndex := 1125, descriptorIndex := 18, attributes := #[] }, { accessFlags := 24, nameIndex := 1127, descriptorIndex := 18, attributes := #[] }])
  fields := #[{ name := "value", type := (.array .byte), accessFlags := 18, slot := 0, constantValue := 0 }, { name := "coder", type := .byte, accessFlags := 18, slot := 1, constantValue := 0 }, { name := "hash", type := .int, accessFlags := 2, slot := 2, constantValue := 0 }, { name := "hashIsZero", type := .boolean, accessFlags := 2, slot := 3, constantValue := 0 }, { name := "serialVersionUID", type := .long, accessFlags := 26, slot := 0, constantValue := 0 }, { name := "COMPACT_STRINGS", type := .boolean, accessFlags := 24, slot := 1, constantValue := 0 }, { name := "serialPersistentFields", type := (.array (.object "java/io/ObjectStreamField")), accessFlags := 26, slot := 2, constantValue := 0 }, { name := "REPL", type := .char, accessFlags := 26, slot := 3, constantValue := 0 }, { name := "CASE_INSENSITIVE_ORDER", type := (.object "java/util/Comparator"), accessFlags := 25, slot := 4, constantValue := 0 }, { name := "LATIN1", type := .byte, accessFlags := 24, slot := 5, constantValue := 0 }, { name := "UTF16", type := .byte, accessFlags := 24, slot := 6, constantValue := 0 }]
  methods := #[k8m0]
  instanceTypes := #[(.array .byte), .byte, .int, .boolean]
  staticTypes := #[.long, .boolean, (.array (.object "java/io/ObjectStreamField")), .char, (.object "java/util/Comparator"), .byte, .byte]
  resolved := Array.replicate 1451 none
  statics := none }

def pool9 : Array CpInfo := pool [(2, .class_ 4), (1, u "java/lang/Object"), (0, u "<init>"), (0, u "()V"), (35, .class_ 44), (1, u "java/util/Objects"), (0, u "requireNonNull"), (48, u "(Ljava/lang/Object;Ljava/lang/String;)Ljava/lang/Object;")] 89

def k9m0 : Method := { name := "<init>", desc := "()V", sig := { parameters := [], returnType := none }, accessFlags := 2, code := none }
def k9c1 : Code := { maxStack := 3, maxLocals := 2, code := jdk_31_method_11_code, exceptionTable := #[], attributes := #[] }
def k9m1 : Method := { name := "requireNonNull", desc := "(Ljava/lang/Object;Ljava/lang/String;)Ljava/lang/Object;", sig := { parameters := [(.object "java/lang/Object"), (.object "java/lang/String")], returnType := some (.object "java/lang/Object") }, accessFlags := 9, code := some k9c1 }
/-- java/util/Objects -/
def k9 : Class := { plain "java/util/Objects" (some 0) with
  accessFlags := 49
  interfaces := #[]
  cf := some (fileOf pool9 42 #[] #[{ accessFlags := 2, nameIndex := 5, descriptorIndex := 6, attributes := #[] }, { accessFlags := 9, nameIndex := 45, descriptorIndex := 94, attributes := #[] }] 49 2 #[] #[])
  fields := #[]
  methods := #[k9m0, k9m1]
  instanceTypes := #[]
  staticTypes := #[]
  resolved := Array.replicate 184 none
  statics := none }

def pool10 : Array CpInfo := pool [(1, u "java/lang/Cloneable"), (0, .class_ 1), (0, u "java/lang/Object"), (0, .class_ 3)] 3

/-- java/lang/Cloneable -/
def k10 : Class := { plain "java/lang/Cloneable" (some 0) with
  accessFlags := 1537
  interfaces := #[]
  cf := some (fileOf pool10 2 #[] #[] 1537 4 #[] #[])
  fields := #[]
  methods := #[]
  instanceTypes := #[]
  staticTypes := #[]
  resolved := Array.replicate 8 none
  statics := none }

/-- the primitive byte -/
def k11 : Class := { plain "byte" none with kind := .primitive 'B', accessFlags := 0x411 }
/-- [B -/
def k12 : Class := { plain "[B" (some 0) with kind := .array 11 .byte, interfaces := #[10, 3], accessFlags := 1041 }

/-- the primitive int -/
def k13 : Class := { plain "int" none with kind := .primitive 'I', accessFlags := 0x411 }
/-- [I -/
def k14 : Class := { plain "[I" (some 0) with kind := .array 13 .int, interfaces := #[10, 3], accessFlags := 1041 }

def heap : Heap := #[]
def classes : Array Class := #[k0, k1, k2, k3, k4, k5, k6, k7, k8, k9, k10, k11, k12, k13, k14]
def interned : List (Array UInt16 × Addr) := []
def slotsUsed : Nat := 0
def theMethod : MethodId := ⟨1, 1⟩
def args0 : Array Value := #[.int 5, .int 7, .int 3, .int 9]
def aboutOver (below : List Frame) : State where
  vm := { classes := classes, interned := interned.toArray }
  heap := heap
  slotsUsed := slotsUsed
  threads := #[{ frames := .invoking theMethod args0 :: below }]
def below0 : List Frame := [.native { method := ⟨0, 0⟩, args := #[] }]
def about1 : State := aboutOver below0
def p0 : Program := .bare "" "" ""
def e0 : Env := launch0.env 0 0 0
theorem w_frames : about1.frames = Frame.invoking theMethod args0 :: below0 := rfl
set_option maxRecDepth 65536 in
theorem w_args : argsFit about1.vm theMethod args0 = true := by decide +kernel
set_option maxRecDepth 65536 in
theorem w_heap : heapFits about1 = true := by decide +kernel
set_option maxRecDepth 65536 in
theorem w_runnable : about1.curStatus? = some .runnable := by decide +kernel
set_option maxRecDepth 65536 in
theorem w_alone : about1.alone = true := by decide +kernel
set_option maxRecDepth 65536 in
theorem w_named : about1.methodNamed? x = some theMethod := by decide +kernel
set_option maxRecDepth 65536 in
theorem w_hears : about1.hears theMethod below0 = true := by decide +kernel
set_option maxRecDepth 65536 in
theorem w_ripe : about1.ripe theMethod args0 below0 = true := by decide +kernel
theorem w_running : about1.status = .running := rfl
set_option maxRecDepth 65536 in
theorem w_room : about1.hasRoom e0.platform room_1 = true :=
  launch0.hasRoom_least _ room_1 (by decide +kernel) (by decide +kernel) (by decide +kernel) (by decide +kernel) (by decide +kernel) (by decide +kernel)
theorem allAtoms_all (ts : List Jvm.Cond) (a : Array Jvm.Value) (st : Jvm.State) : (allAtoms ts).before a st = ts.all (fun c => c.before a st) := by
  induction ts with
  | nil => rfl
  | cons c t ih =>
    show (Jvm.Cond.and c (allAtoms t)).before a st = _
    rw [Jvm.Cond.before_and, ih, List.all_cons]
def words1 : List Jvm.Cond := Jvm.Cond.code x code maxLocals ret :: tables_1
/-- a 'code' word, met by the world's own term for the bytes: nothing is compared byte by byte -/
theorem code_word {y : MethodName} {bytes : ByteArray} {mx : Nat} {rt : Option FieldType} {a : Array Value} {s : State} {m : MethodId} {meth : Method} {c : Code} (h1 : s.methodNamed? y = some m) (h2 : s.vm.method? m = some meth) (h3 : meth.code = some c) (h4 : c.code = bytes)
    (h5 : (c.maxLocals == mx && c.exceptionTable.isEmpty && decide (c.maxStack ≤ mostOperands) && decide (meth.sig.returnType = rt) && !meth.locks && decide (parseMethodDescriptor y.desc = some meth.sig)) = true) : (Jvm.Cond.code y bytes mx rt).before a s = true := by
  simp only [Bool.and_eq_true, beq_iff_eq, Bool.not_eq_true', decide_eq_true_eq] at h5
  obtain ⟨⟨⟨⟨⟨g1, g2⟩, g3⟩, g4⟩, g5⟩, g6⟩ := h5
  simp [Cond.before, Cond.holds, Cond.value, h1, h2, h3, h4, g1, g2, g3, g4, g5, g6]
def isCode : Jvm.Cond → Bool
  | .code _ _ _ _ => true
  | _ => false
theorem all_split {L : List Jvm.Cond} {P : Jvm.Cond → Bool} (h1 : L.all (fun c => isCode c || P c) = true) (h2 : ∀ c ∈ L.filter isCode, P c = true) : L.all P = true := by
  refine List.all_eq_true.mpr fun c hc => ?_
  have h := List.all_eq_true.mp h1 c hc
  rcases Bool.eq_false_or_eq_true (isCode c) with hi | hi
  · exact h2 c (List.mem_filter.mpr ⟨hc, hi⟩)
  · simpa [hi] using h
set_option maxRecDepth 65536 in
theorem w_c0 : (Jvm.Cond.code x code maxLocals ret).before args0 about1 = true := code_word (m := ⟨1, 1⟩) (meth := k1m1) (c := k1c1) (by decide +kernel) rfl rfl rfl (by decide +kernel)
set_option maxRecDepth 65536 in
theorem w_c1 : (Jvm.Cond.code ({ cls := "com/example/tagwright/tagwright/codec/OctetInput", name := "<init>", desc := "([B)V" } : Jvm.MethodName) prog_16_method_1_code (2 : Nat) (Option.none : Option Jvm.ClassFile.FieldType)).before args0 about1 = true := code_word (m := ⟨2, 0⟩) (meth := k2m0) (c := k2c0) (by decide +kernel) rfl rfl rfl (by decide +kernel)
set_option maxRecDepth 65536 in
theorem w_c2 : (Jvm.Cond.code ({ cls := "java/util/Objects", name := "requireNonNull", desc := "(Ljava/lang/Object;Ljava/lang/String;)Ljava/lang/Object;" } : Jvm.MethodName) jdk_31_method_11_code (2 : Nat) (Option.some (Jvm.ClassFile.FieldType.object "java/lang/Object"))).before args0 about1 = true := code_word (m := ⟨9, 1⟩) (meth := k9m1) (c := k9c1) (by decide +kernel) rfl rfl rfl (by decide +kernel)
set_option maxRecDepth 65536 in
theorem w_c3 : (Jvm.Cond.code ({ cls := "com/example/tagwright/tagwright/codec/OctetInput", name := "<init>", desc := "([BIIZ[I[I)V" } : Jvm.MethodName) prog_16_method_2_code (7 : Nat) (Option.none : Option Jvm.ClassFile.FieldType)).before args0 about1 = true := code_word (m := ⟨2, 1⟩) (meth := k2m1) (c := k2c1) (by decide +kernel) rfl rfl rfl (by decide +kernel)
set_option maxRecDepth 65536 in
theorem w_c4 : (Jvm.Cond.code ({ cls := "java/lang/Object", name := "<init>", desc := "()V" } : Jvm.MethodName) object_method_1_code (1 : Nat) (Option.none : Option Jvm.ClassFile.FieldType)).before args0 about1 = true := code_word (m := ⟨0, 0⟩) (meth := k0m0) (c := k0c0) (by decide +kernel) rfl rfl rfl (by decide +kernel)
set_option maxRecDepth 65536 in
theorem w_c5 : (Jvm.Cond.code ({ cls := "com/example/tagwright/tagwright/codec/OctetInput", name := "skip", desc := "(I)V" } : Jvm.MethodName) prog_16_method_10_code (2 : Nat) (Option.none : Option Jvm.ClassFile.FieldType)).before args0 about1 = true := code_word (m := ⟨2, 4⟩) (meth := k2m4) (c := k2c4) (by decide +kernel) rfl rfl rfl (by decide +kernel)
set_option maxRecDepth 65536 in
theorem w_c6 : (Jvm.Cond.code ({ cls := "com/example/tagwright/tagwright/codec/OctetInput", name := "require", desc := "(I)V" } : Jvm.MethodName) prog_16_method_16_code (2 : Nat) (Option.none : Option Jvm.ClassFile.FieldType)).before args0 about1 = true := code_word (m := ⟨2, 6⟩) (meth := k2m6) (c := k2c6) (by decide +kernel) rfl rfl rfl (by decide +kernel)
set_option maxRecDepth 65536 in
theorem w_c7 : (Jvm.Cond.code ({ cls := "com/example/tagwright/tagwright/codec/OctetInput", name := "remaining", desc := "()I" } : Jvm.MethodName) prog_16_method_4_code (1 : Nat) (Option.some Jvm.ClassFile.FieldType.int)).before args0 about1 = true := code_word (m := ⟨2, 2⟩) (meth := k2m2) (c := k2c2) (by decide +kernel) rfl rfl rfl (by decide +kernel)
set_option maxRecDepth 65536 in
theorem w_c8 : (Jvm.Cond.code ({ cls := "com/example/tagwright/tagwright/codec/OctetInput", name := "atEnd", desc := "()Z" } : Jvm.MethodName) prog_16_method_5_code (1 : Nat) (Option.some Jvm.ClassFile.FieldType.boolean)).before args0 about1 = true := code_word (m := ⟨2, 3⟩) (meth := k2m3) (c := k2c3) (by decide +kernel) rfl rfl rfl (by decide +kernel)
set_option maxRecDepth 65536 in
theorem w_c9 : (Jvm.Cond.code ({ cls := "com/example/tagwright/tagwright/codec/OctetInput", name := "takeToEndOfContents", desc := "()Lcom/example/tagwright/tagwright/codec/OctetInput;" } : Jvm.MethodName) prog_16_method_14_code (1 : Nat) (Option.some (Jvm.ClassFile.FieldType.object "com/example/tagwright/tagwright/codec/OctetInput"))).before args0 about1 = true := code_word (m := ⟨2, 5⟩) (meth := k2m5) (c := k2c5) (by decide +kernel) rfl rfl rfl (by decide +kernel)
def codes1 : List Jvm.Cond := [Jvm.Cond.code x code maxLocals ret, Jvm.Cond.code ({ cls := "com/example/tagwright/tagwright/codec/OctetInput", name := "<init>", desc := "([B)V" } : Jvm.MethodName) prog_16_method_1_code (2 : Nat) (Option.none : Option Jvm.ClassFile.FieldType), Jvm.Cond.code ({ cls := "java/util/Objects", name := "requireNonNull", desc := "(Ljava/lang/Object;Ljava/lang/String;)Ljava/lang/Object;" } : Jvm.MethodName) jdk_31_method_11_code (2 : Nat) (Option.some (Jvm.ClassFile.FieldType.object "java/lang/Object")), Jvm.Cond.code ({ cls := "com/example/tagwright/tagwright/codec/OctetInput", name := "<init>", desc := "([BIIZ[I[I)V" } : Jvm.MethodName) prog_16_method_2_code (7 : Nat) (Option.none : Option Jvm.ClassFile.FieldType), Jvm.Cond.code ({ cls := "java/lang/Object", name := "<init>", desc := "()V" } : Jvm.MethodName) object_method_1_code (1 : Nat) (Option.none : Option Jvm.ClassFile.FieldType), Jvm.Cond.code ({ cls := "com/example/tagwright/tagwright/codec/OctetInput", name := "skip", desc := "(I)V" } : Jvm.MethodName) prog_16_method_10_code (2 : Nat) (Option.none : Option Jvm.ClassFile.FieldType), Jvm.Cond.code ({ cls := "com/example/tagwright/tagwright/codec/OctetInput", name := "require", desc := "(I)V" } : Jvm.MethodName) prog_16_method_16_code (2 : Nat) (Option.none : Option Jvm.ClassFile.FieldType), Jvm.Cond.code ({ cls := "com/example/tagwright/tagwright/codec/OctetInput", name := "remaining", desc := "()I" } : Jvm.MethodName) prog_16_method_4_code (1 : Nat) (Option.some Jvm.ClassFile.FieldType.int), Jvm.Cond.code ({ cls := "com/example/tagwright/tagwright/codec/OctetInput", name := "atEnd", desc := "()Z" } : Jvm.MethodName) prog_16_method_5_code (1 : Nat) (Option.some Jvm.ClassFile.FieldType.boolean), Jvm.Cond.code ({ cls := "com/example/tagwright/tagwright/codec/OctetInput", name := "takeToEndOfContents", desc := "()Lcom/example/tagwright/tagwright/codec/OctetInput;" } : Jvm.MethodName) prog_16_method_14_code (1 : Nat) (Option.some (Jvm.ClassFile.FieldType.object "com/example/tagwright/tagwright/codec/OctetInput"))]
set_option maxRecDepth 65536 in
theorem codes_eq : words1.filter isCode = codes1 := rfl
theorem w_codes : ∀ c ∈ words1.filter isCode, c.before args0 about1 = true := by
  rw [codes_eq]
  intro c hc
  simp only [codes1, List.mem_cons, List.not_mem_nil, or_false] at hc
  rcases hc with rfl | rfl | rfl | rfl | rfl | rfl | rfl | rfl | rfl | rfl
  · exact w_c0
  · exact w_c1
  · exact w_c2
  · exact w_c3
  · exact w_c4
  · exact w_c5
  · exact w_c6
  · exact w_c7
  · exact w_c8
  · exact w_c9
set_option maxRecDepth 65536 in
theorem w_t1 : (words1.take 24).all (fun c => isCode c || c.before args0 about1) = true := by decide +kernel
set_option maxRecDepth 65536 in
theorem w_t2 : ((words1.drop 24).take 24).all (fun c => isCode c || c.before args0 about1) = true := by decide +kernel
set_option maxRecDepth 65536 in
theorem w_t3 : ((words1.drop 24).drop 24).all (fun c => isCode c || c.before args0 about1) = true := by decide +kernel
theorem w_tables : (allAtoms (Jvm.Cond.code x code maxLocals ret :: tables_1)).before args0 about1 = true := by
  rw [allAtoms_all]
  show words1.all (fun c => c.before args0 about1) = true
  refine all_split ?_ w_codes
  rw [← List.take_append_drop 24 words1, List.all_append, w_t1, ← List.take_append_drop 24 (words1.drop 24), List.all_append, w_t2, w_t3]
  rfl
set_option maxRecDepth 65536 in
theorem w_case : (Jvm.Cond.and given_1 narrow_1).before args0 about1 = true := by decide +kernel
theorem w_applies : (headSpec (Jvm.Cond.code x code maxLocals ret :: tables_1) room_1).applies x e0.platform about1 = true :=
  (Spec.applies_iff w_frames).mpr ⟨w_running, w_runnable, w_alone, w_named, w_hears, w_ripe, w_room, w_tables⟩
theorem atStart : AtStart classFile x code maxLocals ret World_1 tables_1 room_1 Calls_1 rest_1 Pre_1 launch0 p0 e0 about1 theMethod args0 below0 :=
  ⟨lists_1, trivial, launch0.admits_env _ _ _, launch0.least_env, fairChoices_fair.cas, fairChoices_fair.clock, w_frames, w_args, w_heap, w_applies, trivial, trivial, w_case⟩
end start1
theorem witness_1 : WitnessClaimed_1 := ⟨start1.p0, start1.e0, start1.about1, start1.theMethod, start1.args0, start1.below0, start1.atStart⟩
end Jvm.Pilot.@@N@@
