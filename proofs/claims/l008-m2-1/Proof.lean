import JvmDerived
import JvmDerived.Pilot.@@N@@Statement
import JvmDerived.Pilot.@@N@@Code
set_option linter.unusedVariables false
set_option linter.unusedSimpArgs false
namespace Jvm.Pilot.@@N@@
open Jvm Jvm.ClassFile Sem Op Lib Jvm.Free Jvm.Stand Jvm.LawKit Jvm.RoadKit Bundle Jvm.Pilot.@@N@@.Jvm.D
section Own
variable {p : Program} {l : Launch} {e : Env} {R : Room} {s : State} {m : MethodId} {args : Array Value} {below : List Frame} {meth : Method} {c : Code} {T : State} {locs : List Loc} {cells slots : Nat}
/-- from u the walk comes to its return, with what Q says of value, heap and the places written, and F of the frame -/
def Ends (p : Program) (e : Env) (below : List Frame) (F : Outcome → State → List Loc → Prop) (Q : Option Value → Heap → List Loc → Prop) (u : State) : Prop :=
  ∃ s₂ o, Steps p.tables e below u s₂ ∧ s₂.status = .running ∧ Ended s₂ below o ∧ ∃ v L, o = .returned v ∧ Q v s₂.heap L ∧ F o s₂ L
def FE (s : State) (kc ks : Nat) (o : Outcome) (t : State) (L : List Loc) : Prop := FrameEnd s o t L kc ks
def FW (s : State) (kc ks : Nat) (o : Outcome) (t : State) (L : List Loc) : Prop := ReturnedEndW s o t L kc ks
variable {F : Outcome → State → List Loc → Prop} {Q : Option Value → Heap → List Loc → Prop} {kc ks : Nat} {u u' : State}
theorem Ends.by (k : Ends p e below F Q u') (h : ∀ t, Steps p.tables e below u' t → Steps p.tables e below u t) : Ends p e below F Q u := by
  obtain ⟨s₂, o, h1, r⟩ := k
  exact ⟨s₂, o, h _ h1, r⟩
theorem Ends.go (h : Steps p.tables e below u u') (k : Ends p e below F Q u') : Ends p e below F Q u := k.by fun _ q => h.trans q
theorem Ends.retN (X : Stand p l e R s m args below meth c T locs cells slots) (hx : p.tables.exec = Jvm.exec) (hlk : meth.locks = false) {t : FieldType} (hret : meth.sig.returnType = some t) (ht : t = .boolean ∨ t = .byte ∨ t = .char ∨ t = .short) {pc : Nat} {Ls : Array Slot} {z w : Int32} {rest : List Value}
    (hd : decode c.code pc = .ok (.ireturn, 1)) (hz : nar t z = w) (hQ : Q (some (.int w)) T.heap locs) (hc : cells ≤ kc) (hs : slots ≤ ks) : Ends p e below (FE s kc ks) Q (T.setTop (mkF m pc Ls (.int z :: rest))) := by
  subst hz
  obtain ⟨fs, hr, hrun, hended, hW, hsame⟩ := X.leave (v := some (.int (nar t z))) (fun h => by rw [hret] at h; cases h) hlk
  exact ⟨_, _, Jvm.RoadKit.retN X hx hret ht hd hr, hrun, hended, _, _, rfl, hQ, ⟨_, rfl⟩, hW, hsame.mono hc hs⟩
theorem Ends.retI (X : Stand p l e R s m args below meth c T locs cells slots) (hx : p.tables.exec = Jvm.exec) (hlk : meth.locks = false) (hret : meth.sig.returnType = some .int) {pc : Nat} {Ls : Array Slot} {z : Int32} {rest : List Value}
    (hd : decode c.code pc = .ok (.ireturn, 1)) (hQ : Q (some (.int z)) T.heap locs) (hc : cells ≤ kc) (hs : slots ≤ ks) : Ends p e below (FE s kc ks) Q (T.setTop (mkF m pc Ls (.int z :: rest))) := by
  obtain ⟨fs, hr, hrun, hended, hW, hsame⟩ := X.leave (v := some (.int z)) (fun h => by rw [hret] at h; cases h) hlk
  exact ⟨_, _, Jvm.RoadKit.retOut X hx hret rfl (Or.inl ⟨rfl, by simp, z, rfl⟩) hd hr, hrun, hended, _, _, rfl, hQ, ⟨_, rfl⟩, hW, hsame.mono hc hs⟩
theorem Ends.retJ (X : Stand p l e R s m args below meth c T locs cells slots) (hx : p.tables.exec = Jvm.exec) (hlk : meth.locks = false) (hret : meth.sig.returnType = some .long) {pc : Nat} {Ls : Array Slot} {z : Int64} {rest : List Value}
    (hd : decode c.code pc = .ok (.lreturn, 1)) (hQ : Q (some (.long z)) T.heap locs) (hc : cells ≤ kc) (hs : slots ≤ ks) : Ends p e below (FE s kc ks) Q (T.setTop (mkF m pc Ls (.long z :: rest))) := by
  obtain ⟨fs, hr, hrun, hended, hW, hsame⟩ := X.leave (v := some (.long z)) (fun h => by rw [hret] at h; cases h) hlk
  exact ⟨_, _, Jvm.RoadKit.retOut X hx hret rfl (Or.inr (Or.inl ⟨rfl, rfl, z, rfl⟩)) hd hr, hrun, hended, _, _, rfl, hQ, ⟨_, rfl⟩, hW, hsame.mono hc hs⟩
theorem Ends.retD (X : Stand p l e R s m args below meth c T locs cells slots) (hx : p.tables.exec = Jvm.exec) (hlk : meth.locks = false) (hret : meth.sig.returnType = some .double) {pc : Nat} {Ls : Array Slot} {z : UInt64} {rest : List Value}
    (hd : decode c.code pc = .ok (.dreturn, 1)) (hQ : Q (some (.double z)) T.heap locs) (hc : cells ≤ kc) (hs : slots ≤ ks) : Ends p e below (FE s kc ks) Q (T.setTop (mkF m pc Ls (.double z :: rest))) := by
  obtain ⟨fs, hr, hrun, hended, hW, hsame⟩ := X.leave (v := some (.double z)) (fun h => by rw [hret] at h; cases h) hlk
  exact ⟨_, _, Jvm.RoadKit.retOut X hx hret rfl (Or.inr (Or.inr (Or.inl ⟨rfl, rfl, z, rfl⟩))) hd hr, hrun, hended, _, _, rfl, hQ, ⟨_, rfl⟩, hW, hsame.mono hc hs⟩
theorem Ends.retA (X : Stand p l e R s m args below meth c T locs cells slots) (hx : p.tables.exec = Jvm.exec) (hlk : meth.locks = false) {t : FieldType} (hret : meth.sig.returnType = some t) (ht : t.isReference = true) (hn : ∀ a, narrow t (.ref a) = .ref a) {pc : Nat} {Ls : Array Slot} {a : Addr} {rest : List Value}
    (hd : decode c.code pc = .ok (.areturn, 1)) (hQ : Q (some (.ref a)) T.heap locs) (hc : cells ≤ kc) (hs : slots ≤ ks) : Ends p e below (FE s kc ks) Q (T.setTop (mkF m pc Ls (.ref a :: rest))) := by
  obtain ⟨fs, hr, hrun, hended, hW, hsame⟩ := X.leave (v := some (.ref a)) (fun h => by rw [hret] at h; cases h) hlk
  exact ⟨_, _, Jvm.RoadKit.retOut X hx hret (hn a) (Or.inr (Or.inr (Or.inr (Or.inr ⟨rfl, ht, rfl⟩)))) hd hr, hrun, hended, _, _, rfl, hQ, ⟨_, rfl⟩, hW, hsame.mono hc hs⟩
theorem Ends.retV (X : Stand p l e R s m args below meth c T locs cells slots) (hx : p.tables.exec = Jvm.exec) (hlk : meth.locks = false) (hret : meth.sig.returnType = none) {pc : Nat} {Ls : Array Slot}
    (hd : decode c.code pc = .ok (.return_, 1)) (hQ : Q none T.heap locs) (hc : cells ≤ kc) (hs : slots ≤ ks) : Ends p e below (FE s kc ks) Q (T.setTop (mkF m pc Ls [])) := by
  obtain ⟨fs, hr, hrun, hended, hW, hsame⟩ := X.leave (v := none) (fun _ => rfl) hlk
  exact ⟨_, _, X.returnOut hx hret hd hr, hrun, hended, _, _, rfl, hQ, ⟨_, rfl⟩, hW, hsame.mono hc hs⟩
theorem Ends.retNW {vm0 : Vm} (X : Stand p l e R (s.setVm vm0) m args below meth c T locs cells slots) {n : Nat} (hS : s.Since vm0 n) (hn : n ≤ T.heap.size) (hx : p.tables.exec = Jvm.exec) (hlk : meth.locks = false) {t : FieldType} (hret : meth.sig.returnType = some t) (ht : t = .boolean ∨ t = .byte ∨ t = .char ∨ t = .short) {pc : Nat} {Ls : Array Slot} {z w : Int32} {rest : List Value}
    (hd : decode c.code pc = .ok (.ireturn, 1)) (hz : nar t z = w) (hQ : Q (some (.int w)) T.heap locs) (hc : cells ≤ kc) (hs : slots ≤ ks) : Ends p e below (FW s kc ks) Q (T.setTop (mkF m pc Ls (.int z :: rest))) := by
  subst hz
  obtain ⟨fs, hr, hrun, hended, hW⟩ := X.leaveW hS hn (v := some (.int (nar t z))) (fun h => by rw [hret] at h; cases h) hlk
  exact ⟨_, _, Jvm.RoadKit.retN X hx hret ht hd hr, hrun, hended, _, _, rfl, hQ, hW.1, hW.2.1, hW.2.2.1, hW.2.2.2.mono hc hs⟩
theorem Ends.retIW {vm0 : Vm} (X : Stand p l e R (s.setVm vm0) m args below meth c T locs cells slots) {n : Nat} (hS : s.Since vm0 n) (hn : n ≤ T.heap.size) (hx : p.tables.exec = Jvm.exec) (hlk : meth.locks = false) (hret : meth.sig.returnType = some .int) {pc : Nat} {Ls : Array Slot} {z : Int32} {rest : List Value}
    (hd : decode c.code pc = .ok (.ireturn, 1)) (hQ : Q (some (.int z)) T.heap locs) (hc : cells ≤ kc) (hs : slots ≤ ks) : Ends p e below (FW s kc ks) Q (T.setTop (mkF m pc Ls (.int z :: rest))) := by
  obtain ⟨fs, hr, hrun, hended, hW⟩ := X.leaveW hS hn (v := some (.int z)) (fun h => by rw [hret] at h; cases h) hlk
  exact ⟨_, _, Jvm.RoadKit.retOut X hx hret rfl (Or.inl ⟨rfl, by simp, z, rfl⟩) hd hr, hrun, hended, _, _, rfl, hQ, hW.1, hW.2.1, hW.2.2.1, hW.2.2.2.mono hc hs⟩
theorem Ends.retJW {vm0 : Vm} (X : Stand p l e R (s.setVm vm0) m args below meth c T locs cells slots) {n : Nat} (hS : s.Since vm0 n) (hn : n ≤ T.heap.size) (hx : p.tables.exec = Jvm.exec) (hlk : meth.locks = false) (hret : meth.sig.returnType = some .long) {pc : Nat} {Ls : Array Slot} {z : Int64} {rest : List Value}
    (hd : decode c.code pc = .ok (.lreturn, 1)) (hQ : Q (some (.long z)) T.heap locs) (hc : cells ≤ kc) (hs : slots ≤ ks) : Ends p e below (FW s kc ks) Q (T.setTop (mkF m pc Ls (.long z :: rest))) := by
  obtain ⟨fs, hr, hrun, hended, hW⟩ := X.leaveW hS hn (v := some (.long z)) (fun h => by rw [hret] at h; cases h) hlk
  exact ⟨_, _, Jvm.RoadKit.retOut X hx hret rfl (Or.inr (Or.inl ⟨rfl, rfl, z, rfl⟩)) hd hr, hrun, hended, _, _, rfl, hQ, hW.1, hW.2.1, hW.2.2.1, hW.2.2.2.mono hc hs⟩
theorem Ends.retAW {vm0 : Vm} (X : Stand p l e R (s.setVm vm0) m args below meth c T locs cells slots) {n : Nat} (hS : s.Since vm0 n) (hnn : n ≤ T.heap.size) (hx : p.tables.exec = Jvm.exec) (hlk : meth.locks = false) {t : FieldType} (hret : meth.sig.returnType = some t) (ht : t.isReference = true) (hn : ∀ a, narrow t (.ref a) = .ref a) {pc : Nat} {Ls : Array Slot} {a : Addr} {rest : List Value}
    (hd : decode c.code pc = .ok (.areturn, 1)) (hQ : Q (some (.ref a)) T.heap locs) (hc : cells ≤ kc) (hs : slots ≤ ks) : Ends p e below (FW s kc ks) Q (T.setTop (mkF m pc Ls (.ref a :: rest))) := by
  obtain ⟨fs, hr, hrun, hended, hW⟩ := X.leaveW hS hnn (v := some (.ref a)) (fun h => by rw [hret] at h; cases h) hlk
  exact ⟨_, _, Jvm.RoadKit.retOut X hx hret (hn a) (Or.inr (Or.inr (Or.inr (Or.inr ⟨rfl, ht, rfl⟩)))) hd hr, hrun, hended, _, _, rfl, hQ, hW.1, hW.2.1, hW.2.2.1, hW.2.2.2.mono hc hs⟩
theorem Ends.retVW {vm0 : Vm} (X : Stand p l e R (s.setVm vm0) m args below meth c T locs cells slots) {n : Nat} (hS : s.Since vm0 n) (hn : n ≤ T.heap.size) (hx : p.tables.exec = Jvm.exec) (hlk : meth.locks = false) (hret : meth.sig.returnType = none) {pc : Nat} {Ls : Array Slot}
    (hd : decode c.code pc = .ok (.return_, 1)) (hQ : Q none T.heap locs) (hc : cells ≤ kc) (hs : slots ≤ ks) : Ends p e below (FW s kc ks) Q (T.setTop (mkF m pc Ls [])) := by
  obtain ⟨fs, hr, hrun, hended, hW⟩ := X.leaveW hS hn (v := none) (fun _ => rfl) hlk
  exact ⟨_, _, X.returnOut hx hret hd hr, hrun, hended, _, _, rfl, hQ, hW.1, hW.2.1, hW.2.2.1, hW.2.2.2.mono hc hs⟩
theorem lremM {g : JFrame} {target : State} (X : Stand p l e R s m args below meth c T locs cells slots) (hx : p.tables.exec = Jvm.exec) (hg : g.method = m) {x y : Int64} {rest : List Value} (hd : decode c.code g.pc = .ok (.lrem, 1)) (hs : g.stack = .long y :: .long x :: rest) (hy : y ≠ 0)
    (hr : Steps p.tables e below (T.setTop { g with pc := g.pc + 1, stack := .long (x % y) :: rest }) target) : Steps p.tables e below (T.setTop g) target :=
  XS.lrem X.here hx hg hd hs hy (by rw [lrem_mod x y]; exact hr)
/-- a method that writes nothing: what it returns, the heap as it was -/
def QP (V : Option Value) (h0 : Heap) (n0 : Nat) (v : Option Value) (h : Heap) (L : List Loc) : Prop := v = V ∧ Fr n0 L ∧ h = h0
/-- a law: it returns 1; nothing old is written -/
def QL (n0 : Nat) (v : Option Value) (_ : Heap) (L : List Loc) : Prop := v = some (.int 1) ∧ Fr n0 L
end Own
section OwnSteps
variable {p : Program} {l : Launch} {e : Env} {R : Room} {s : State} {m : MethodId} {args : Array Value} {below : List Frame} {meth : Method} {c : Code} {T : State} {locs : List Loc} {cells slots : Nat} {F : Outcome → State → List Loc → Prop} {Q : Option Value → Heap → List Loc → Prop} {pc : Nat} {Ls : Array Slot} {S : List Value}
theorem Es.iload {i : Nat} {v : Int32} {q : Nat} (k : Ends p e below F Q (T.setTop (mkF m q Ls (.int v :: S)))) (X : Stand p l e R s m args below meth c T locs cells slots) (hx : p.tables.exec = Jvm.exec) (hd : decode c.code pc = .ok (.iload i, 2)) (hq : pc + 2 = q) (hl : Ls[i]? = some (.val (.int v))) : Ends p e below F Q (T.setTop (mkF m pc Ls S)) := by
  subst hq
  exact k.by fun _ r => XS.iload X.here hx rfl hd hl r
theorem Es.iloadN {i : Fin 4} {v : Int32} {q : Nat} (k : Ends p e below F Q (T.setTop (mkF m q Ls (.int v :: S)))) (X : Stand p l e R s m args below meth c T locs cells slots) (hx : p.tables.exec = Jvm.exec) (hd : decode c.code pc = .ok (.iload_n i, 1)) (hq : pc + 1 = q) (hl : Ls[i.val]? = some (.val (.int v))) : Ends p e below F Q (T.setTop (mkF m pc Ls S)) := by
  subst hq
  exact k.by fun _ r => XS.iloadN X.here hx rfl hd hl r
theorem Es.istore {i : Nat} {x : Int32} {l' : Array Slot} {q : Nat} (k : Ends p e below F Q (T.setTop (mkF m q l' S))) (X : Stand p l e R s m args below meth c T locs cells slots) (hx : p.tables.exec = Jvm.exec) (hd : decode c.code pc = .ok (.istore i, 2)) (hq : pc + 2 = q) (hl : storeLocals Ls i (.int x) = some l') : Ends p e below F Q (T.setTop (mkF m pc Ls (.int x :: S))) := by
  subst hq
  exact k.by fun _ r => XS.istore X.here hx rfl hd rfl hl r
theorem Es.istoreN {i : Fin 4} {x : Int32} {l' : Array Slot} {q : Nat} (k : Ends p e below F Q (T.setTop (mkF m q l' S))) (X : Stand p l e R s m args below meth c T locs cells slots) (hx : p.tables.exec = Jvm.exec) (hd : decode c.code pc = .ok (.istore_n i, 1)) (hq : pc + 1 = q) (hl : storeLocals Ls i.val (.int x) = some l') : Ends p e below F Q (T.setTop (mkF m pc Ls (.int x :: S))) := by
  subst hq
  exact k.by fun _ r => XS.istoreN X.here hx rfl hd rfl hl r
theorem Es.lload {i : Nat} {v : Int64} {q : Nat} (k : Ends p e below F Q (T.setTop (mkF m q Ls (.long v :: S)))) (X : Stand p l e R s m args below meth c T locs cells slots) (hx : p.tables.exec = Jvm.exec) (hd : decode c.code pc = .ok (.lload i, 2)) (hq : pc + 2 = q) (hl : Ls[i]? = some (.val (.long v))) : Ends p e below F Q (T.setTop (mkF m pc Ls S)) := by
  subst hq
  exact k.by fun _ r => XS.lload X.here hx rfl hd hl r
theorem Es.lloadN {i : Fin 4} {v : Int64} {q : Nat} (k : Ends p e below F Q (T.setTop (mkF m q Ls (.long v :: S)))) (X : Stand p l e R s m args below meth c T locs cells slots) (hx : p.tables.exec = Jvm.exec) (hd : decode c.code pc = .ok (.lload_n i, 1)) (hq : pc + 1 = q) (hl : Ls[i.val]? = some (.val (.long v))) : Ends p e below F Q (T.setTop (mkF m pc Ls S)) := by
  subst hq
  exact k.by fun _ r => XS.lloadN X.here hx rfl hd hl r
theorem Es.lstore {i : Nat} {x : Int64} {l' : Array Slot} {q : Nat} (k : Ends p e below F Q (T.setTop (mkF m q l' S))) (X : Stand p l e R s m args below meth c T locs cells slots) (hx : p.tables.exec = Jvm.exec) (hd : decode c.code pc = .ok (.lstore i, 2)) (hq : pc + 2 = q) (hl : storeLocals Ls i (.long x) = some l') : Ends p e below F Q (T.setTop (mkF m pc Ls (.long x :: S))) := by
  subst hq
  exact k.by fun _ r => XS.lstore X.here hx rfl hd rfl hl r
theorem Es.lstoreN {i : Fin 4} {x : Int64} {l' : Array Slot} {q : Nat} (k : Ends p e below F Q (T.setTop (mkF m q l' S))) (X : Stand p l e R s m args below meth c T locs cells slots) (hx : p.tables.exec = Jvm.exec) (hd : decode c.code pc = .ok (.lstore_n i, 1)) (hq : pc + 1 = q) (hl : storeLocals Ls i.val (.long x) = some l') : Ends p e below F Q (T.setTop (mkF m pc Ls (.long x :: S))) := by
  subst hq
  exact k.by fun _ r => XS.lstoreN X.here hx rfl hd rfl hl r
theorem Es.dload {i : Nat} {v : UInt64} {q : Nat} (k : Ends p e below F Q (T.setTop (mkF m q Ls (.double v :: S)))) (X : Stand p l e R s m args below meth c T locs cells slots) (hx : p.tables.exec = Jvm.exec) (hd : decode c.code pc = .ok (.dload i, 2)) (hq : pc + 2 = q) (hl : Ls[i]? = some (.val (.double v))) : Ends p e below F Q (T.setTop (mkF m pc Ls S)) := by
  subst hq
  exact k.by fun _ r => XS.dload X.here hx rfl hd hl r
theorem Es.dloadN {i : Fin 4} {v : UInt64} {q : Nat} (k : Ends p e below F Q (T.setTop (mkF m q Ls (.double v :: S)))) (X : Stand p l e R s m args below meth c T locs cells slots) (hx : p.tables.exec = Jvm.exec) (hd : decode c.code pc = .ok (.dload_n i, 1)) (hq : pc + 1 = q) (hl : Ls[i.val]? = some (.val (.double v))) : Ends p e below F Q (T.setTop (mkF m pc Ls S)) := by
  subst hq
  exact k.by fun _ r => XS.dloadN X.here hx rfl hd hl r
theorem Es.dstore {i : Nat} {x : UInt64} {l' : Array Slot} {q : Nat} (k : Ends p e below F Q (T.setTop (mkF m q l' S))) (X : Stand p l e R s m args below meth c T locs cells slots) (hx : p.tables.exec = Jvm.exec) (hd : decode c.code pc = .ok (.dstore i, 2)) (hq : pc + 2 = q) (hl : storeLocals Ls i (.double x) = some l') : Ends p e below F Q (T.setTop (mkF m pc Ls (.double x :: S))) := by
  subst hq
  exact k.by fun _ r => XS.dstore X.here hx rfl hd rfl hl r
theorem Es.dstoreN {i : Fin 4} {x : UInt64} {l' : Array Slot} {q : Nat} (k : Ends p e below F Q (T.setTop (mkF m q l' S))) (X : Stand p l e R s m args below meth c T locs cells slots) (hx : p.tables.exec = Jvm.exec) (hd : decode c.code pc = .ok (.dstore_n i, 1)) (hq : pc + 1 = q) (hl : storeLocals Ls i.val (.double x) = some l') : Ends p e below F Q (T.setTop (mkF m pc Ls (.double x :: S))) := by
  subst hq
  exact k.by fun _ r => XS.dstoreN X.here hx rfl hd rfl hl r
theorem Es.aload {i : Nat} {v : Value} {q : Nat} (k : Ends p e below F Q (T.setTop (mkF m q Ls (v :: S)))) (X : Stand p l e R s m args below meth c T locs cells slots) (hx : p.tables.exec = Jvm.exec) (hd : decode c.code pc = .ok (.aload i, 2)) (hq : pc + 2 = q) (hl : Ls[i]? = some (.val v)) (hv : v.isRef = true) : Ends p e below F Q (T.setTop (mkF m pc Ls S)) := by
  subst hq
  exact k.by fun _ r => XS.aload X.here hx rfl hd hl hv r
theorem Es.aloadN {i : Fin 4} {v : Value} {q : Nat} (k : Ends p e below F Q (T.setTop (mkF m q Ls (v :: S)))) (X : Stand p l e R s m args below meth c T locs cells slots) (hx : p.tables.exec = Jvm.exec) (hd : decode c.code pc = .ok (.aload_n i, 1)) (hq : pc + 1 = q) (hl : Ls[i.val]? = some (.val v)) (hv : v.isRef = true) : Ends p e below F Q (T.setTop (mkF m pc Ls S)) := by
  subst hq
  exact k.by fun _ r => XS.aloadN X.here hx rfl hd hl hv r
theorem Es.astore {i : Nat} {x : Value} {l' : Array Slot} {q : Nat} (k : Ends p e below F Q (T.setTop (mkF m q l' S))) (X : Stand p l e R s m args below meth c T locs cells slots) (hx : p.tables.exec = Jvm.exec) (hd : decode c.code pc = .ok (.astore i, 2)) (hq : pc + 2 = q) (hv : x.isRef = true) (hl : storeLocals Ls i x = some l') : Ends p e below F Q (T.setTop (mkF m pc Ls (x :: S))) := by
  subst hq
  exact k.by fun _ r => XS.astore X.here hx rfl hd rfl hv hl r
theorem Es.astoreN {i : Fin 4} {x : Value} {l' : Array Slot} {q : Nat} (k : Ends p e below F Q (T.setTop (mkF m q l' S))) (X : Stand p l e R s m args below meth c T locs cells slots) (hx : p.tables.exec = Jvm.exec) (hd : decode c.code pc = .ok (.astore_n i, 1)) (hq : pc + 1 = q) (hv : x.isRef = true) (hl : storeLocals Ls i.val x = some l') : Ends p e below F Q (T.setTop (mkF m pc Ls (x :: S))) := by
  subst hq
  exact k.by fun _ r => XS.astoreN X.here hx rfl hd rfl hv hl r
theorem Es.iconst {i : Int} {z : Int32} {q : Nat} (k : Ends p e below F Q (T.setTop (mkF m q Ls (.int z :: S)))) (X : Stand p l e R s m args below meth c T locs cells slots) (hx : p.tables.exec = Jvm.exec) (hd : decode c.code pc = .ok (.iconst i, 1)) (hq : pc + 1 = q) (hz : Int32.ofInt i = z) : Ends p e below F Q (T.setTop (mkF m pc Ls S)) := by
  subst hq
  subst hz
  exact k.by fun _ r => XS.iconst X.here hx rfl hd r
theorem Es.bipush {i : Int} {z : Int32} {q : Nat} (k : Ends p e below F Q (T.setTop (mkF m q Ls (.int z :: S)))) (X : Stand p l e R s m args below meth c T locs cells slots) (hx : p.tables.exec = Jvm.exec) (hd : decode c.code pc = .ok (.bipush i, 2)) (hq : pc + 2 = q) (hz : (Int8.ofInt i).toInt32 = z) : Ends p e below F Q (T.setTop (mkF m pc Ls S)) := by
  subst hq
  subst hz
  exact k.by fun _ r => XS.bipush X.here hx rfl hd r
theorem Es.sipush {i : Int} {z : Int32} {q : Nat} (k : Ends p e below F Q (T.setTop (mkF m q Ls (.int z :: S)))) (X : Stand p l e R s m args below meth c T locs cells slots) (hx : p.tables.exec = Jvm.exec) (hd : decode c.code pc = .ok (.sipush i, 3)) (hq : pc + 3 = q) (hz : (Int16.ofInt i).toInt32 = z) : Ends p e below F Q (T.setTop (mkF m pc Ls S)) := by
  subst hq
  subst hz
  exact k.by fun _ r => XS.sipush X.here hx rfl hd r
theorem Es.lconst {i : Fin 2} {z : Int64} {q : Nat} (k : Ends p e below F Q (T.setTop (mkF m q Ls (.long z :: S)))) (X : Stand p l e R s m args below meth c T locs cells slots) (hx : p.tables.exec = Jvm.exec) (hd : decode c.code pc = .ok (.lconst i, 1)) (hq : pc + 1 = q) (hz : Int64.ofNat i = z) : Ends p e below F Q (T.setTop (mkF m pc Ls S)) := by
  subst hq
  subst hz
  exact k.by fun _ r => XS.lconst X.here hx rfl hd r
theorem Es.dconst0  {q : Nat} (k : Ends p e below F Q (T.setTop (mkF m q Ls (.double FP.dconst0 :: S)))) (X : Stand p l e R s m args below meth c T locs cells slots) (hx : p.tables.exec = Jvm.exec) (hd : decode c.code pc = .ok (.dconst 0, 1)) (hq : pc + 1 = q) : Ends p e below F Q (T.setTop (mkF m pc Ls S)) := by
  subst hq
  exact k.by fun _ r => XS.dconst0 X.here hx rfl hd rfl r
theorem Es.dconst1  {q : Nat} (k : Ends p e below F Q (T.setTop (mkF m q Ls (.double FP.dconst1 :: S)))) (X : Stand p l e R s m args below meth c T locs cells slots) (hx : p.tables.exec = Jvm.exec) (hd : decode c.code pc = .ok (.dconst 1, 1)) (hq : pc + 1 = q) : Ends p e below F Q (T.setTop (mkF m pc Ls S)) := by
  subst hq
  exact k.by fun _ r => XS.dconst1 X.here hx rfl hd rfl r
theorem Es.i2d {x : Int32} {q : Nat} (k : Ends p e below F Q (T.setTop (mkF m q Ls (.double (FP.i2d x) :: S)))) (X : Stand p l e R s m args below meth c T locs cells slots) (hx : p.tables.exec = Jvm.exec) (hd : decode c.code pc = .ok (.i2d, 1)) (hq : pc + 1 = q) : Ends p e below F Q (T.setTop (mkF m pc Ls (.int x :: S))) := by
  subst hq
  exact k.by fun _ r => XS.i2dS X.here hx rfl hd rfl rfl r
theorem Es.ddiv {x y : UInt64} {q : Nat} (k : Ends p e below F Q (T.setTop (mkF m q Ls (.double (FP.ddiv x y) :: S)))) (X : Stand p l e R s m args below meth c T locs cells slots) (hx : p.tables.exec = Jvm.exec) (hd : decode c.code pc = .ok (.ddiv, 1)) (hq : pc + 1 = q) (hn : Jvm.Free.Fl.NoNaN64 (FP.ddiv x y)) : Ends p e below F Q (T.setTop (mkF m pc Ls (.double y :: .double x :: S))) := by
  subst hq
  exact k.by fun _ r => XS.ddivS X.here hx rfl hd rfl hn rfl r
theorem Es.dcmp {o : CmpOp} {x y : UInt64} {z : Int32} {q : Nat} (k : Ends p e below F Q (T.setTop (mkF m q Ls (.int z :: S)))) (X : Stand p l e R s m args below meth c T locs cells slots) (hx : p.tables.exec = Jvm.exec) (hd : decode c.code pc = .ok (.dcmp o, 1)) (hq : pc + 1 = q) (hv : cmpValue (FP.dcmp x y) o = z) : Ends p e below F Q (T.setTop (mkF m pc Ls (.double y :: .double x :: S))) := by
  subst hq
  exact k.by fun _ r => XS.dcmpS X.here hx rfl hd rfl hv r
theorem Es.aconst_null  {q : Nat} (k : Ends p e below F Q (T.setTop (mkF m q Ls (.null :: S)))) (X : Stand p l e R s m args below meth c T locs cells slots) (hx : p.tables.exec = Jvm.exec) (hd : decode c.code pc = .ok (.aconst_null, 1)) (hq : pc + 1 = q) : Ends p e below F Q (T.setTop (mkF m pc Ls S)) := by
  subst hq
  exact k.by fun _ r => XS.aconstNull X.here hx rfl hd r
theorem Es.iadd {x y : Int32} {q : Nat} (k : Ends p e below F Q (T.setTop (mkF m q Ls (.int (x + y) :: S)))) (X : Stand p l e R s m args below meth c T locs cells slots) (hx : p.tables.exec = Jvm.exec) (hd : decode c.code pc = .ok (.iadd, 1)) (hq : pc + 1 = q) : Ends p e below F Q (T.setTop (mkF m pc Ls (.int y :: .int x :: S))) := by
  subst hq
  exact k.by fun _ r => XS.iadd X.here hx rfl hd rfl r
theorem Es.ladd {x y : Int64} {q : Nat} (k : Ends p e below F Q (T.setTop (mkF m q Ls (.long (x + y) :: S)))) (X : Stand p l e R s m args below meth c T locs cells slots) (hx : p.tables.exec = Jvm.exec) (hd : decode c.code pc = .ok (.ladd, 1)) (hq : pc + 1 = q) : Ends p e below F Q (T.setTop (mkF m pc Ls (.long y :: .long x :: S))) := by
  subst hq
  exact k.by fun _ r => XS.ladd X.here hx rfl hd rfl r
theorem Es.isub {x y : Int32} {q : Nat} (k : Ends p e below F Q (T.setTop (mkF m q Ls (.int (x - y) :: S)))) (X : Stand p l e R s m args below meth c T locs cells slots) (hx : p.tables.exec = Jvm.exec) (hd : decode c.code pc = .ok (.isub, 1)) (hq : pc + 1 = q) : Ends p e below F Q (T.setTop (mkF m pc Ls (.int y :: .int x :: S))) := by
  subst hq
  exact k.by fun _ r => XS.isub X.here hx rfl hd rfl r
theorem Es.lsub {x y : Int64} {q : Nat} (k : Ends p e below F Q (T.setTop (mkF m q Ls (.long (x - y) :: S)))) (X : Stand p l e R s m args below meth c T locs cells slots) (hx : p.tables.exec = Jvm.exec) (hd : decode c.code pc = .ok (.lsub, 1)) (hq : pc + 1 = q) : Ends p e below F Q (T.setTop (mkF m pc Ls (.long y :: .long x :: S))) := by
  subst hq
  exact k.by fun _ r => XS.lsub X.here hx rfl hd rfl r
theorem Es.imul {x y : Int32} {q : Nat} (k : Ends p e below F Q (T.setTop (mkF m q Ls (.int (x * y) :: S)))) (X : Stand p l e R s m args below meth c T locs cells slots) (hx : p.tables.exec = Jvm.exec) (hd : decode c.code pc = .ok (.imul, 1)) (hq : pc + 1 = q) : Ends p e below F Q (T.setTop (mkF m pc Ls (.int y :: .int x :: S))) := by
  subst hq
  exact k.by fun _ r => XS.imul X.here hx rfl hd rfl r
theorem Es.lmul {x y : Int64} {q : Nat} (k : Ends p e below F Q (T.setTop (mkF m q Ls (.long (x * y) :: S)))) (X : Stand p l e R s m args below meth c T locs cells slots) (hx : p.tables.exec = Jvm.exec) (hd : decode c.code pc = .ok (.lmul, 1)) (hq : pc + 1 = q) : Ends p e below F Q (T.setTop (mkF m pc Ls (.long y :: .long x :: S))) := by
  subst hq
  exact k.by fun _ r => XS.lmul X.here hx rfl hd rfl r
theorem Es.iand {x y : Int32} {q : Nat} (k : Ends p e below F Q (T.setTop (mkF m q Ls (.int (x &&& y) :: S)))) (X : Stand p l e R s m args below meth c T locs cells slots) (hx : p.tables.exec = Jvm.exec) (hd : decode c.code pc = .ok (.iand, 1)) (hq : pc + 1 = q) : Ends p e below F Q (T.setTop (mkF m pc Ls (.int y :: .int x :: S))) := by
  subst hq
  exact k.by fun _ r => XS.iand X.here hx rfl hd rfl r
theorem Es.land {x y : Int64} {q : Nat} (k : Ends p e below F Q (T.setTop (mkF m q Ls (.long (x &&& y) :: S)))) (X : Stand p l e R s m args below meth c T locs cells slots) (hx : p.tables.exec = Jvm.exec) (hd : decode c.code pc = .ok (.land, 1)) (hq : pc + 1 = q) : Ends p e below F Q (T.setTop (mkF m pc Ls (.long y :: .long x :: S))) := by
  subst hq
  exact k.by fun _ r => XS.land X.here hx rfl hd rfl r
theorem Es.ior {x y : Int32} {q : Nat} (k : Ends p e below F Q (T.setTop (mkF m q Ls (.int (x ||| y) :: S)))) (X : Stand p l e R s m args below meth c T locs cells slots) (hx : p.tables.exec = Jvm.exec) (hd : decode c.code pc = .ok (.ior, 1)) (hq : pc + 1 = q) : Ends p e below F Q (T.setTop (mkF m pc Ls (.int y :: .int x :: S))) := by
  subst hq
  exact k.by fun _ r => XS.ior X.here hx rfl hd rfl r
theorem Es.lor {x y : Int64} {q : Nat} (k : Ends p e below F Q (T.setTop (mkF m q Ls (.long (x ||| y) :: S)))) (X : Stand p l e R s m args below meth c T locs cells slots) (hx : p.tables.exec = Jvm.exec) (hd : decode c.code pc = .ok (.lor, 1)) (hq : pc + 1 = q) : Ends p e below F Q (T.setTop (mkF m pc Ls (.long y :: .long x :: S))) := by
  subst hq
  exact k.by fun _ r => XS.lor X.here hx rfl hd rfl r
theorem Es.ixor {x y : Int32} {q : Nat} (k : Ends p e below F Q (T.setTop (mkF m q Ls (.int (x ^^^ y) :: S)))) (X : Stand p l e R s m args below meth c T locs cells slots) (hx : p.tables.exec = Jvm.exec) (hd : decode c.code pc = .ok (.ixor, 1)) (hq : pc + 1 = q) : Ends p e below F Q (T.setTop (mkF m pc Ls (.int y :: .int x :: S))) := by
  subst hq
  exact k.by fun _ r => XS.ixor X.here hx rfl hd rfl r
theorem Es.lxor {x y : Int64} {q : Nat} (k : Ends p e below F Q (T.setTop (mkF m q Ls (.long (x ^^^ y) :: S)))) (X : Stand p l e R s m args below meth c T locs cells slots) (hx : p.tables.exec = Jvm.exec) (hd : decode c.code pc = .ok (.lxor, 1)) (hq : pc + 1 = q) : Ends p e below F Q (T.setTop (mkF m pc Ls (.long y :: .long x :: S))) := by
  subst hq
  exact k.by fun _ r => XS.lxor X.here hx rfl hd rfl r
theorem Es.ishl {x : Int32} {y : Int32} {q : Nat} (k : Ends p e below F Q (T.setTop (mkF m q Ls (.int (x <<< (y &&& 31)) :: S)))) (X : Stand p l e R s m args below meth c T locs cells slots) (hx : p.tables.exec = Jvm.exec) (hd : decode c.code pc = .ok (.ishl, 1)) (hq : pc + 1 = q) : Ends p e below F Q (T.setTop (mkF m pc Ls (.int y :: .int x :: S))) := by
  subst hq
  exact k.by fun _ r => XS.ishl X.here hx rfl hd rfl r
theorem Es.ishr {x : Int32} {y : Int32} {q : Nat} (k : Ends p e below F Q (T.setTop (mkF m q Ls (.int (x >>> (y &&& 31)) :: S)))) (X : Stand p l e R s m args below meth c T locs cells slots) (hx : p.tables.exec = Jvm.exec) (hd : decode c.code pc = .ok (.ishr, 1)) (hq : pc + 1 = q) : Ends p e below F Q (T.setTop (mkF m pc Ls (.int y :: .int x :: S))) := by
  subst hq
  exact k.by fun _ r => XS.ishr X.here hx rfl hd rfl r
theorem Es.iushr {x : Int32} {y : Int32} {q : Nat} (k : Ends p e below F Q (T.setTop (mkF m q Ls (.int ((x.toUInt32 >>> (y &&& 31).toUInt32).toInt32) :: S)))) (X : Stand p l e R s m args below meth c T locs cells slots) (hx : p.tables.exec = Jvm.exec) (hd : decode c.code pc = .ok (.iushr, 1)) (hq : pc + 1 = q) : Ends p e below F Q (T.setTop (mkF m pc Ls (.int y :: .int x :: S))) := by
  subst hq
  exact k.by fun _ r => XS.iushr X.here hx rfl hd rfl r
theorem Es.lshl {x : Int64} {y : Int32} {q : Nat} (k : Ends p e below F Q (T.setTop (mkF m q Ls (.long (x <<< (y &&& 0x3f).toInt64) :: S)))) (X : Stand p l e R s m args below meth c T locs cells slots) (hx : p.tables.exec = Jvm.exec) (hd : decode c.code pc = .ok (.lshl, 1)) (hq : pc + 1 = q) : Ends p e below F Q (T.setTop (mkF m pc Ls (.int y :: .long x :: S))) := by
  subst hq
  exact k.by fun _ r => XS.lshl X.here hx rfl hd rfl r
theorem Es.lshr {x : Int64} {y : Int32} {q : Nat} (k : Ends p e below F Q (T.setTop (mkF m q Ls (.long (x >>> (y &&& 0x3f).toInt64) :: S)))) (X : Stand p l e R s m args below meth c T locs cells slots) (hx : p.tables.exec = Jvm.exec) (hd : decode c.code pc = .ok (.lshr, 1)) (hq : pc + 1 = q) : Ends p e below F Q (T.setTop (mkF m pc Ls (.int y :: .long x :: S))) := by
  subst hq
  exact k.by fun _ r => XS.lshr X.here hx rfl hd rfl r
theorem Es.lushr {x : Int64} {y : Int32} {q : Nat} (k : Ends p e below F Q (T.setTop (mkF m q Ls (.long ((x.toUInt64 >>> (y &&& 0x3f).toInt64.toUInt64).toInt64) :: S)))) (X : Stand p l e R s m args below meth c T locs cells slots) (hx : p.tables.exec = Jvm.exec) (hd : decode c.code pc = .ok (.lushr, 1)) (hq : pc + 1 = q) : Ends p e below F Q (T.setTop (mkF m pc Ls (.int y :: .long x :: S))) := by
  subst hq
  exact k.by fun _ r => XS.lushr X.here hx rfl hd rfl r
theorem Es.ineg {x : Int32} {q : Nat} (k : Ends p e below F Q (T.setTop (mkF m q Ls (.int (-x) :: S)))) (X : Stand p l e R s m args below meth c T locs cells slots) (hx : p.tables.exec = Jvm.exec) (hd : decode c.code pc = .ok (.ineg, 1)) (hq : pc + 1 = q) : Ends p e below F Q (T.setTop (mkF m pc Ls (.int x :: S))) := by
  subst hq
  exact k.by fun _ r => XS.ineg X.here hx rfl hd rfl r
theorem Es.lneg {x : Int64} {q : Nat} (k : Ends p e below F Q (T.setTop (mkF m q Ls (.long (-x) :: S)))) (X : Stand p l e R s m args below meth c T locs cells slots) (hx : p.tables.exec = Jvm.exec) (hd : decode c.code pc = .ok (.lneg, 1)) (hq : pc + 1 = q) : Ends p e below F Q (T.setTop (mkF m pc Ls (.long x :: S))) := by
  subst hq
  exact k.by fun _ r => XS.lneg X.here hx rfl hd rfl r
theorem Es.i2l {x : Int32} {q : Nat} (k : Ends p e below F Q (T.setTop (mkF m q Ls (.long (x.toInt64) :: S)))) (X : Stand p l e R s m args below meth c T locs cells slots) (hx : p.tables.exec = Jvm.exec) (hd : decode c.code pc = .ok (.i2l, 1)) (hq : pc + 1 = q) : Ends p e below F Q (T.setTop (mkF m pc Ls (.int x :: S))) := by
  subst hq
  exact k.by fun _ r => XS.i2l X.here hx rfl hd rfl r
theorem Es.l2i {x : Int64} {q : Nat} (k : Ends p e below F Q (T.setTop (mkF m q Ls (.int (x.toInt32) :: S)))) (X : Stand p l e R s m args below meth c T locs cells slots) (hx : p.tables.exec = Jvm.exec) (hd : decode c.code pc = .ok (.l2i, 1)) (hq : pc + 1 = q) : Ends p e below F Q (T.setTop (mkF m pc Ls (.long x :: S))) := by
  subst hq
  exact k.by fun _ r => XS.l2i X.here hx rfl hd rfl r
theorem Es.i2b {x : Int32} {q : Nat} (k : Ends p e below F Q (T.setTop (mkF m q Ls (.int (x.toInt8.toInt32) :: S)))) (X : Stand p l e R s m args below meth c T locs cells slots) (hx : p.tables.exec = Jvm.exec) (hd : decode c.code pc = .ok (.i2b, 1)) (hq : pc + 1 = q) : Ends p e below F Q (T.setTop (mkF m pc Ls (.int x :: S))) := by
  subst hq
  exact k.by fun _ r => XS.i2b X.here hx rfl hd rfl r
theorem Es.i2s {x : Int32} {q : Nat} (k : Ends p e below F Q (T.setTop (mkF m q Ls (.int (x.toInt16.toInt32) :: S)))) (X : Stand p l e R s m args below meth c T locs cells slots) (hx : p.tables.exec = Jvm.exec) (hd : decode c.code pc = .ok (.i2s, 1)) (hq : pc + 1 = q) : Ends p e below F Q (T.setTop (mkF m pc Ls (.int x :: S))) := by
  subst hq
  exact k.by fun _ r => XS.i2s X.here hx rfl hd rfl r
theorem Es.i2c {x : Int32} {q : Nat} (k : Ends p e below F Q (T.setTop (mkF m q Ls (.int (x.toUInt32.toUInt16.toUInt32.toInt32) :: S)))) (X : Stand p l e R s m args below meth c T locs cells slots) (hx : p.tables.exec = Jvm.exec) (hd : decode c.code pc = .ok (.i2c, 1)) (hq : pc + 1 = q) : Ends p e below F Q (T.setTop (mkF m pc Ls (.int x :: S))) := by
  subst hq
  exact k.by fun _ r => XS.i2c X.here hx rfl hd rfl r
theorem Es.lcmp {x y : Int64} {q : Nat} (k : Ends p e below F Q (T.setTop (mkF m q Ls (.int (XT.cmpL x y) :: S)))) (X : Stand p l e R s m args below meth c T locs cells slots) (hx : p.tables.exec = Jvm.exec) (hd : decode c.code pc = .ok (.lcmp, 1)) (hq : pc + 1 = q) : Ends p e below F Q (T.setTop (mkF m pc Ls (.long y :: .long x :: S))) := by
  subst hq
  exact k.by fun _ r => XS.lcmp X.here hx rfl hd rfl r
theorem Es.idiv {x y : Int32} {q : Nat} (k : Ends p e below F Q (T.setTop (mkF m q Ls (.int (x / y) :: S)))) (X : Stand p l e R s m args below meth c T locs cells slots) (hx : p.tables.exec = Jvm.exec) (hd : decode c.code pc = .ok (.idiv, 1)) (hq : pc + 1 = q) (hy : y ≠ 0) : Ends p e below F Q (T.setTop (mkF m pc Ls (.int y :: .int x :: S))) := by
  subst hq
  exact k.by fun _ r => XS.idiv X.here hx rfl hd rfl hy r
theorem Es.ldiv {x y : Int64} {q : Nat} (k : Ends p e below F Q (T.setTop (mkF m q Ls (.long (x / y) :: S)))) (X : Stand p l e R s m args below meth c T locs cells slots) (hx : p.tables.exec = Jvm.exec) (hd : decode c.code pc = .ok (.ldiv, 1)) (hq : pc + 1 = q) (hy : y ≠ 0) : Ends p e below F Q (T.setTop (mkF m pc Ls (.long y :: .long x :: S))) := by
  subst hq
  exact k.by fun _ r => XS.ldiv X.here hx rfl hd rfl hy r
theorem Es.dup {x : Value} {q : Nat} (k : Ends p e below F Q (T.setTop (mkF m q Ls (x :: x :: S)))) (X : Stand p l e R s m args below meth c T locs cells slots) (hx : p.tables.exec = Jvm.exec) (hd : decode c.code pc = .ok (.dup, 1)) (hq : pc + 1 = q) (hc : x.category = 1) : Ends p e below F Q (T.setTop (mkF m pc Ls (x :: S))) := by
  subst hq
  exact k.by fun _ r => XS.dup X.here hx rfl hd rfl hc r
theorem Es.dup_x1 {x y : Value} {q : Nat} (k : Ends p e below F Q (T.setTop (mkF m q Ls (x :: y :: x :: S)))) (X : Stand p l e R s m args below meth c T locs cells slots) (hx : p.tables.exec = Jvm.exec) (hd : decode c.code pc = .ok (.dup_x1, 1)) (hq : pc + 1 = q) (hc : x.category = 1) (hc2 : y.category = 1) : Ends p e below F Q (T.setTop (mkF m pc Ls (x :: y :: S))) := by
  subst hq
  exact k.by fun _ r => XS.dupX1 X.here hx rfl hd rfl hc hc2 r
theorem Es.pop {x : Value} {q : Nat} (k : Ends p e below F Q (T.setTop (mkF m q Ls S))) (X : Stand p l e R s m args below meth c T locs cells slots) (hx : p.tables.exec = Jvm.exec) (hd : decode c.code pc = .ok (.pop, 1)) (hq : pc + 1 = q) (hc : x.category = 1) : Ends p e below F Q (T.setTop (mkF m pc Ls (x :: S))) := by
  subst hq
  exact k.by fun _ r => XS.pop X.here hx rfl hd rfl hc r
theorem Es.iinc {i : Nat} {cst : Int} {x : Int32} {l' : Array Slot} {q : Nat} (k : Ends p e below F Q (T.setTop (mkF m q l' S))) (X : Stand p l e R s m args below meth c T locs cells slots) (hx : p.tables.exec = Jvm.exec) (hd : decode c.code pc = .ok (.iinc i cst, 3)) (hq : pc + 3 = q) (hl : Ls[i]? = some (.val (.int x))) (hl' : storeLocals Ls i (.int (x + Int32.ofInt cst)) = some l') : Ends p e below F Q (T.setTop (mkF m pc Ls S)) := by
  subst hq
  exact k.by fun _ r => XS.iinc X.here hx rfl hd hl hl' r
theorem Es.ifNo {cd : ClassFile.Cond} {o : Int} {x : Int32} {q : Nat} (k : Ends p e below F Q (T.setTop (mkF m q Ls S))) (X : Stand p l e R s m args below meth c T locs cells slots) (hx : p.tables.exec = Jvm.exec) (hd : decode c.code pc = .ok (.ifCond cd o, 3)) (hq : pc + 3 = q) (hc : ifCond.holds cd x = false) : Ends p e below F Q (T.setTop (mkF m pc Ls (.int x :: S))) := by
  subst hq
  exact k.by fun _ r => XS.ifNo X.here hx rfl hd rfl hc r
theorem Es.icmpNo {cd : ClassFile.Cond} {o : Int} {x y : Int32} {q : Nat} (k : Ends p e below F Q (T.setTop (mkF m q Ls S))) (X : Stand p l e R s m args below meth c T locs cells slots) (hx : p.tables.exec = Jvm.exec) (hd : decode c.code pc = .ok (.if_icmp cd o, 3)) (hq : pc + 3 = q) (hc : if_icmp.holds cd x y = false) : Ends p e below F Q (T.setTop (mkF m pc Ls (.int y :: .int x :: S))) := by
  subst hq
  exact k.by fun _ r => XS.icmpNo X.here hx rfl hd rfl hc r
theorem Es.ifnonnullNo {o : Int} {q : Nat} (k : Ends p e below F Q (T.setTop (mkF m q Ls S))) (X : Stand p l e R s m args below meth c T locs cells slots) (hx : p.tables.exec = Jvm.exec) (hd : decode c.code pc = .ok (.ifnonnull o, 3)) (hq : pc + 3 = q) : Ends p e below F Q (T.setTop (mkF m pc Ls (.null :: S))) := by
  subst hq
  exact k.by fun _ r => XS.ifnonnullNo X.here hx rfl hd rfl r
theorem Es.goto {o : Int} {q : Nat} (k : Ends p e below F Q (T.setTop (mkF m q Ls S))) (X : Stand p l e R s m args below meth c T locs cells slots) (hx : p.tables.exec = Jvm.exec) (hd : decode c.code pc = .ok (.goto o, 3)) (ho : 0 ≤ (pc : Int) + o) (hp : ((pc : Int) + o).toNat = q) : Ends p e below F Q (T.setTop (mkF m pc Ls S)) :=
  k.by fun _ r => XS.goto X.here hx rfl (pc0 := pc) (pc' := q) rfl hd ho hp r
theorem Es.ifYes {cd : ClassFile.Cond} {o : Int} {x : Int32} {q : Nat} (k : Ends p e below F Q (T.setTop (mkF m q Ls S))) (X : Stand p l e R s m args below meth c T locs cells slots) (hx : p.tables.exec = Jvm.exec) (hd : decode c.code pc = .ok (.ifCond cd o, 3)) (hc : ifCond.holds cd x = true) (ho : 0 ≤ (pc : Int) + o) (hp : ((pc : Int) + o).toNat = q) : Ends p e below F Q (T.setTop (mkF m pc Ls (.int x :: S))) :=
  k.by fun _ r => XS.ifYes X.here hx rfl (pc0 := pc) (pc' := q) rfl hd rfl hc ho hp r
theorem Es.icmpYes {cd : ClassFile.Cond} {o : Int} {x y : Int32} {q : Nat} (k : Ends p e below F Q (T.setTop (mkF m q Ls S))) (X : Stand p l e R s m args below meth c T locs cells slots) (hx : p.tables.exec = Jvm.exec) (hd : decode c.code pc = .ok (.if_icmp cd o, 3)) (hc : if_icmp.holds cd x y = true) (ho : 0 ≤ (pc : Int) + o) (hp : ((pc : Int) + o).toNat = q) : Ends p e below F Q (T.setTop (mkF m pc Ls (.int y :: .int x :: S))) :=
  k.by fun _ r => XS.icmpYes X.here hx rfl (pc0 := pc) (pc' := q) rfl hd rfl hc ho hp r
theorem Es.ifnonnullYes {o : Int} {b : Addr} {q : Nat} (k : Ends p e below F Q (T.setTop (mkF m q Ls S))) (X : Stand p l e R s m args below meth c T locs cells slots) (hx : p.tables.exec = Jvm.exec) (hd : decode c.code pc = .ok (.ifnonnull o, 3)) (ho : 0 ≤ (pc : Int) + o) (hp : ((pc : Int) + o).toNat = q) : Ends p e below F Q (T.setTop (mkF m pc Ls (.ref b :: S))) :=
  k.by fun _ r => XS.ifnonnullYes X.here hx rfl (pc0 := pc) (pc' := q) rfl hd rfl ho hp r
theorem Es.irem {x y : Int32} {q : Nat} (k : Ends p e below F Q (T.setTop (mkF m q Ls (.int (x % y) :: S)))) (X : Stand p l e R s m args below meth c T locs cells slots) (hx : p.tables.exec = Jvm.exec) (hd : decode c.code pc = .ok (.irem, 1)) (hq : pc + 1 = q) (hy : y ≠ 0) : Ends p e below F Q (T.setTop (mkF m pc Ls (.int y :: .int x :: S))) := by
  subst hq
  exact k.by fun _ r => iremM X hx rfl hd rfl hy r
theorem Es.lrem {x y : Int64} {q : Nat} (k : Ends p e below F Q (T.setTop (mkF m q Ls (.long (x % y) :: S)))) (X : Stand p l e R s m args below meth c T locs cells slots) (hx : p.tables.exec = Jvm.exec) (hd : decode c.code pc = .ok (.lrem, 1)) (hq : pc + 1 = q) (hy : y ≠ 0) : Ends p e below F Q (T.setTop (mkF m pc Ls (.long y :: .long x :: S))) := by
  subst hq
  exact k.by fun _ r => lremM X hx rfl hd rfl hy r
theorem Es.ldc {own : String} {index : Nat} {v : Int32} {q : Nat} (k : Ends p e below F Q (T.setTop (mkF m q Ls (.int v :: S)))) (X : Stand p l e R s m args below meth c T locs cells slots) (hx : p.tables.exec = Jvm.exec) (hown : s.vm.findClass own = some m.cls) (w : (Cond.constant own index v).before args s = true) (hd : decode c.code pc = .ok (.ldc index, 2)) (hq : pc + 2 = q) : Ends p e below F Q (T.setTop (mkF m pc Ls S)) := by
  subst hq
  exact k.by (X.ldcInt hx hown w (g := mkF m pc Ls S) rfl hd)
theorem Es.ldc2 {own : String} {index : Nat} {v : Int64} {q : Nat} (k : Ends p e below F Q (T.setTop (mkF m q Ls (.long v :: S)))) (X : Stand p l e R s m args below meth c T locs cells slots) (hx : p.tables.exec = Jvm.exec) (hown : s.vm.findClass own = some m.cls) (w : (Cond.constantLong own index v).before args s = true) (hd : decode c.code pc = .ok (.ldc2_w index, 3)) (hq : pc + 3 = q) : Ends p e below F Q (T.setTop (mkF m pc Ls S)) := by
  subst hq
  exact k.by (X.ldc2Long hx hown w (g := mkF m pc Ls S) rfl hd)
end OwnSteps
section OwnHeap
variable {p : Program} {l : Launch} {e : Env} {R : Room} {s : State} {m : MethodId} {args : Array Value} {below : List Frame} {meth : Method} {c : Code} {T : State} {locs : List Loc} {cells slots : Nat}
variable {F : Outcome → State → List Loc → Prop} {Q : Option Value → Heap → List Loc → Prop} {kc ks : Nat} {Z : State} {a0 : Array Value} {h h' : Heap} {a b : Addr} {ty : FieldType} {n sl : Nat} {g : Nat → Int32} {v : Value} {j x : Int32} {pc : Nat} {Ls : Array Slot} {S : List Value}
/-- an array of n small values: place j holds g j -/
def Ary (Z : State) (h : Heap) (a : Addr) (ty : FieldType) (n : Nat) (g : Nat → Int32) : Prop := ∃ cl : Cell, Arr Z h a cl ty ∧ cl.slots.size = n ∧ n < 2 ^ 31 ∧ ∀ j, j < n → cl.slots[j]? = some (.int (g j))
def upd (g : Nat → Int32) (j : Nat) (x : Int32) : Nat → Int32 := fun i => if i = j then x else g i
theorem Ary.lt (V : Ary Z h a ty n g) : a < h.size := V.elim fun _ q => q.1.lt
theorem Ary.ext (V : Ary Z h a ty n g) (E : Ext h h') : Ary Z h' a ty n g := by obtain ⟨c, A, r⟩ := V; exact ⟨c, A.ext E, r⟩
theorem Ary.other (V : Ary Z h b ty n g) (W : Wr h h' a sl v) (q : b ≠ a) : Ary Z h' b ty n g := by obtain ⟨c, A, r⟩ := V; exact ⟨c, A.other W q, r⟩
theorem Ary.keep {ws : List Addr} (V : Ary Z h a ty n g) (K : Keep h h' ws) (q : a ∉ ws) : Ary Z h' a ty n g := by obtain ⟨c, A, r⟩ := V; exact ⟨c, ⟨K.2.1 a c A.1 q, A.2⟩, r⟩
theorem Ary.set (V : Ary Z h a ty n g) (W : Wr h h' a sl (.int x)) : Ary Z h' a ty n (upd g sl x) := by
  obtain ⟨c, A, S, M, H⟩ := V
  refine ⟨_, A.same W, by rw [sz_set]; exact S, M, fun i hi => ?_⟩
  have hi' : i < c.slots.size := by omega
  simp only [Cell.setSlot, Array.getElem?_setIfInBounds, upd]
  by_cases q : i = sl
  · subst q; simp [hi']
  · have q' : ¬ sl = i := fun e => q e.symm
    simp [q, q']; exact H i hi
theorem Ary.inb {cl : Cell} (S : cl.slots.size = n) (hj : 0 ≤ j.toInt ∧ j.toInt < n) : ¬ (j < 0 ∨ cl.slots.size ≤ j.toNatClampNeg) := by
  have e0 : (0 : Int32).toInt = 0 := rfl
  simp only [Int32.lt_iff_toInt_lt, Int32.toNatClampNeg] at *; omega
theorem Ary.at {cl : Cell} (H : ∀ j, j < n → cl.slots[j]? = some (.int (g j))) (hj : 0 ≤ j.toInt ∧ j.toInt < n) : cl.slots[j.toNatClampNeg]? = some (.int (g j.toNatClampNeg)) :=
  H _ (by simp only [Int32.toNatClampNeg]; omega)
theorem Ends.iald (k : Ends p e below F Q (T.setTop (mkF m (pc + 1) Ls (.int (g j.toNatClampNeg) :: S)))) (X : Stand p l e R s m args below meth c T locs cells slots) (hx : p.tables.exec = Jvm.exec) (hZ : Z.Warmed39 s.vm) (eT : T.heap = h) (V : Ary Z h a .int n g) (hj : 0 ≤ j.toInt ∧ j.toInt < n)
    (hd : decode c.code pc = .ok (.iaload, 1)) : Ends p e below F Q (T.setTop (mkF m pc Ls (.int j :: .ref a :: S))) := by
  obtain ⟨cl, A, S1, M, H⟩ := V
  exact k.by fun t q => X.iaload hx (j := j) (by rw [eT]; exact A.1) (State.isArrayOf_alike hZ.alike A.2.1) A.2.2 (Ary.inb S1 hj) (Ary.at H hj) (g := mkF m pc Ls (.int j :: .ref a :: S)) rfl rfl hd t q
theorem Ends.bald (k : Ends p e below F Q (T.setTop (mkF m (pc + 1) Ls (.int (g j.toNatClampNeg) :: S)))) (X : Stand p l e R s m args below meth c T locs cells slots) (hx : p.tables.exec = Jvm.exec) (hZ : Z.Warmed39 s.vm) (eT : T.heap = h) (V : Ary Z h a .byte n g) (hj : 0 ≤ j.toInt ∧ j.toInt < n)
    (hd : decode c.code pc = .ok (.baload, 1)) : Ends p e below F Q (T.setTop (mkF m pc Ls (.int j :: .ref a :: S))) := by
  obtain ⟨cl, A, S1, M, H⟩ := V
  exact k.by fun t q => X.baloadBytes hx (j := j) (by rw [eT]; exact A.1) (State.isArrayOf_alike hZ.alike A.2.1) A.2.2 (Ary.inb S1 hj) (Ary.at H hj) (g := mkF m pc Ls (.int j :: .ref a :: S)) rfl rfl hd t q
theorem Ends.alen {z : Int32} (k : Ends p e below F Q (T.setTop (mkF m (pc + 1) Ls (.int z :: S)))) (X : Stand p l e R s m args below meth c T locs cells slots) (hx : p.tables.exec = Jvm.exec) (hZ : Z.Warmed39 s.vm) (eT : T.heap = h) (V : Ary Z h a ty n g) (hz : z.toInt = n)
    (hd : decode c.code pc = .ok (.arraylength, 1)) : Ends p e below F Q (T.setTop (mkF m pc Ls (.ref a :: S))) := by
  obtain ⟨cl, A, S1, M, H⟩ := V
  have e1 : cl.slots.size.toInt32 = z := by
    rw [S1]; apply Int32.toInt_inj.mp; rw [hz]; exact len_toInt M
  exact k.by fun t q => X.arraylength hx (by rw [eT]; exact A.1) (State.isArrayOf_alike hZ.alike A.2.1) (g := mkF m pc Ls (.ref a :: S)) rfl rfl hd t (by rw [e1]; exact q)
theorem stIA (X : Stand p l e R s m args below meth c T locs cells slots) (hx : p.tables.exec = Jvm.exec) (hZ : Z.Warmed39 s.vm) (eT : T.heap = h) (V : Ary Z h a .int n g) (hj : 0 ≤ j.toInt ∧ j.toInt < n) (hd : decode c.code pc = .ok (.iastore, 1)) :
    ∃ T' h', Stand p l e R s m args below meth c T' (locs ++ [⟨a, j.toNatClampNeg⟩]) cells slots ∧ T'.heap = h' ∧ Wr h h' a j.toNatClampNeg (.int x) ∧ Ary Z h' a .int n (upd g j.toNatClampNeg x) ∧
      ∀ t, Steps p.tables e below (T'.setTop (mkF m (pc + 1) Ls S)) t → Steps p.tables e below (T.setTop (mkF m pc Ls (.int x :: .int j :: .ref a :: S))) t := by
  have V' := V
  obtain ⟨cl, A, S1, M, H⟩ := V
  obtain ⟨T', h', X', e', W, st⟩ := stI X hx hZ eT A (j := j) (x := x) (Ary.inb S1 hj) (g := mkF m pc Ls (.int x :: .int j :: .ref a :: S)) rfl rfl hd
  exact ⟨T', h', X', e', W, V'.set W, st⟩
theorem stBA (X : Stand p l e R s m args below meth c T locs cells slots) (hx : p.tables.exec = Jvm.exec) (hZ : Z.Warmed39 s.vm) (eT : T.heap = h) (V : Ary Z h a .byte n g) (hj : 0 ≤ j.toInt ∧ j.toInt < n) (hd : decode c.code pc = .ok (.bastore, 1)) :
    ∃ T' h', Stand p l e R s m args below meth c T' (locs ++ [⟨a, j.toNatClampNeg⟩]) cells slots ∧ T'.heap = h' ∧ Wr h h' a j.toNatClampNeg (.int x.toInt8.toInt32) ∧ Ary Z h' a .byte n (upd g j.toNatClampNeg x.toInt8.toInt32) ∧
      ∀ t, Steps p.tables e below (T'.setTop (mkF m (pc + 1) Ls S)) t → Steps p.tables e below (T.setTop (mkF m pc Ls (.int x :: .int j :: .ref a :: S))) t := by
  have V' := V
  obtain ⟨cl, A, S1, M, H⟩ := V
  obtain ⟨T', h', X', e', W, st⟩ := stB X hx hZ eT A (j := j) (x := x) (Ary.inb S1 hj) (g := mkF m pc Ls (.int x :: .int j :: .ref a :: S)) rfl rfl hd
  exact ⟨T', h', X', e', W, V'.set W, st⟩
theorem newAr (X : Stand p l e R s m args below meth c T locs cells slots) (hx : p.tables.exec = Jvm.exec) (hZ : Z.Warmed39 s.vm) {aty : ArrayType} (w : (Cond.arrayClass (newarray.typeOf aty)).before a0 Z = true) (hty : defaultValue (newarray.typeOf aty) = .int 0) (eT : T.heap = h) {z : Int32} {cap : Nat} (hz : z.toInt = n) (hcap : n ≤ cap)
    (hb : cap * 8 ≤ 536870912) (hc : cells + 1 ≤ R.cells) (hl : slots + cap ≤ R.slots) (hd : decode c.code pc = .ok (.newarray aty, 2)) :
    ∃ T' h', Stand p l e R s m args below meth c T' locs (cells + 1) (slots + cap) ∧ T'.heap = h' ∧ Ext h h' ∧ Ary Z h' h.size (newarray.typeOf aty) n (fun _ => 0) ∧
      ∀ t, Steps p.tables e below (T'.setTop (mkF m (pc + 2) Ls (.ref h.size :: S))) t → Steps p.tables e below (T.setTop (mkF m pc Ls (.int z :: S))) t := by
  have e0 : (0 : Int32).toInt = 0 := rfl
  have hz2 : z.toNatClampNeg = n := by simp only [Int32.toNatClampNeg]; omega
  have rz := rng32 z
  obtain ⟨T', h', cA, X', e', E, A, st⟩ := newP X hx hZ w eT (g := mkF m pc Ls (.int z :: S)) rfl hd rfl (by rw [Int32.lt_iff_toInt_lt]; omega) (cap := cap) (by omega) hb hc hl
  refine ⟨T', h', X', e', E, ⟨_, A, by rw [sz_new]; exact hz2, by omega, fun j hj => ?_⟩, st⟩
  simp only [newA, hz2, hty]
  simp [hj]
theorem newArE (X : Stand p l e R s m args below meth c T locs cells slots) (hx : p.tables.exec = Jvm.exec) (hZ : Z.Warmed39 s.vm) {aty : ArrayType} {C : String} (hC : "[" ++ (newarray.typeOf aty).toString = C) (w : (Cond.arrayClass (newarray.typeOf aty)).before a0 Z = true) (hty : defaultValue (newarray.typeOf aty) = .int 0) (eT : T.heap = h) {z : Int32} {cap : Nat} (hz : z.toInt = n) (hcap : n ≤ cap)
    (hb : cap * 8 ≤ 536870912) (hc : cells + 1 ≤ R.cells) (hl : slots + cap ≤ R.slots) (hd : decode c.code pc = .ok (.newarray aty, 2)) :
    ∃ T' h', Stand p l e R s m args below meth c T' locs (cells + 1) (slots + cap) ∧ T'.heap = h' ∧ Ext h h' ∧ Ary Z h' h.size (newarray.typeOf aty) n (fun _ => 0) ∧ Exa Z h' h.size C ∧
      ∀ t, Steps p.tables e below (T'.setTop (mkF m (pc + 2) Ls (.ref h.size :: S))) t → Steps p.tables e below (T.setTop (mkF m pc Ls (.int z :: S))) t := by
  have e0 : (0 : Int32).toInt = 0 := rfl
  have hz2 : z.toNatClampNeg = n := by simp only [Int32.toNatClampNeg]; omega
  have rz := rng32 z
  have hcb : componentBytes (newarray.typeOf aty) ≤ 8 := by cases aty <;> decide
  have hby : z.toNatClampNeg * componentBytes (newarray.typeOf aty) ≤ 536870912 := by
    rw [hz2]; exact Nat.le_trans (Nat.mul_le_mul hcap hcb) hb
  obtain ⟨cA, kA, comp, q1, q2, q3, X', st⟩ := X.newarrayPrim hx (mvA hZ w) (g := mkF m pc Ls (.int z :: S)) rfl hd rfl (by rw [Int32.lt_iff_toInt_lt]; omega) hby hc (by omega)
  subst eT
  have q1' : Z.vm.findClass C = some cA := by rw [← hC, ← hZ.alike.findClass]; exact q1
  obtain ⟨kZ, r1, -⟩ := Vm.findClass_spec q1'
  obtain ⟨k2, r2, r3⟩ := hZ.alike.2.2 _ _ r1
  have r4 : kA = k2 := Option.some.inj (q2.symm.trans r2)
  have hkind : kZ.kind = .array comp (newarray.typeOf aty) := by rw [← q3, r4, r3]
  have hat : (T.heap.push { cls := cA, slots := Array.replicate z.toNatClampNeg (defaultValue (newarray.typeOf aty)), vm := .none })[T.heap.size]? = some { cls := cA, slots := Array.replicate z.toNatClampNeg (defaultValue (newarray.typeOf aty)), vm := .none } := by simp
  refine ⟨_, _, X'.more (Nat.le_refl _) (by omega), rfl, ⟨?_, fun x y q => ?_⟩, ⟨_, ⟨hat, ⟨by simp, kZ, r1, comp, hkind⟩, by simp⟩, by simp [hz2], by omega, fun j hj => ?_⟩, ⟨_, kZ, hat, q1', r1, rfl, fun q => by rw [hkind] at q; cases q⟩, st⟩
  · show T.heap.size ≤ (T.heap.push _).size
    simp
  · show (T.heap.push _)[x]? = some y
    have hx' := (Array.getElem?_eq_some_iff.mp q).1
    rw [Array.getElem?_push_lt hx', ← q, Array.getElem?_eq_getElem hx']
  · simp [hz2, hty, hj]
theorem Ary.fitC {cl : Cell} (A : Arr Z h a cl .int) (S1 : cl.slots.size = n) (H : ∀ j, j < n → cl.slots[j]? = some (.int (g j))) : FitC Z cl := fun i v hv => by
  obtain ⟨-, k, hk, comp, hkind⟩ := A.2.1
  have hi := (Array.getElem?_eq_some_iff.mp hv).1
  have q := (H i (by omega)).symm.trans hv
  cases q
  simp [State.fitsSlot, State.slotType?, hk, hkind, fits]
theorem cloneAr (X : Stand p l e R s m args below meth c T locs cells slots) (hx : p.tables.exec = Jvm.exec) (hZ : Z.Warmed39 s.vm) {own : String} {index : Nat} (hown : s.vm.findClass own = some m.cls) (hml : Ls.size = c.maxLocals)
    (w1 : (Cond.methodLink own index ⟨"[I", "clone", "()Ljava/lang/Object;"⟩).before a0 Z = true) (w2 : (Cond.sameMethod "[I" "java/lang/Object" "clone" "()Ljava/lang/Object;").before a0 Z = true) (w3 : (Cond.native ⟨"java/lang/Object", "clone", "()Ljava/lang/Object;"⟩).before a0 Z = true)
    (w4 : (Cond.instanceMethod ⟨"java/lang/Object", "clone", "()Ljava/lang/Object;"⟩).before a0 Z = true) (w5 : (Cond.selects "[I" ⟨"[I", "clone", "()Ljava/lang/Object;"⟩ ⟨"java/lang/Object", "clone", "()Ljava/lang/Object;"⟩).before a0 Z = true) (w6 : (Cond.castable "[I" "java/lang/Cloneable").before a0 Z = true)
    (eT : T.heap = h) (V : Ary Z h a .int n g) (E : Exa Z h a "[I") {W cap : Nat} (hW : 2 * 0 + (S.map fun v => v.category).sum ≤ W) (hcap : n ≤ cap) (hf : 1 ≤ R.frames) (hl : W + 14 ≤ R.locals) (hc : cells + 1 ≤ R.cells) (hsl : slots + cap ≤ R.slots) (hd : decode c.code pc = .ok (.invokevirtual index, 3)) :
    ∃ T' h', Stand p l e R s m args below meth c T' locs (cells + 1) (slots + cap) ∧ T'.heap = h' ∧ Ext h h' ∧ Ary Z h' h.size .int n g ∧ Exa Z h' h.size "[I" ∧
      ∀ t, Steps p.tables e below (T'.setTop (mkF m (pc + 3) Ls (.ref h.size :: S))) t → Steps p.tables e below (T.setTop (mkF m pc Ls (.ref a :: S))) t := by
  obtain ⟨cl, A, S1, M, H⟩ := V
  obtain ⟨T', h', X', e', E', A', Ex, st⟩ := cloneA X hx hZ hown w1 w2 w3 w4 w5 w6 eT A E (Ary.fitC A S1 H) (g := mkF m pc Ls (.ref a :: S)) rfl hml rfl hd hf (W := W) (cap := cap) hW hl (by omega) hc hsl
  exact ⟨T', h', X', e', E', ⟨_, A', S1, M, H⟩, Ex, st⟩
end OwnHeap
theorem own_selp {s : State} {args args' : Array Value} {y z : MethodName} {C : String} (hz : z.cls = y.cls) (w : (Jvm.Cond.selects C z z).before args s = true) (hpriv : s.PrivateAt y) (hinst : (Jvm.Cond.instanceMethod y).before args' s = true) (hy : y.cls ≠ "java/lang/invoke/MethodHandle" ∧ y.cls ≠ "java/lang/invoke/VarHandle") : (Jvm.Cond.selects y.cls y y).before args' s = true := by
  obtain ⟨c2, r2, m2, -, -, q3, -, kP, hkP, hkPi⟩ := Cond.selects_spec w
  exact Jvm.Stand.selects_self_of_private (hz ▸ findClass_of_methodNamed q3) hkP hkPi hpriv hinst hy
/-- a method that writes into ws alone: what it returns, the rest kept, what P says of the heap that it leaves -/
def QK (V : Option Value) (h0 : Heap) (ws : List Addr) (n0 : Nat) (P : Heap → Prop) (v : Option Value) (h : Heap) (L : List Loc) : Prop := v = V ∧ Fr n0 L ∧ Keep h0 h ws ∧ P h
namespace OwnF
open Jvm.FP.Core
/-- how many places behind the point: 52 from the leading digit on -/
def mOf (k n : Nat) : Nat := (52 - leading k n).toNat
/-- k / n rounded, in units of 2^-84 -/
def UQ (k n : Nat) : Nat := if k = 0 then 0 else nearest (k * 2 ^ mOf k n) n * 2 ^ (84 - mOf k n)
theorem lead_rng {k n : Nat} (hk : 0 < k) (hkn : k ≤ n) (hn : n < 2 ^ 31) : -31 ≤ leading k n ∧ leading k n ≤ 0 := by
  have hn0 : 0 < n := by omega
  obtain ⟨h1, h2⟩ := leading_spec hk hn0
  constructor
  · have h3 : ¬ Below k n (-31) := by
      have e : (-31 : Int) = ((0 : Nat) : Int) - ((31 : Nat) : Int) := by omega
      rw [e, below_iff]
      omega
    have := lt_of_below h3 h2
    omega
  · have h3 : Below k n 1 := by
      have e : (1 : Int) = ((1 : Nat) : Int) - ((0 : Nat) : Int) := by omega
      rw [e, below_iff]
      omega
    have := lt_of_below h1 h3
    omega
theorem m_rng {k n : Nat} (hk : 0 < k) (hkn : k ≤ n) (hn : n < 2 ^ 31) : 52 ≤ mOf k n ∧ mOf k n ≤ 83 := by
  have := lead_rng hk hkn hn
  unfold mOf; omega
theorem m_lead {k n : Nat} (hk : 0 < k) (hkn : k ≤ n) (hn : n < 2 ^ 31) : leading k n = 52 - (mOf k n : Int) := by
  have := lead_rng hk hkn hn
  unfold mOf; omega
/-- the magnitude lies between 2^52 and 2^53 units -/
theorem m_lo {k n : Nat} (hk : 0 < k) (hkn : k ≤ n) (hn : n < 2 ^ 31) : 2 ^ 52 * n ≤ k * 2 ^ mOf k n := by
  have hn0 : 0 < n := by omega
  have h1 := (leading_spec hk hn0).1
  rw [m_lead hk hkn hn] at h1
  have e : (52 : Int) - (mOf k n : Int) = ((52 : Nat) : Int) - ((mOf k n : Nat) : Int) := rfl
  rw [e, below_iff] at h1
  rw [Nat.mul_comm (2 ^ 52) n]
  exact Nat.le_of_not_lt h1
theorem m_hi {k n : Nat} (hk : 0 < k) (hkn : k ≤ n) (hn : n < 2 ^ 31) : k * 2 ^ mOf k n < 2 ^ 53 * n := by
  have hn0 : 0 < n := by omega
  have h1 := (leading_spec hk hn0).2
  rw [m_lead hk hkn hn] at h1
  have e : (52 : Int) - (mOf k n : Int) + 1 = ((53 : Nat) : Int) - ((mOf k n : Nat) : Int) := by omega
  rw [e, below_iff] at h1
  rw [Nat.mul_comm (2 ^ 53) n]
  exact h1
theorem c_lo {k n : Nat} (hk : 0 < k) (hkn : k ≤ n) (hn : n < 2 ^ 31) : 2 ^ 52 ≤ nearest (k * 2 ^ mOf k n) n := nearest_ge (by omega) (m_lo hk hkn hn)
theorem c_hi {k n : Nat} (hk : 0 < k) (hkn : k ≤ n) (hn : n < 2 ^ 31) : nearest (k * 2 ^ mOf k n) n ≤ 2 ^ 53 := nearest_le (by omega) (Nat.le_of_lt (m_hi hk hkn hn))
/-- the datum d is u units of 2^-84 -/
def IsU (u : Nat) (d : Datum) : Prop := ∃ c q, d = .fin false c q ∧ (c = 0 ∧ u = 0 ∨ -84 ≤ q ∧ c * 2 ^ (q + 84).toNat = u)
theorem rr_eq {k n : Nat} (hk : 0 < k) (hkn : k ≤ n) (hn : n < 2 ^ 31) : roundRatio b64 false k n 0 = settle b64 false (nearest (k * 2 ^ mOf k n) n) (-(mOf k n : Int)) := by
  have hm := m_rng hk hkn hn
  have hq : quantum b64 k n 0 = -(mOf k n : Int) := by
    unfold quantum
    rw [m_lead hk hkn hn]
    have : b64.qmin = -1074 := by decide
    have e : ((b64.p : Int)) = 53 := rfl
    rw [this, e]; omega
  unfold roundRatio
  rw [if_neg (by omega), hq]
  unfold roundAt unitsNum unitsDen
  have e1 : (0 - -(mOf k n : Int)).toNat = mOf k n := by omega
  have e2 : (-(mOf k n : Int) - 0).toNat = 0 := by omega
  rw [e1, e2, Nat.pow_zero, Nat.mul_one]
theorem rr_is {k n : Nat} (hn0 : 0 < n) (hkn : k ≤ n) (hn : n < 2 ^ 31) : IsU (UQ k n) (roundRatio b64 false k n 0) := by
  by_cases hk0 : k = 0
  · subst hk0
    exact ⟨0, b64.qmin, by unfold roundRatio; rw [if_pos rfl], Or.inl ⟨rfl, by unfold UQ; rw [if_pos rfl]⟩⟩
  · have hk : 0 < k := by omega
    have hm := m_rng hk hkn hn
    have hc := c_hi hk hkn hn
    have hcl := c_lo hk hkn hn
    rw [rr_eq hk hkn hn]
    have hqm : b64.qmax = 971 := by decide
    unfold settle bound UQ
    rw [if_neg hk0]
    have ep : (2 : Nat) ^ b64.p = 2 ^ 53 := rfl
    have et : b64.tails = 2 ^ 52 := rfl
    rw [ep, et, hqm]
    generalize nearest (k * 2 ^ mOf k n) n = c at *
    generalize mOf k n = m at *
    by_cases hlt : c < 2 ^ 53
    · rw [if_pos hlt, if_pos (by omega)]
      refine ⟨c, _, rfl, Or.inr ⟨by omega, ?_⟩⟩
      congr 2
      omega
    · rw [if_neg hlt, if_pos (by omega)]
      refine ⟨2 ^ 52, _, rfl, Or.inr ⟨by omega, ?_⟩⟩
      have e : c = 2 ^ 53 := by omega
      have e2 : (-(m : Int) + 1 + 84).toNat = (84 - m) + 1 := by omega
      rw [e, e2, Nat.pow_succ 2 (84 - m), show (2 : Nat) ^ 53 = 2 ^ 52 * 2 from rfl]
      ac_rfl
theorem IsU.ne_nan {u : Nat} {d : Datum} (h : IsU u d) : d ≠ .nan := by obtain ⟨c, q, rfl, -⟩ := h; exact Datum.noConfusion
theorem cmp_eq {a b u v : Int} (h1 : a < b ↔ u < v) (h2 : a = b ↔ u = v) : compare a b = compare u v := by
  show compareOfLessAndEq a b = compareOfLessAndEq u v
  unfold compareOfLessAndEq
  by_cases q : u < v
  · rw [if_pos q, if_pos (h1.mpr q)]
  · rw [if_neg q, if_neg (mt h1.mp q)]
    by_cases r : u = v
    · rw [if_pos r, if_pos (h2.mpr r)]
    · rw [if_neg r, if_neg (mt h2.mp r)]
theorem order_is {u v : Nat} {d e : Datum} (hd : IsU u d) (he : IsU v e) : order d e = some (compare (u : Int) (v : Int)) := by
  obtain ⟨c, q, rfl, hc⟩ := hd
  obtain ⟨c', q', rfl, hc'⟩ := he
  show some (compare ((inUnits c q (min q q') : Nat) : Int) ((inUnits c' q' (min q q') : Nat) : Int)) = _
  congr 1
  have z1 : inUnits c q (min q q') = 0 ↔ u = 0 := by
    unfold inUnits
    rcases hc with ⟨rfl, rfl⟩ | ⟨-, rfl⟩
    · simp
    · simp [Nat.mul_eq_zero]
  have z2 : inUnits c' q' (min q q') = 0 ↔ v = 0 := by
    unfold inUnits
    rcases hc' with ⟨rfl, rfl⟩ | ⟨-, rfl⟩
    · simp
    · simp [Nat.mul_eq_zero]
  rcases hc with ⟨rfl, rfl⟩ | ⟨hq, hu⟩
  · have a0 := z1.mpr rfl
    apply cmp_eq <;> omega
  · rcases hc' with ⟨rfl, rfl⟩ | ⟨hq', hv⟩
    · have b0 := z2.mpr rfl
      apply cmp_eq <;> omega
    · have e1 : inUnits c q (min q q') * 2 ^ (min q q' + 84).toNat = u := by
        unfold inUnits; rw [Nat.mul_assoc, ← Nat.pow_add, ← hu]; congr 2; omega
      have e2 : inUnits c' q' (min q q') * 2 ^ (min q q' + 84).toNat = v := by
        unfold inUnits; rw [Nat.mul_assoc, ← Nat.pow_add, ← hv]; congr 2; omega
      have hp := Nat.two_pow_pos (min q q' + 84).toNat
      generalize 2 ^ (min q q' + 84).toNat = P at *
      generalize inUnits c q (min q q') = a at *
      generalize inUnits c' q' (min q q') = b at *
      have l1 : a < b ↔ u < v := by rw [← e1, ← e2]; exact (Nat.mul_lt_mul_right hp).symm
      have l2 : a = b ↔ u = v := by
        rw [← e1, ← e2]
        exact ⟨fun h => by rw [h], fun h => Nat.eq_of_mul_eq_mul_right hp h⟩
      apply cmp_eq <;> omega
/-! the ratios' own laws -/
theorem U_zero {k n : Nat} (hn0 : 0 < n) (hkn : k ≤ n) (hn : n < 2 ^ 31) : UQ k n = 0 ↔ k = 0 := by
  unfold UQ
  by_cases hk0 : k = 0
  · simp [hk0]
  · rw [if_neg hk0]
    have hcl := c_lo (by omega) hkn hn
    have hp := Nat.two_pow_pos (84 - mOf k n)
    constructor
    · intro h
      rcases Nat.mul_eq_zero.mp h with h | h <;> omega
    · intro h; exact absurd h hk0
theorem U_le {k n : Nat} (hn0 : 0 < n) (hkn : k ≤ n) (hn : n < 2 ^ 31) : UQ k n ≤ 2 ^ 84 := by
  unfold UQ
  by_cases hk0 : k = 0
  · simp [hk0]
  · rw [if_neg hk0]
    have hm := m_rng (by omega) hkn hn
    have h : nearest (k * 2 ^ mOf k n) n ≤ 2 ^ mOf k n := nearest_le hn0 (by rw [Nat.mul_comm]; exact Nat.mul_le_mul_left _ hkn)
    calc _ ≤ 2 ^ mOf k n * 2 ^ (84 - mOf k n) := Nat.mul_le_mul_right _ h
      _ = 2 ^ 84 := by rw [← Nat.pow_add]; congr 1; omega
theorem U_one {k n : Nat} (hn0 : 0 < n) (hkn : k ≤ n) (hn : n < 2 ^ 31) : UQ k n = 2 ^ 84 ↔ k = n := by
  constructor
  · intro h
    by_cases e : k = n
    · exact e
    · exfalso
      unfold UQ at h
      by_cases hk0 : k = 0
      · rw [if_pos hk0] at h; omega
      · rw [if_neg hk0] at h
        have hm := m_rng (by omega) hkn hn
        have hp : 2 ^ 52 ≤ 2 ^ mOf k n := Nat.pow_le_pow_right (by omega) hm.1
        have h1 : nearest (k * 2 ^ mOf k n) n ≤ 2 ^ mOf k n - 1 := by
          apply nearest_le hn0
          rw [Nat.sub_mul, Nat.one_mul]
          have h2 : k * 2 ^ mOf k n ≤ (n - 1) * 2 ^ mOf k n := Nat.mul_le_mul_right _ (by omega)
          rw [Nat.sub_mul, Nat.one_mul, Nat.mul_comm n] at h2
          omega
        have h3 : nearest (k * 2 ^ mOf k n) n * 2 ^ (84 - mOf k n) ≤ (2 ^ mOf k n - 1) * 2 ^ (84 - mOf k n) := Nat.mul_le_mul_right _ h1
        rw [h, Nat.sub_mul, ← Nat.pow_add, show mOf k n + (84 - mOf k n) = 84 by omega] at h3
        have := Nat.two_pow_pos (84 - mOf k n)
        omega
  · rintro rfl
    unfold UQ
    rw [if_neg (by omega)]
    have hm := m_rng hn0 hkn hn
    rw [Nat.mul_comm k, nearest_exact _ hn0, ← Nat.pow_add]
    congr 1; omega
theorem nearest_mono {A B A' B' : Nat} (hB : 0 < B) (hB' : 0 < B') (h : A * B' ≤ A' * B) : nearest A B ≤ nearest A' B' := by
  have s1 := nearest_spec A B hB
  have s2 := nearest_spec A' B' hB'
  apply Nat.le_of_not_lt
  intro hlt
  -- 2 c B <= 2 A + B and 2 A' <= (2 c' + 1) B', c >= c' + 1
  generalize nearest A B = c at *
  generalize nearest A' B' = c' at *
  obtain ⟨-, u2, u3⟩ := s1
  obtain ⟨v1, -, v3⟩ := s2
  have hge : c' + 1 ≤ c := hlt
  have k1 : 2 * c * B * B' ≤ (2 * A + B) * B' := Nat.mul_le_mul_right _ u2
  have k2 : 2 * A' * B ≤ (2 * c' + 1) * B' * B := Nat.mul_le_mul_right _ v1
  have k3 : (2 * c' + 2) * (B * B') ≤ 2 * c * (B * B') := Nat.mul_le_mul_right _ (by omega)
  have e1 : 2 * c * B * B' = 2 * c * (B * B') := by ac_rfl
  have e2 : (2 * A + B) * B' = 2 * (A * B') + B * B' := by rw [Nat.add_mul]; ac_rfl
  have e3 : 2 * A' * B = 2 * (A' * B) := by ac_rfl
  have e4 : (2 * c' + 1) * B' * B = 2 * c' * (B * B') + B * B' := by rw [Nat.add_mul, Nat.add_mul, Nat.one_mul]; ac_rfl
  have e5 : (2 * c' + 2) * (B * B') = 2 * c' * (B * B') + 2 * (B * B') := by rw [Nat.add_mul]
  have hpos : 0 < B * B' := Nat.mul_pos hB hB'
  rw [e1, e2] at k1
  rw [e3, e4] at k2
  rw [e5] at k3
  -- all equal
  have t1 : 2 * c * (B * B') = 2 * (A * B') + B * B' := by omega
  have t2 : 2 * (A' * B) = 2 * c' * (B * B') + B * B' := by omega
  have t3 : 2 * c' * (B * B') + 2 * (B * B') = 2 * c * (B * B') := by omega
  have t4 : c = c' + 1 := by
    have : (2 * c' + 2) * (B * B') = 2 * c * (B * B') := by rw [e5]; exact t3
    have := Nat.eq_of_mul_eq_mul_right hpos this
    omega
  have w1 : 2 * c * B = 2 * A + B := by
    apply Nat.eq_of_mul_eq_mul_right hB'
    rw [e1, e2]; exact t1
  have w2 : 2 * A' = (2 * c' + 1) * B' := by
    apply Nat.eq_of_mul_eq_mul_right hB
    rw [e3, e4]; exact t2
  have p1 := u3 (Or.inr w1)
  have p2 := v3 (Or.inl w2)
  omega
theorem U_mono {k n k' n' : Nat} (hn0 : 0 < n) (hkn : k ≤ n) (hn : n < 2 ^ 31) (hn0' : 0 < n') (hkn' : k' ≤ n') (hn' : n' < 2 ^ 31) (h : k * n' ≤ k' * n) : UQ k n ≤ UQ k' n' := by
  by_cases hk0 : k = 0
  · unfold UQ; rw [if_pos hk0]; exact Nat.zero_le _
  · have hk : 0 < k := by omega
    have hk' : 0 < k' := by
      rcases Nat.eq_zero_or_pos k' with e | e
      · subst e; rw [Nat.zero_mul] at h
        have := Nat.mul_pos hk hn0'
        omega
      · exact e
    have hm := m_rng hk hkn hn
    have hm' := m_rng hk' hkn' hn'
    have a1 := m_lo hk hkn hn
    have a2 := m_hi hk hkn hn
    have b1 := m_lo hk' hkn' hn'
    have b2 := m_hi hk' hkn' hn'
    have c1 := c_lo hk hkn hn
    have c2 := c_hi hk hkn hn
    have d1 := c_lo hk' hkn' hn'
    have d2 := c_hi hk' hkn' hn'
    unfold UQ
    rw [if_neg hk0, if_neg (by omega)]
    rcases Nat.lt_trichotomy (mOf k n) (mOf k' n') with hlt | heq | hgt
    · exfalso
      -- k / n >= 2^(52 - m) >= 2^(53 - m') > k' / n'
      have s1 : 2 ^ 52 * n * 2 ^ (mOf k' n' - mOf k n) ≤ k * 2 ^ mOf k n * 2 ^ (mOf k' n' - mOf k n) := Nat.mul_le_mul_right _ a1
      rw [Nat.mul_assoc k, ← Nat.pow_add, show mOf k n + (mOf k' n' - mOf k n) = mOf k' n' by omega] at s1
      have s2 : 2 ^ 52 * n * 2 ≤ 2 ^ 52 * n * 2 ^ (mOf k' n' - mOf k n) := Nat.mul_le_mul_left _ (by
        have := Nat.pow_le_pow_right (n := 2) (by omega) (show 1 ≤ mOf k' n' - mOf k n by omega)
        simpa using this)
      have s3 : 2 ^ 53 * n ≤ k * 2 ^ mOf k' n' := by omega
      have s4 : 2 ^ 53 * n * n' ≤ k * 2 ^ mOf k' n' * n' := Nat.mul_le_mul_right _ s3
      have s5 : k' * 2 ^ mOf k' n' * n < 2 ^ 53 * n' * n := Nat.mul_lt_mul_of_pos_right b2 hn0
      have s6 : k * n' * 2 ^ mOf k' n' ≤ k' * n * 2 ^ mOf k' n' := Nat.mul_le_mul_right _ h
      have e1 : k * 2 ^ mOf k' n' * n' = k * n' * 2 ^ mOf k' n' := by ac_rfl
      have e2 : k' * 2 ^ mOf k' n' * n = k' * n * 2 ^ mOf k' n' := by ac_rfl
      have e3 : 2 ^ 53 * n * n' = 2 ^ 53 * n' * n := by ac_rfl
      omega
    · rw [heq]
      apply Nat.mul_le_mul_right
      apply nearest_mono hn0 hn0'
      have e1 : k * 2 ^ mOf k' n' * n' = k * n' * 2 ^ mOf k' n' := by ac_rfl
      have e2 : k' * 2 ^ mOf k' n' * n = k' * n * 2 ^ mOf k' n' := by ac_rfl
      rw [e1, e2]
      exact Nat.mul_le_mul_right _ h
    · calc _ ≤ 2 ^ 53 * 2 ^ (84 - mOf k n) := Nat.mul_le_mul_right _ c2
        _ ≤ 2 ^ 52 * 2 ^ (84 - mOf k' n') := by
          rw [show (2 : Nat) ^ 53 = 2 ^ 52 * 2 ^ 1 from rfl, Nat.mul_assoc, ← Nat.pow_add]
          exact Nat.mul_le_mul_left _ (Nat.pow_le_pow_right (by omega) (by omega))
        _ ≤ _ := Nat.mul_le_mul_right _ d1

theorem U_up {k n : Nat} (hn0 : 0 < n) (hkn : k ≤ n) (hn : n < 2 ^ 31) : 2 * UQ k n * n ≤ 2 * k * 2 ^ 84 + n * 2 ^ 32 := by
  unfold UQ
  by_cases hk0 : k = 0
  · simp [hk0]
  · rw [if_neg hk0]
    have hm := m_rng (by omega) hkn hn
    have s := (nearest_spec (k * 2 ^ mOf k n) n hn0).2.1
    generalize nearest (k * 2 ^ mOf k n) n = c at *
    have s2 := Nat.mul_le_mul_right (2 ^ (84 - mOf k n)) s
    have e1 : 2 * (c * 2 ^ (84 - mOf k n)) * n = 2 * c * n * 2 ^ (84 - mOf k n) := by ac_rfl
    have e2 : (2 * (k * 2 ^ mOf k n) + n) * 2 ^ (84 - mOf k n) = 2 * k * 2 ^ 84 + n * 2 ^ (84 - mOf k n) := by
      rw [Nat.add_mul, ← Nat.mul_assoc 2 k, Nat.mul_assoc (2 * k), ← Nat.pow_add, show mOf k n + (84 - mOf k n) = 84 by omega]
    have e3 : n * 2 ^ (84 - mOf k n) ≤ n * 2 ^ 32 := Nat.mul_le_mul_left _ (Nat.pow_le_pow_right (by omega) (by omega))
    rw [e1]; rw [e2] at s2; omega
theorem U_dn {k n : Nat} (hn0 : 0 < n) (hkn : k ≤ n) (hn : n < 2 ^ 31) : 2 * k * 2 ^ 84 ≤ 2 * UQ k n * n + n * 2 ^ 32 := by
  unfold UQ
  by_cases hk0 : k = 0
  · simp [hk0]
  · rw [if_neg hk0]
    have hm := m_rng (by omega) hkn hn
    have s := (nearest_spec (k * 2 ^ mOf k n) n hn0).1
    generalize nearest (k * 2 ^ mOf k n) n = c at *
    have s2 := Nat.mul_le_mul_right (2 ^ (84 - mOf k n)) s
    have e1 : 2 * (c * 2 ^ (84 - mOf k n)) * n + n * 2 ^ (84 - mOf k n) = (2 * c + 1) * n * 2 ^ (84 - mOf k n) := by rw [Nat.add_mul, Nat.add_mul, Nat.one_mul]; ac_rfl
    have e2 : 2 * (k * 2 ^ mOf k n) * 2 ^ (84 - mOf k n) = 2 * k * 2 ^ 84 := by
      rw [← Nat.mul_assoc 2 k, Nat.mul_assoc (2 * k), ← Nat.pow_add, show mOf k n + (84 - mOf k n) = 84 by omega]
    have e3 : n * 2 ^ (84 - mOf k n) ≤ n * 2 ^ 32 := Nat.mul_le_mul_left _ (Nat.pow_le_pow_right (by omega) (by omega))
    rw [← e1, e2] at s2; omega
theorem U_strict {k n k' n' : Nat} (hn0 : 0 < n) (hkn : k ≤ n) (hn : n < 2 ^ 20) (hn0' : 0 < n') (hkn' : k' ≤ n') (hn' : n' < 2 ^ 20) (h : k * n' < k' * n) : UQ k n < UQ k' n' := by
  apply Nat.lt_of_not_le
  intro hle
  have a1 := Nat.mul_le_mul_right n' (U_up hn0 hkn (by omega))
  have a2 := Nat.mul_le_mul_right n (U_dn hn0' hkn' (by omega))
  have a3 : 2 * UQ k' n' * (n * n') ≤ 2 * UQ k n * (n * n') := Nat.mul_le_mul_right _ (by omega)
  have e1 : 2 * UQ k n * n * n' = 2 * UQ k n * (n * n') := by ac_rfl
  have e2 : (2 * k * 2 ^ 84 + n * 2 ^ 32) * n' = 2 * 2 ^ 84 * (k * n') + n * n' * 2 ^ 32 := by rw [Nat.add_mul]; ac_rfl
  have e3 : 2 * k' * 2 ^ 84 * n = 2 * 2 ^ 84 * (k' * n) := by ac_rfl
  have e4 : (2 * UQ k' n' * n' + n' * 2 ^ 32) * n = 2 * UQ k' n' * (n * n') + n * n' * 2 ^ 32 := by rw [Nat.add_mul]; ac_rfl
  rw [e1, e2] at a1
  rw [e3, e4] at a2
  have b : n * n' ≤ (2 ^ 20) * (2 ^ 20) := Nat.mul_le_mul (by omega) (by omega)
  generalize k * n' = p at *
  generalize k' * n = q at *
  generalize n * n' = z at *
  generalize 2 * UQ k n * z = y at *
  generalize 2 * UQ k' n' * z = y' at *
  omega
/-! the division -/
theorem i2d_fin' (k : Int32) (hk : 0 ≤ k.toInt) : ∃ c q, val64 (Jvm.FP.Core.i2d k) = .fin false c q ∧ c * 2 ^ q.toNat = k.toInt.toNat * 2 ^ (-q).toNat := by
  have hd := i2d_int k
  unfold DInt at hd
  by_cases h0 : k.toInt = 0
  · have e : val64 (Jvm.FP.Core.i2d k) = .fin false 0 b64.qmin := by
      rw [val64_i2d, h0]; show roundRatio b64 false 0 1 0 = _; unfold roundRatio; rw [if_pos rfl]
    exact ⟨0, _, e, by rw [h0]; simp⟩
  · cases hv : val64 (Jvm.FP.Core.i2d k) with
    | nan => rw [hv] at hd; exact hd.elim
    | inf s => rw [hv] at hd; exact hd.elim
    | fin s c q =>
      rw [hv] at hd
      have hs := whole_sign hd h0
      have hn := whole_natAbs hd
      have hs' : s = false := by rw [hs]; exact decide_eq_false (by omega)
      subst hs'
      exact ⟨c, q, rfl, by rw [hn]; congr 1; omega⟩
theorem ddiv_is {k n : Int32} {K N : Nat} (hk : k.toInt = K) (hn : n.toInt = N) (h0 : 0 < N) (hKN : K ≤ N) (hN : N < 2 ^ 31) : IsU (UQ K N) (val64 (Jvm.FP.ddiv (Jvm.FP.i2d k) (Jvm.FP.i2d n))) := by
  have e : val64 (Jvm.FP.ddiv (Jvm.FP.i2d k) (Jvm.FP.i2d n)) = roundRatio b64 false K N 0 := by
    show val64 (Jvm.FP.Core.ddiv (Jvm.FP.Core.i2d k) (Jvm.FP.Core.i2d n)) = _
    obtain ⟨c, q, e1, h1⟩ := i2d_fin' k (by omega)
    obtain ⟨d, r, e2, h2⟩ := i2d_fin' n (by omega)
    rw [hk] at h1; rw [hn] at h2
    rw [Int.toNat_natCast] at h1 h2
    rw [val64_ddiv, e1, e2]
    have hd : 0 < d := by
      rcases Nat.eq_zero_or_pos d with q | q
      · subst q; rw [Nat.zero_mul] at h2
        have := Nat.mul_pos h0 (Nat.two_pow_pos (-r).toNat)
        omega
      · exact q
    show (if d = 0 then _ else roundRatio b64 (false != false) c d (q - r)) = _
    rw [if_neg (by omega)]
    apply roundRatio_congr hd h0
    obtain ⟨t, ht1, ht2⟩ : ∃ t : Nat, q.toNat + (-r).toNat = (q - r - 0).toNat + t ∧ (-q).toNat + r.toNat = (0 - (q - r)).toNat + t :=
      ⟨q.toNat + (-r).toNat - (q - r - 0).toNat, by omega, by omega⟩
    apply Nat.eq_of_mul_eq_mul_right (Nat.two_pow_pos t)
    rw [Nat.mul_assoc, ← Nat.pow_add, ← ht1, Nat.mul_assoc (K * d), ← Nat.pow_add, ← ht2, Nat.pow_add, Nat.pow_add]
    calc c * N * (2 ^ q.toNat * 2 ^ (-r).toNat) = (c * 2 ^ q.toNat) * (N * 2 ^ (-r).toNat) := by ac_rfl
      _ = (K * 2 ^ (-q).toNat) * (d * 2 ^ r.toNat) := by rw [h1, h2]
      _ = _ := by ac_rfl
  rw [e]
  exact rr_is h0 hKN hN
theorem noNaN_is {u : Nat} {r : UInt64} (h : IsU u (val64 r)) : Jvm.Free.Fl.NoNaN64 r := by
  rw [Jvm.Free.Fl.noNaN64_no, ← Bool.not_eq_true, dIsNaN_iff]; exact h.ne_nan
/-- the comparison's value, on units -/
def cmpI (u v : Nat) : Int32 := if u < v then -1 else if u = v then 0 else 1
theorem cmpI_lt {u v : Nat} : cmpI u v < (0 : Int32) ↔ u < v := by
  unfold cmpI; by_cases h : u < v
  · rw [if_pos h]; exact ⟨fun _ => h, fun _ => by decide⟩
  · rw [if_neg h]; by_cases h2 : u = v
    · rw [if_pos h2]; exact ⟨fun q => absurd q (by decide), fun q => absurd q h⟩
    · rw [if_neg h2]; exact ⟨fun q => absurd q (by decide), fun q => absurd q h⟩
theorem cmpI_gt {u v : Nat} : (0 : Int32) < cmpI u v ↔ v < u := by
  unfold cmpI; by_cases h : u < v
  · rw [if_pos h]; exact ⟨fun q => absurd q (by decide), fun q => by omega⟩
  · rw [if_neg h]; by_cases h2 : u = v
    · rw [if_pos h2]; exact ⟨fun q => absurd q (by decide), fun q => by omega⟩
    · rw [if_neg h2]; exact ⟨fun _ => by omega, fun _ => by decide⟩
theorem cmpI_eq {u v : Nat} : cmpI u v = (0 : Int32) ↔ u = v := by
  unfold cmpI; by_cases h : u < v
  · rw [if_pos h]; exact ⟨fun q => absurd q (by decide), fun q => by omega⟩
  · rw [if_neg h]; by_cases h2 : u = v
    · rw [if_pos h2]; exact ⟨fun _ => h2, fun _ => rfl⟩
    · rw [if_neg h2]; exact ⟨fun q => absurd q (by decide), fun q => absurd q h2⟩
theorem dcmp_is {u v : Nat} {x y : UInt64} (o : Jvm.ClassFile.CmpOp) (hu : IsU u (val64 x)) (hv : IsU v (val64 y)) : Jvm.Op.cmpValue (Jvm.FP.dcmp x y) o = cmpI u v := by
  have e : Jvm.FP.dcmp x y = some (compare (u : Int) (v : Int)) := order_is hu hv
  rw [e]
  unfold cmpI
  show Jvm.Op.cmpValue (some (compareOfLessAndEq (u : Int) (v : Int))) o = _
  unfold compareOfLessAndEq
  by_cases h : u < v
  · rw [if_pos (by omega), if_pos h]; rfl
  · rw [if_neg (by omega), if_neg h]
    by_cases h2 : u = v
    · rw [if_pos (by omega), if_pos h2]; rfl
    · rw [if_neg (by omega), if_neg h2]; rfl
theorem is_zero : IsU 0 (val64 Jvm.FP.dconst0) := ⟨0, _, val64_dconst0, Or.inl ⟨rfl, rfl⟩⟩
theorem is_one : IsU (2 ^ 84) (val64 Jvm.FP.dconst1) := ⟨2 ^ 52, _, val64_dconst1, Or.inr ⟨by decide, by decide⟩⟩
/-! the law's own cases -/
theorem l_mul {k n : Int32} {K N : Nat} (hk : k.toInt = K) (hn : n.toInt = N) : (k.toInt64 * n.toInt64).toInt = ((K * N : Nat) : Int) := by
  have r1 := Int32.toInt_lt k
  have r2 := Int32.toInt_lt n
  have b : K * N ≤ 2147483647 * 2147483647 := Nat.mul_le_mul (by omega) (by omega)
  rw [Int64.toInt_mul, Int32.toInt_toInt64, Int32.toInt_toInt64, hk, hn, ← Int.natCast_mul]
  apply Int.bmod_eq_of_le <;> omega
theorem l_eq {k n k' n' : Int32} {K N K' N' : Nat} (hk : k.toInt = K) (hn : n.toInt = N) (hk' : k'.toInt = K') (hn' : n'.toInt = N') : (k.toInt64 * n'.toInt64) = (k'.toInt64 * n.toInt64) ↔ K * N' = K' * N := by
  rw [← Int64.toInt_inj, l_mul hk hn', l_mul hk' hn]; omega
theorem l_lt {k n k' n' : Int32} {K N K' N' : Nat} (hk : k.toInt = K) (hn : n.toInt = N) (hk' : k'.toInt = K') (hn' : n'.toInt = N') : (k.toInt64 * n'.toInt64) < (k'.toInt64 * n.toInt64) ↔ K * N' < K' * N := by
  rw [Int64.lt_iff_toInt_lt, l_mul hk hn', l_mul hk' hn]; omega

end OwnF
open OwnF

/-- the page element at o: its length, its link length -/
def PEl (Z : State) (h : Heap) (o : Addr) (nn kk : Int32) : Prop := Exa Z h o "com/example/tarsier/tarsier/elements/PageElement" ∧ Fld Z h o "com/example/tarsier/tarsier/elements/PageElement" "length" "I" (.int nn) ∧ Fld Z h o "com/example/tarsier/tarsier/elements/PageElement" "linkLength" "I" (.int kk)
theorem PEl.keep {Z : State} {h h' : Heap} {o : Addr} {nn kk : Int32} {ws : List Addr} (H : PEl Z h o nn kk) (K : Keep h h' ws) (q : o ∉ ws) : PEl Z h' o nn kk := ⟨H.1.keep K, H.2.1.keep K q, H.2.2.keep K q⟩
theorem PEl.ext {Z : State} {h h' : Heap} {o : Addr} {nn kk : Int32} (H : PEl Z h o nn kk) (E : Ext h h') : PEl Z h' o nn kk := ⟨Exa.ext E H.1, Fld.ext E H.2.1, Fld.ext E H.2.2⟩
theorem PEl.lt {Z : State} {h : Heap} {o : Addr} {nn kk : Int32} (H : PEl Z h o nn kk) : o < h.size := H.1.lt
theorem own_str {Z : State} {a0 : Array Value} (hw : ∀ d ∈ tables_1, d.before a0 Z = true) : ∀ d ∈ Bundle.stringAtoms, d.before a0 Z = true := by
  intro d hd
  simp only [Bundle.stringAtoms, List.mem_cons, List.not_mem_nil, or_false] at hd
  rcases hd with rfl | rfl | rfl | rfl | rfl | rfl | rfl
  · exact (hw _ (List.mem_of_getElem? (i := 17) rfl))
  · exact (hw _ (List.mem_of_getElem? (i := 18) rfl))
  · exact (hw _ (List.mem_of_getElem? (i := 19) rfl))
  · exact (hw _ (List.mem_of_getElem? (i := 20) rfl))
  · exact (hw _ (List.mem_of_getElem? (i := 21) rfl))
  · exact (hw _ (List.mem_of_getElem? (i := 22) rfl))
  · exact (hw _ (List.mem_of_getElem? (i := 23) rfl))
theorem d2_0 : decode jdk_29_method_65_code 0 = .ok (.iload_n 0, 1) := by decide +kernel
theorem d2_1 : decode jdk_29_method_65_code 1 = .ok (.iload_n 1, 1) := by decide +kernel
theorem d2_2 : decode jdk_29_method_65_code 2 = .ok (.if_icmp .lt 7, 3) := by decide +kernel
theorem d2_9 : decode jdk_29_method_65_code 9 = .ok (.iload_n 1, 1) := by decide +kernel
theorem d2_10 : decode jdk_29_method_65_code 10 = .ok (.ireturn, 1) := by decide +kernel
theorem d2_5 : decode jdk_29_method_65_code 5 = .ok (.iload_n 0, 1) := by decide +kernel
theorem d2_6 : decode jdk_29_method_65_code 6 = .ok (.goto 4, 3) := by decide +kernel
def f2 (x0 : Int32) (x1 : Int32) : Int32 := (if x0 < x1 then x1 else x0)
theorem ef_rm2 (m : MethodId) (x0 : Int32) (x1 : Int32) : entryFrame m #[(.int x0), (.int x1)] 2 = mkF m 0 #[.val (.int x0), .val (.int x1)] [] := by first | (simp [entryFrame, mkF, argsToLocals, Value.category]; done) | rfl
set_option maxRecDepth 65536 in
set_option maxHeartbeats 40000000 in
theorem rm2 (l : Launch) (Z : State) (a0 : Array Value) (hw : ∀ d ∈ tables_1, d.before a0 Z = true) (ws : List Jvm.Cond) (x0 : Int32) (x1 : Int32) (h0 : Heap) (n0 : Nat) (Z0 : n0 ≤ h0.size) :
    MetFree l (⟨"java/lang/Math", "max", "(II)I"⟩ : MethodName) (head1 (Jvm.Cond.code (⟨"java/lang/Math", "max", "(II)I"⟩ : MethodName) jdk_29_method_65_code 2 (some .int) :: ws) ({ frames := 0, cells := 0, slots := 0, locals := 0 } : Room)) (fun a U => a = #[(.int x0), (.int x1)] ∧ Z.Warmed39 U.vm ∧ U.heap = h0) (fun _ _ _ _ _ => True) (fun _ U o U' => ∃ v L, o = .returned v ∧ (QP (some (.int (f2 x0 x1))) h0 n0) v U'.heap L ∧ FrameEnd U o U' L ({ frames := 0, cells := 0, slots := 0, locals := 0 } : Room).cells ({ frames := 0, cells := 0, slots := 0, locals := 0 } : Room).slots) := by
  refine MetFree.of_bodySF (Jvm.Free.JP.mathPlain rfl (by decide +kernel)) hisR ?_
  intro p e s m args below meth c s₁ Bd hml0 hP hK
  obtain ⟨rfl, hZ, hh⟩ := hP
  have hx := Bd.exec
  have hby := Bd.bytes
  have hml : c.maxLocals = 2 := hml0
  have hown : s.vm.findClass "java/lang/Math" = some m.cls := findClass_of_methodNamed Bd.named
  have hnm := (name_of_methodNamed Bd.named Bd.method).1
  have X0 : Stand p l e ({ frames := 0, cells := 0, slots := 0, locals := 0 } : Room) s m #[(.int x0), (.int x1)] below meth c s₁ [] 0 0 := Stand.of_body Bd
  have e0 : s₁.heap = h0 := by rw [← hh, Bd.state]; rfl
  have N0 := Fr.nil n0
  show Ends p e below (FE s ({ frames := 0, cells := 0, slots := 0, locals := 0 } : Room).cells ({ frames := 0, cells := 0, slots := 0, locals := 0 } : Room).slots) (QP (some (.int (f2 x0 x1))) h0 n0) (s₁.setTop (entryFrame m #[(.int x0), (.int x1)] 2))
  rw [ef_rm2 m x0 x1]
  have hv0 : f2 x0 x1 = f2 x0 x1 := rfl
  show Ends p e below _ _ (s₁.setTop (mkF m 0 #[.val (.int x0), .val (.int x1)] []))
  refine Es.iloadN (q := 1) ?_ X0 hx (hb hby d2_0) rfl rfl
  refine Es.iloadN (q := 2) ?_ X0 hx (hb hby d2_1) rfl rfl
  by_cases hc1 : x0 < x1
  · have hv2 := hv0.trans (if_pos hc1)
    refine Es.icmpYes (q := 9) ?_ X0 hx (hb hby d2_2) (XT.ii_lt_t hc1) (by decide) (by decide)
    refine Es.iloadN (q := 10) ?_ X0 hx (hb hby d2_9) rfl rfl
    exact Ends.retI X0 hx Bd.notSynchronized Bd.returns (hb hby d2_10) ⟨by rw [hv2]; first | done | rfl, N0, e0⟩ (by decide) (by decide)
  · have hv3 := hv0.trans (if_neg hc1)
    refine Es.icmpNo (q := 5) ?_ X0 hx (hb hby d2_2) rfl (XT.ii_lt_f hc1)
    refine Es.iloadN (q := 6) ?_ X0 hx (hb hby d2_5) rfl rfl
    refine Es.goto (q := 10) ?_ X0 hx (hb hby d2_6) (by decide) (by decide)
    exact Ends.retI X0 hx Bd.notSynchronized Bd.returns (hb hby d2_10) ⟨by rw [hv3]; first | done | rfl, N0, e0⟩ (by decide) (by decide)

theorem d1_0 : decode method_2_code 0 = .ok (.iload_n 1, 1) := by decide +kernel
theorem d1_1 : decode method_2_code 1 = .ok (.ifCond .eq 10, 3) := by decide +kernel
theorem d1_11 : decode method_2_code 11 = .ok (.iload_n 0, 1) := by decide +kernel
theorem d1_12 : decode method_2_code 12 = .ok (.ldc 8, 2) := by decide +kernel
theorem d1_14 : decode method_2_code 14 = .ok (.iand, 1) := by decide +kernel
theorem d1_15 : decode method_2_code 15 = .ok (.istore_n 2, 1) := by decide +kernel
theorem d1_16 : decode method_2_code 16 = .ok (.iconst 1, 1) := by decide +kernel
theorem d1_17 : decode method_2_code 17 = .ok (.iload_n 2, 1) := by decide +kernel
theorem d1_18 : decode method_2_code 18 = .ok (.invokestatic 9, 3) := by decide +kernel
theorem pd_0 : parseMethodDescriptor "(II)I" = some ⟨[.int, .int], some .int⟩ := by decide +kernel
theorem d1_21 : decode method_2_code 21 = .ok (.ireturn, 1) := by decide +kernel
theorem d1_4 : decode method_2_code 4 = .ok (.iload_n 0, 1) := by decide +kernel
theorem d1_5 : decode method_2_code 5 = .ok (.ldc 7, 2) := by decide +kernel
theorem d1_7 : decode method_2_code 7 = .ok (.iand, 1) := by decide +kernel
theorem d1_8 : decode method_2_code 8 = .ok (.goto 7, 3) := by decide +kernel
def f1 (x0 : Int32) (x1 : Int32) : Int32 := (if x1 = (0 : Int32) then (f2 (1 : Int32) (x0 &&& (2147483647 : Int32))) else (f2 (1 : Int32) (x0 &&& (1048575 : Int32))))
theorem ef_rm1 (m : MethodId) (x0 : Int32) (x1 : Int32) : entryFrame m #[(.int x0), (.int x1)] 3 = mkF m 0 #[.val (.int x0), .val (.int x1), .unset] [] := by first | (simp [entryFrame, mkF, argsToLocals, Value.category]; done) | rfl
theorem pn_0 : plainName "com/example/tarsier/tarsier/elements/PageElementLinkRatioPinLaw" = true := by first | (simp [plainName, overriddenIn]; done) | decide +kernel
set_option maxRecDepth 65536 in
set_option maxHeartbeats 40000000 in
theorem rm1 (l : Launch) (Z : State) (a0 : Array Value) (hw : ∀ d ∈ tables_1, d.before a0 Z = true) (ws : List Jvm.Cond) (x0 : Int32) (x1 : Int32) (h0 : Heap) (n0 : Nat) (Z0 : n0 ≤ h0.size) :
    MetFree l (⟨"com/example/tarsier/tarsier/elements/PageElementLinkRatioPinLaw", "len", "(IZ)I"⟩ : MethodName) (head1 (Jvm.Cond.code (⟨"com/example/tarsier/tarsier/elements/PageElementLinkRatioPinLaw", "len", "(IZ)I"⟩ : MethodName) method_2_code 3 (some .int) :: ws) ({ frames := 1, cells := 0, slots := 0, locals := 20 } : Room)) (fun a U => a = #[(.int x0), (.int x1)] ∧ Z.Warmed39 U.vm ∧ U.heap = h0) (fun _ _ _ _ _ => True) (fun _ U o U' => ∃ v L, o = .returned v ∧ (QP (some (.int (f1 x0 x1))) h0 n0) v U'.heap L ∧ FrameEnd U o U' L ({ frames := 1, cells := 0, slots := 0, locals := 20 } : Room).cells ({ frames := 1, cells := 0, slots := 0, locals := 20 } : Room).slots) := by
  refine MetFree.of_bodySF (plainFor_of_name pn_0) hisR ?_
  intro p e s m args below meth c s₁ Bd hml0 hP hK
  obtain ⟨rfl, hZ, hh⟩ := hP
  have hx := Bd.exec
  have hby := Bd.bytes
  have hml : c.maxLocals = 3 := hml0
  have hown : s.vm.findClass "com/example/tarsier/tarsier/elements/PageElementLinkRatioPinLaw" = some m.cls := findClass_of_methodNamed Bd.named
  have hnm := (name_of_methodNamed Bd.named Bd.method).1
  have X0 : Stand p l e ({ frames := 1, cells := 0, slots := 0, locals := 20 } : Room) s m #[(.int x0), (.int x1)] below meth c s₁ [] 0 0 := Stand.of_body Bd
  have e0 : s₁.heap = h0 := by rw [← hh, Bd.state]; rfl
  have N0 := Fr.nil n0
  show Ends p e below (FE s ({ frames := 1, cells := 0, slots := 0, locals := 20 } : Room).cells ({ frames := 1, cells := 0, slots := 0, locals := 20 } : Room).slots) (QP (some (.int (f1 x0 x1))) h0 n0) (s₁.setTop (entryFrame m #[(.int x0), (.int x1)] 3))
  rw [ef_rm1 m x0 x1]
  have hv0 : f1 x0 x1 = f1 x0 x1 := rfl
  show Ends p e below _ _ (s₁.setTop (mkF m 0 #[.val (.int x0), .val (.int x1), .unset] []))
  refine Es.iloadN (q := 1) ?_ X0 hx (hb hby d1_0) rfl rfl
  by_cases hc1 : x1 = (0 : Int32)
  · have hv2 := hv0.trans (if_pos hc1)
    refine Es.ifYes (q := 11) ?_ X0 hx (hb hby d1_1) (XT.i0_eq_t hc1) (by decide) (by decide)
    refine Es.iloadN (q := 12) ?_ X0 hx (hb hby d1_11) rfl rfl
    refine Es.ldc (q := 14) ?_ X0 hx hown (mvT hZ (hw _ (List.mem_of_getElem? (i := 4) rfl))) (hb hby d1_12) rfl
    refine Es.iand (q := 15) ?_ X0 hx (hb hby d1_14) rfl
    refine Es.istoreN (q := 16) (l' := #[.val (.int x0), .val (.int x1), .val (.int (x0 &&& (2147483647 : Int32)))]) ?_ X0 hx (hb hby d1_15) rfl rfl
    refine Es.iconst (q := 17) (z := (1 : Int32)) ?_ X0 hx (hb hby d1_16) rfl rfl
    refine Es.iloadN (q := 18) ?_ X0 hx (hb hby d1_17) rfl rfl
    obtain ⟨v3, _, ⟨T3, L3, k3, n3⟩, -, X3, ⟨Lc3, hQ3, l3, y3, z3⟩, st3⟩ := Jvm.LawKit.callS X0 hx (y := (⟨"java/lang/Math", "max", "(II)I"⟩ : MethodName)) hown (mvT hZ (hw _ (List.mem_of_getElem? (i := 5) rfl))) (mvT hZ (hw _ (List.mem_of_getElem? (i := 6) rfl))) (mvT hZ (hw _ (List.mem_of_getElem? (i := 7) rfl))) (mvT hZ (hw _ (List.mem_of_getElem? (i := 8) rfl))) (by decide) (backOf (W := 0) (rm2 l Z a0 hw [] (1 : Int32) (x0 &&& (2147483647 : Int32)) h0 n0 Z0) hZ (hw _ (List.mem_of_getElem? (i := 8) rfl)) (hw _ (List.mem_of_getElem? (i := 7) rfl)) (by decide) (by decide)) (g := (mkF m 18 #[.val (.int x0), .val (.int x1), .val (.int (x0 &&& (2147483647 : Int32)))] [(.int (x0 &&& (2147483647 : Int32))), (.int (1 : Int32))])) rfl (by rw [hml]; rfl) (argsL := [(.int (1 : Int32)), (.int (x0 &&& (2147483647 : Int32)))]) (rest := []) (lenOf pd_0 rfl) rfl (by show 2 * 0 + _ ≤ _; exact Nat.le_of_eq rfl) (hb hby d1_18) (fun _ _ => ⟨rfl, e0, (by decide : 0 + 0 ≤ _), (by decide : 0 + 0 ≤ _)⟩)
    dsimp only [Pt.U, Pt.locs, Pt.cells, Pt.slots] at X3 l3 y3 z3 st3 hQ3
    subst l3 y3 z3
    obtain ⟨rfl, N3q, e3⟩ := hQ3
    have N3 := Fr.app N0 N3q
    refine Ends.by ?_ st3
    show Ends p e below _ _ (T3.setTop (mkF m 21 #[.val (.int x0), .val (.int x1), .val (.int (x0 &&& (2147483647 : Int32)))] [(.int (f2 (1 : Int32) (x0 &&& (2147483647 : Int32))))]))
    exact Ends.retI X3 hx Bd.notSynchronized Bd.returns (hb hby d1_21) ⟨by rw [hv2]; first | done | rfl, N3, e3⟩ (by decide) (by decide)
  · have hv4 := hv0.trans (if_neg hc1)
    refine Es.ifNo (q := 4) ?_ X0 hx (hb hby d1_1) rfl (XT.i0_eq_f hc1)
    refine Es.iloadN (q := 5) ?_ X0 hx (hb hby d1_4) rfl rfl
    refine Es.ldc (q := 7) ?_ X0 hx hown (mvT hZ (hw _ (List.mem_of_getElem? (i := 56) rfl))) (hb hby d1_5) rfl
    refine Es.iand (q := 8) ?_ X0 hx (hb hby d1_7) rfl
    refine Es.goto (q := 15) ?_ X0 hx (hb hby d1_8) (by decide) (by decide)
    refine Es.istoreN (q := 16) (l' := #[.val (.int x0), .val (.int x1), .val (.int (x0 &&& (1048575 : Int32)))]) ?_ X0 hx (hb hby d1_15) rfl rfl
    refine Es.iconst (q := 17) (z := (1 : Int32)) ?_ X0 hx (hb hby d1_16) rfl rfl
    refine Es.iloadN (q := 18) ?_ X0 hx (hb hby d1_17) rfl rfl
    obtain ⟨v5, _, ⟨T5, L5, k5, n5⟩, -, X5, ⟨Lc5, hQ5, l5, y5, z5⟩, st5⟩ := Jvm.LawKit.callS X0 hx (y := (⟨"java/lang/Math", "max", "(II)I"⟩ : MethodName)) hown (mvT hZ (hw _ (List.mem_of_getElem? (i := 5) rfl))) (mvT hZ (hw _ (List.mem_of_getElem? (i := 6) rfl))) (mvT hZ (hw _ (List.mem_of_getElem? (i := 7) rfl))) (mvT hZ (hw _ (List.mem_of_getElem? (i := 8) rfl))) (by decide) (backOf (W := 0) (rm2 l Z a0 hw [] (1 : Int32) (x0 &&& (1048575 : Int32)) h0 n0 Z0) hZ (hw _ (List.mem_of_getElem? (i := 8) rfl)) (hw _ (List.mem_of_getElem? (i := 7) rfl)) (by decide) (by decide)) (g := (mkF m 18 #[.val (.int x0), .val (.int x1), .val (.int (x0 &&& (1048575 : Int32)))] [(.int (x0 &&& (1048575 : Int32))), (.int (1 : Int32))])) rfl (by rw [hml]; rfl) (argsL := [(.int (1 : Int32)), (.int (x0 &&& (1048575 : Int32)))]) (rest := []) (lenOf pd_0 rfl) rfl (by show 2 * 0 + _ ≤ _; exact Nat.le_of_eq rfl) (hb hby d1_18) (fun _ _ => ⟨rfl, e0, (by decide : 0 + 0 ≤ _), (by decide : 0 + 0 ≤ _)⟩)
    dsimp only [Pt.U, Pt.locs, Pt.cells, Pt.slots] at X5 l5 y5 z5 st5 hQ5
    subst l5 y5 z5
    obtain ⟨rfl, N5q, e5⟩ := hQ5
    have N5 := Fr.app N0 N5q
    refine Ends.by ?_ st5
    show Ends p e below _ _ (T5.setTop (mkF m 21 #[.val (.int x0), .val (.int x1), .val (.int (x0 &&& (1048575 : Int32)))] [(.int (f2 (1 : Int32) (x0 &&& (1048575 : Int32))))]))
    exact Ends.retI X5 hx Bd.notSynchronized Bd.returns (hb hby d1_21) ⟨by rw [hv4]; first | done | rfl, N5, e5⟩ (by decide) (by decide)

theorem own_nzl {n : Int32} (h : 0 < n.toInt) : n.toInt64 + (1 : Int64) ≠ 0 := fun q => by
  have r := rng32 n
  have e := congrArg Int64.toInt q
  rw [Int64.toInt_add, Int32.toInt_toInt64, show (1 : Int64).toInt = 1 from rfl, show (0 : Int64).toInt = 0 from rfl, Int.bmod_eq_of_le (by omega) (by omega)] at e
  omega
theorem d3_0 : decode method_3_code 0 = .ok (.iload_n 0, 1) := by decide +kernel
theorem d3_1 : decode method_3_code 1 = .ok (.i2l, 1) := by decide +kernel
theorem d3_2 : decode method_3_code 2 = .ok (.ldc2_w 15, 3) := by decide +kernel
theorem d3_5 : decode method_3_code 5 = .ok (.land, 1) := by decide +kernel
theorem d3_6 : decode method_3_code 6 = .ok (.iload_n 1, 1) := by decide +kernel
theorem d3_7 : decode method_3_code 7 = .ok (.i2l, 1) := by decide +kernel
theorem d3_8 : decode method_3_code 8 = .ok (.lconst 1, 1) := by decide +kernel
theorem d3_9 : decode method_3_code 9 = .ok (.ladd, 1) := by decide +kernel
theorem d3_10 : decode method_3_code 10 = .ok (.lrem, 1) := by decide +kernel
theorem d3_11 : decode method_3_code 11 = .ok (.l2i, 1) := by decide +kernel
theorem d3_12 : decode method_3_code 12 = .ok (.ireturn, 1) := by decide +kernel
def f3 (x0 : Int32) (x1 : Int32) : Int32 := ((((x0.toInt64) &&& (2147483647 : Int64)) % ((x1.toInt64) + (1 : Int64))).toInt32)
theorem ef_rm3 (m : MethodId) (x0 : Int32) (x1 : Int32) : entryFrame m #[(.int x0), (.int x1)] 2 = mkF m 0 #[.val (.int x0), .val (.int x1)] [] := by first | (simp [entryFrame, mkF, argsToLocals, Value.category]; done) | rfl
set_option maxRecDepth 65536 in
set_option maxHeartbeats 40000000 in
theorem rm3 (l : Launch) (Z : State) (a0 : Array Value) (hw : ∀ d ∈ tables_1, d.before a0 Z = true) (ws : List Jvm.Cond) (x0 : Int32) (x1 : Int32) (h0 : Heap) (n0 : Nat) (Z0 : n0 ≤ h0.size) (hn : 0 < x1.toInt) :
    MetFree l (⟨"com/example/tarsier/tarsier/elements/PageElementLinkRatioPinLaw", "links", "(II)I"⟩ : MethodName) (head1 (Jvm.Cond.code (⟨"com/example/tarsier/tarsier/elements/PageElementLinkRatioPinLaw", "links", "(II)I"⟩ : MethodName) method_3_code 2 (some .int) :: ws) ({ frames := 0, cells := 0, slots := 0, locals := 0 } : Room)) (fun a U => a = #[(.int x0), (.int x1)] ∧ Z.Warmed39 U.vm ∧ U.heap = h0) (fun _ _ _ _ _ => True) (fun _ U o U' => ∃ v L, o = .returned v ∧ (QP (some (.int (f3 x0 x1))) h0 n0) v U'.heap L ∧ FrameEnd U o U' L ({ frames := 0, cells := 0, slots := 0, locals := 0 } : Room).cells ({ frames := 0, cells := 0, slots := 0, locals := 0 } : Room).slots) := by
  refine MetFree.of_bodySF (plainFor_of_name pn_0) hisR ?_
  intro p e s m args below meth c s₁ Bd hml0 hP hK
  obtain ⟨rfl, hZ, hh⟩ := hP
  have hx := Bd.exec
  have hby := Bd.bytes
  have hml : c.maxLocals = 2 := hml0
  have hown : s.vm.findClass "com/example/tarsier/tarsier/elements/PageElementLinkRatioPinLaw" = some m.cls := findClass_of_methodNamed Bd.named
  have hnm := (name_of_methodNamed Bd.named Bd.method).1
  have X0 : Stand p l e ({ frames := 0, cells := 0, slots := 0, locals := 0 } : Room) s m #[(.int x0), (.int x1)] below meth c s₁ [] 0 0 := Stand.of_body Bd
  have e0 : s₁.heap = h0 := by rw [← hh, Bd.state]; rfl
  have N0 := Fr.nil n0
  show Ends p e below (FE s ({ frames := 0, cells := 0, slots := 0, locals := 0 } : Room).cells ({ frames := 0, cells := 0, slots := 0, locals := 0 } : Room).slots) (QP (some (.int (f3 x0 x1))) h0 n0) (s₁.setTop (entryFrame m #[(.int x0), (.int x1)] 2))
  rw [ef_rm3 m x0 x1]
  have hv0 : f3 x0 x1 = f3 x0 x1 := rfl
  show Ends p e below _ _ (s₁.setTop (mkF m 0 #[.val (.int x0), .val (.int x1)] []))
  refine Es.iloadN (q := 1) ?_ X0 hx (hb hby d3_0) rfl rfl
  refine Es.i2l (q := 2) ?_ X0 hx (hb hby d3_1) rfl
  refine Es.ldc2 (q := 5) ?_ X0 hx hown (mvT hZ (hw _ (List.mem_of_getElem? (i := 12) rfl))) (hb hby d3_2) rfl
  refine Es.land (q := 6) ?_ X0 hx (hb hby d3_5) rfl
  refine Es.iloadN (q := 7) ?_ X0 hx (hb hby d3_6) rfl rfl
  refine Es.i2l (q := 8) ?_ X0 hx (hb hby d3_7) rfl
  refine Es.lconst (q := 9) (z := (1 : Int64)) ?_ X0 hx (hb hby d3_8) rfl rfl
  refine Es.ladd (q := 10) ?_ X0 hx (hb hby d3_9) rfl
  refine Es.lrem (q := 11) ?_ X0 hx (hb hby d3_10) rfl (own_nzl hn)
  refine Es.l2i (q := 12) ?_ X0 hx (hb hby d3_11) rfl
  exact Ends.retI X0 hx Bd.notSynchronized Bd.returns (hb hby d3_12) ⟨by rw [hv0]; first | done | rfl, N0, e0⟩ (by decide) (by decide)

theorem own_len (x sm : Int32) : ∃ (N : Nat) (z : Int32), z = f1 x sm ∧ 0 < N ∧ N < 2 ^ 31 ∧ (¬ sm = (0 : Int32) → N < 2 ^ 20) ∧ z.toInt = N := by
  have h1 := c_mask x 2147483647 31 (by decide) (by decide)
  have h2 := c_mask x 1048575 20 (by decide) (by decide)
  have e1 : (1 : Int32).toInt = 1 := rfl
  have key : 1 ≤ (f1 x sm).toInt ∧ (¬ sm = (0 : Int32) → (f1 x sm).toInt < 2 ^ 20) := by
    unfold f1 f2
    by_cases hs : sm = (0 : Int32)
    · rw [if_pos hs]
      refine ⟨?_, fun q => absurd hs q⟩
      by_cases hc : (1 : Int32) < x &&& (2147483647 : Int32)
      · rw [if_pos hc]; rw [Int32.lt_iff_toInt_lt] at hc; omega
      · rw [if_neg hc]; omega
    · rw [if_neg hs]
      by_cases hc : (1 : Int32) < x &&& (1048575 : Int32)
      · rw [if_pos hc]; rw [Int32.lt_iff_toInt_lt] at hc; omega
      · rw [if_neg hc]; omega
  have r := rng32 (f1 x sm)
  exact ⟨(f1 x sm).toInt.toNat, _, rfl, by omega, by omega, fun q => by have := key.2 q; omega, by omega⟩
theorem own_links (y : Int32) {n : Int32} {N : Nat} (h0 : 0 < N) (hn : n.toInt = N) : ∃ (K : Nat) (z : Int32), z = f3 y n ∧ K ≤ N ∧ z.toInt = K := by
  have r := rng32 n
  have h1 := c_maskL y.toInt64 2147483647 31 (by decide) (by decide)
  have e1 : (n.toInt64 + (1 : Int64)).toInt = N + 1 := by
    rw [Int64.toInt_add, Int32.toInt_toInt64, show (1 : Int64).toInt = 1 from rfl, Int.bmod_eq_of_le (by omega) (by omega), hn]
  have e2 : ((y.toInt64 &&& (2147483647 : Int64)) % (n.toInt64 + (1 : Int64))).toInt = (y.toInt64 &&& (2147483647 : Int64)).toInt % (N + 1) := by
    rw [Int64.toInt_mod, e1, Int.tmod_eq_emod_of_nonneg (by omega)]
  have b1 := Int.emod_nonneg (y.toInt64 &&& (2147483647 : Int64)).toInt (show ((N : Int) + 1) ≠ 0 by omega)
  have b2 := Int.emod_lt_of_pos (y.toInt64 &&& (2147483647 : Int64)).toInt (show 0 < (N : Int) + 1 by omega)
  have e3 : (f3 y n).toInt = (y.toInt64 &&& (2147483647 : Int64)).toInt % (N + 1) := by
    unfold f3
    rw [Int64.toInt_toInt32, e2, Int.bmod_eq_of_le (by omega) (by omega)]
  exact ⟨(f3 y n).toInt.toNat, _, rfl, by omega, by omega⟩
/-- an element's two figures: 0 <= k <= n, 0 < n -/
def Rt (K N : Nat) (k n : Int32) : Prop := 0 < N ∧ K ≤ N ∧ N < 2 ^ 31 ∧ k.toInt = K ∧ n.toInt = N
section OwnLaw
variable {K N K' N' : Nat} {k n k' n' : Int32} {r : UInt64}
theorem Rt.is (A : Rt K N k n) : IsU (UQ K N) (FP.Core.val64 (FP.ddiv (FP.i2d k) (FP.i2d n))) := ddiv_is A.2.2.2.1 A.2.2.2.2 A.1 A.2.1 A.2.2.1
theorem Rt.le (A : Rt K N k n) : UQ K N ≤ 2 ^ 84 := U_le A.1 A.2.1 A.2.2.1
theorem Rt.zero (A : Rt K N k n) : UQ K N = 0 ↔ k = (0 : Int32) := by
  rw [U_zero A.1 A.2.1 A.2.2.1, ← Int32.toInt_inj, A.2.2.2.1, show (0 : Int32).toInt = 0 from rfl]; omega
theorem Rt.one (A : Rt K N k n) : UQ K N = 2 ^ 84 ↔ k = n := by
  rw [U_one A.1 A.2.1 A.2.2.1, ← Int32.toInt_inj, A.2.2.2.1, A.2.2.2.2]; omega
theorem Rt.mono (A : Rt K N k n) (B : Rt K' N' k' n') (h : K * N' ≤ K' * N) : UQ K N ≤ UQ K' N' := U_mono A.1 A.2.1 A.2.2.1 B.1 B.2.1 B.2.2.1 h
theorem law_eq (A : Rt K N k n) (B : Rt K' N' k' n') (h : (k.toInt64 * n'.toInt64) = (k'.toInt64 * n.toInt64)) : cmpI (UQ K N) (UQ K' N') = (0 : Int32) := by
  rw [l_eq A.2.2.2.1 A.2.2.2.2 B.2.2.2.1 B.2.2.2.2] at h
  exact cmpI_eq.mpr (Nat.le_antisymm (A.mono B (Nat.le_of_eq h)) (B.mono A (Nat.le_of_eq h.symm)))
theorem law_lt (A : Rt K N k n) (B : Rt K' N' k' n') (h1 : N < 2 ^ 20) (h2 : N' < 2 ^ 20) (h : (k.toInt64 * n'.toInt64) < (k'.toInt64 * n.toInt64)) : cmpI (UQ K N) (UQ K' N') < (0 : Int32) := by
  rw [l_lt A.2.2.2.1 A.2.2.2.2 B.2.2.2.1 B.2.2.2.2] at h
  exact cmpI_lt.mpr (U_strict A.1 A.2.1 h1 B.1 B.2.1 h2 h)
theorem law_le (A : Rt K N k n) (B : Rt K' N' k' n') (h : (k.toInt64 * n'.toInt64) < (k'.toInt64 * n.toInt64)) : ¬ (0 : Int32) < cmpI (UQ K N) (UQ K' N') := by
  rw [l_lt A.2.2.2.1 A.2.2.2.2 B.2.2.2.1 B.2.2.2.2] at h
  intro q
  have := cmpI_gt.mp q
  have := A.mono B (Nat.le_of_lt h)
  omega
theorem law_gt (A : Rt K N k n) (B : Rt K' N' k' n') (h1 : N < 2 ^ 20) (h2 : N' < 2 ^ 20) (he : ¬ (k.toInt64 * n'.toInt64) = (k'.toInt64 * n.toInt64)) (h : ¬ (k.toInt64 * n'.toInt64) < (k'.toInt64 * n.toInt64)) : (0 : Int32) < cmpI (UQ K N) (UQ K' N') := by
  rw [l_lt A.2.2.2.1 A.2.2.2.2 B.2.2.2.1 B.2.2.2.2] at h
  rw [l_eq A.2.2.2.1 A.2.2.2.2 B.2.2.2.1 B.2.2.2.2] at he
  exact cmpI_gt.mpr (U_strict B.1 B.2.1 h2 A.1 A.2.1 h1 (by omega))
theorem law_ge (A : Rt K N k n) (B : Rt K' N' k' n') (h : ¬ (k.toInt64 * n'.toInt64) < (k'.toInt64 * n.toInt64)) : ¬ cmpI (UQ K N) (UQ K' N') < (0 : Int32) := by
  rw [l_lt A.2.2.2.1 A.2.2.2.2 B.2.2.2.1 B.2.2.2.2] at h
  intro q
  have := cmpI_lt.mp q
  have := B.mono A (by omega)
  omega
end OwnLaw
theorem d5_0 : decode jdk_30_method_1_code 0 = .ok (.aload_n 0, 1) := by decide +kernel
theorem d5_1 : decode jdk_30_method_1_code 1 = .ok (.invokespecial 1, 3) := by decide +kernel
theorem d5_4 : decode jdk_30_method_1_code 4 = .ok (.return_, 1) := by decide +kernel
theorem ef_rm5 (m : MethodId) (x0 : Addr) : entryFrame m #[(.ref x0)] 1 = mkF m 0 #[.val (.ref x0)] [] := by first | (simp [entryFrame, mkF, argsToLocals, Value.category]; done) | rfl
theorem pn_1 : plainName "java/lang/Record" = true := by first | (simp [plainName, overriddenIn]; done) | decide +kernel
set_option maxRecDepth 65536 in
set_option maxHeartbeats 40000000 in
theorem rm5 (l : Launch) (Z : State) (a0 : Array Value) (hw : ∀ d ∈ tables_1, d.before a0 Z = true) (ws : List Jvm.Cond) (x0 : Addr) (h0 : Heap) (n0 : Nat) (Z0 : n0 ≤ h0.size) :
    MetFree l (⟨"java/lang/Record", "<init>", "()V"⟩ : MethodName) (head1 (Jvm.Cond.code (⟨"java/lang/Record", "<init>", "()V"⟩ : MethodName) jdk_30_method_1_code 1 none :: ws) ({ frames := 1, cells := 0, slots := 0, locals := 14 } : Room)) (fun a U => a = #[(.ref x0)] ∧ Z.Warmed39 U.vm ∧ U.heap = h0) (fun _ _ _ _ _ => True) (fun _ U o U' => ∃ v L, o = .returned v ∧ (QP none h0 n0) v U'.heap L ∧ FrameEnd U o U' L ({ frames := 1, cells := 0, slots := 0, locals := 14 } : Room).cells ({ frames := 1, cells := 0, slots := 0, locals := 14 } : Room).slots) := by
  refine MetFree.of_bodySF (plainFor_of_name pn_1) hisR ?_
  intro p e s m args below meth c s₁ Bd hml0 hP hK
  obtain ⟨rfl, hZ, hh⟩ := hP
  have hx := Bd.exec
  have hby := Bd.bytes
  have hml : c.maxLocals = 1 := hml0
  have hown : s.vm.findClass "java/lang/Record" = some m.cls := findClass_of_methodNamed Bd.named
  have hnm := (name_of_methodNamed Bd.named Bd.method).1
  have X0 : Stand p l e ({ frames := 1, cells := 0, slots := 0, locals := 14 } : Room) s m #[(.ref x0)] below meth c s₁ [] 0 0 := Stand.of_body Bd
  have e0 : s₁.heap = h0 := by rw [← hh, Bd.state]; rfl
  have N0 := Fr.nil n0
  show Ends p e below (FE s ({ frames := 1, cells := 0, slots := 0, locals := 14 } : Room).cells ({ frames := 1, cells := 0, slots := 0, locals := 14 } : Room).slots) (QP none h0 n0) (s₁.setTop (entryFrame m #[(.ref x0)] 1))
  rw [ef_rm5 m x0]
  show Ends p e below _ _ (s₁.setTop (mkF m 0 #[.val (.ref x0)] []))
  refine Es.aloadN (q := 1) ?_ X0 hx (hb hby d5_0) rfl rfl rfl
  obtain ⟨T1, X1, e1, st1⟩ := initO X0 hx hZ hown (hw _ (List.mem_of_getElem? (i := 33) rfl)) (hw _ (List.mem_of_getElem? (i := 34) rfl)) (hw _ (List.mem_of_getElem? (i := 35) rfl)) e0 (g := (mkF m 1 #[.val (.ref x0)] [(.ref x0)])) rfl (by rw [hml]; rfl) rfl (hb hby d5_1) (by decide) (W := 0) (by show 2 * 0 + _ ≤ _; exact Nat.le_of_eq rfl) (by decide)
  refine Ends.by ?_ st1
  show Ends p e below _ _ (T1.setTop (mkF m 4 #[.val (.ref x0)] []))
  exact Ends.retV X1 hx Bd.notSynchronized Bd.returns (hb hby d5_4) (by rw [e1]; exact ⟨rfl, N0, rfl⟩) (by decide) (by decide)

theorem d4_0 : decode prog_3_method_1_code 0 = .ok (.aload_n 0, 1) := by decide +kernel
theorem d4_1 : decode prog_3_method_1_code 1 = .ok (.invokespecial 1, 3) := by decide +kernel
theorem pd_1 : parseMethodDescriptor "()V" = some ⟨[], none⟩ := by decide +kernel
theorem d4_4 : decode prog_3_method_1_code 4 = .ok (.aload_n 0, 1) := by decide +kernel
theorem d4_5 : decode prog_3_method_1_code 5 = .ok (.aload_n 1, 1) := by decide +kernel
theorem d4_6 : decode prog_3_method_1_code 6 = .ok (.putfield 7, 3) := by decide +kernel
theorem d4_9 : decode prog_3_method_1_code 9 = .ok (.aload_n 0, 1) := by decide +kernel
theorem d4_10 : decode prog_3_method_1_code 10 = .ok (.aload_n 2, 1) := by decide +kernel
theorem d4_11 : decode prog_3_method_1_code 11 = .ok (.putfield 13, 3) := by decide +kernel
theorem d4_14 : decode prog_3_method_1_code 14 = .ok (.aload_n 0, 1) := by decide +kernel
theorem d4_15 : decode prog_3_method_1_code 15 = .ok (.iload_n 3, 1) := by decide +kernel
theorem d4_16 : decode prog_3_method_1_code 16 = .ok (.putfield 16, 3) := by decide +kernel
theorem d4_19 : decode prog_3_method_1_code 19 = .ok (.aload_n 0, 1) := by decide +kernel
theorem d4_20 : decode prog_3_method_1_code 20 = .ok (.iload 4, 2) := by decide +kernel
theorem d4_22 : decode prog_3_method_1_code 22 = .ok (.putfield 20, 3) := by decide +kernel
theorem d4_25 : decode prog_3_method_1_code 25 = .ok (.aload_n 0, 1) := by decide +kernel
theorem d4_26 : decode prog_3_method_1_code 26 = .ok (.iload 5, 2) := by decide +kernel
theorem d4_28 : decode prog_3_method_1_code 28 = .ok (.putfield 23, 3) := by decide +kernel
theorem d4_31 : decode prog_3_method_1_code 31 = .ok (.return_, 1) := by decide +kernel
theorem ef_rm4 (m : MethodId) (x0 : Addr) (x1 : Addr) (x2 : Addr) (x3 : Int32) (x4 : Int32) (x5 : Int32) : entryFrame m #[(.ref x0), (.ref x1), (.ref x2), (.int x3), (.int x4), (.int x5)] 6 = mkF m 0 #[.val (.ref x0), .val (.ref x1), .val (.ref x2), .val (.int x3), .val (.int x4), .val (.int x5)] [] := by first | (simp [entryFrame, mkF, argsToLocals, Value.category]; done) | rfl
theorem pn_2 : plainName "com/example/tarsier/tarsier/elements/PageElement" = true := by first | (simp [plainName, overriddenIn]; done) | decide +kernel
set_option maxRecDepth 65536 in
set_option maxHeartbeats 40000000 in
theorem rm4 (l : Launch) (Z : State) (a0 : Array Value) (hw : ∀ d ∈ tables_1, d.before a0 Z = true) (ws : List Jvm.Cond) (x0 : Addr) (x1 : Addr) (x2 : Addr) (x3 : Int32) (x4 : Int32) (x5 : Int32) (h0 : Heap) (n0 : Nat) (Z0 : n0 ≤ h0.size) (E0 : Exa Z h0 x0 "com/example/tarsier/tarsier/elements/PageElement") (G0 : Fld Z h0 x0 "com/example/tarsier/tarsier/elements/PageElement" "path" "Ljava/lang/String;" .null) (G1 : Fld Z h0 x0 "com/example/tarsier/tarsier/elements/PageElement" "elementClass" "Ljava/lang/String;" .null) (G2 : Fld Z h0 x0 "com/example/tarsier/tarsier/elements/PageElement" "offset" "I" (.int (0 : Int32))) (G3 : Fld Z h0 x0 "com/example/tarsier/tarsier/elements/PageElement" "length" "I" (.int (0 : Int32))) (G4 : Fld Z h0 x0 "com/example/tarsier/tarsier/elements/PageElement" "linkLength" "I" (.int (0 : Int32))) (g0 : n0 ≤ x0) :
    MetFree l (⟨"com/example/tarsier/tarsier/elements/PageElement", "<init>", "(Ljava/lang/String;Ljava/lang/String;III)V"⟩ : MethodName) (head1 (Jvm.Cond.code (⟨"com/example/tarsier/tarsier/elements/PageElement", "<init>", "(Ljava/lang/String;Ljava/lang/String;III)V"⟩ : MethodName) prog_3_method_1_code 6 none :: ws) ({ frames := 2, cells := 0, slots := 0, locals := 32 } : Room)) (fun a U => a = #[(.ref x0), (.ref x1), (.ref x2), (.int x3), (.int x4), (.int x5)] ∧ Z.Warmed39 U.vm ∧ U.heap = h0) (fun _ _ _ _ _ => True) (fun _ U o U' => ∃ v L, o = .returned v ∧ (QK none h0 [x0] n0 (fun h => PEl Z h x0 x4 x5)) v U'.heap L ∧ FrameEnd U o U' L ({ frames := 2, cells := 0, slots := 0, locals := 32 } : Room).cells ({ frames := 2, cells := 0, slots := 0, locals := 32 } : Room).slots) := by
  refine MetFree.of_bodySF (plainFor_of_name pn_2) hisR ?_
  intro p e s m args below meth c s₁ Bd hml0 hP hK
  obtain ⟨rfl, hZ, hh⟩ := hP
  have hx := Bd.exec
  have hby := Bd.bytes
  have hml : c.maxLocals = 6 := hml0
  have hown : s.vm.findClass "com/example/tarsier/tarsier/elements/PageElement" = some m.cls := findClass_of_methodNamed Bd.named
  have hnm := (name_of_methodNamed Bd.named Bd.method).1
  have X0 : Stand p l e ({ frames := 2, cells := 0, slots := 0, locals := 32 } : Room) s m #[(.ref x0), (.ref x1), (.ref x2), (.int x3), (.int x4), (.int x5)] below meth c s₁ [] 0 0 := Stand.of_body Bd
  have e0 : s₁.heap = h0 := by rw [← hh, Bd.state]; rfl
  have N0 := Fr.nil n0
  show Ends p e below (FE s ({ frames := 2, cells := 0, slots := 0, locals := 32 } : Room).cells ({ frames := 2, cells := 0, slots := 0, locals := 32 } : Room).slots) (QK none h0 [x0] n0 (fun h => PEl Z h x0 x4 x5)) (s₁.setTop (entryFrame m #[(.ref x0), (.ref x1), (.ref x2), (.int x3), (.int x4), (.int x5)] 6))
  rw [ef_rm4 m x0 x1 x2 x3 x4 x5]
  show Ends p e below _ _ (s₁.setTop (mkF m 0 #[.val (.ref x0), .val (.ref x1), .val (.ref x2), .val (.int x3), .val (.int x4), .val (.int x5)] []))
  refine Es.aloadN (q := 1) ?_ X0 hx (hb hby d4_0) rfl rfl rfl
  obtain ⟨v1, _, ⟨T1, L1, k1, n1⟩, -, X1, ⟨Lc1, hQ1, l1, y1, z1⟩, st1⟩ := X0.specialBack hx (y := (⟨"java/lang/Record", "<init>", "()V"⟩ : MethodName)) rfl hown (mvT hZ (hw _ (List.mem_of_getElem? (i := 28) rfl))) (mvT hZ (hw _ (List.mem_of_getElem? (i := 29) rfl))) (mvT hZ (hw _ (List.mem_of_getElem? (i := 32) rfl))) (by decide) (backOf (W := 0) (rm5 l Z a0 hw [] x0 h0 n0 Z0) hZ (hw _ (List.mem_of_getElem? (i := 32) rfl)) (hw _ (List.mem_of_getElem? (i := 31) rfl)) (by decide) (by decide)) (g := (mkF m 1 #[.val (.ref x0), .val (.ref x1), .val (.ref x2), .val (.int x3), .val (.int x4), .val (.int x5)] [(.ref x0)])) rfl (by rw [hml]; rfl) (Steps.refl _) (a := x0) (argsL := []) (rest := []) (lenOf pd_1 rfl) rfl (by show 2 * 0 + _ ≤ _; exact Nat.le_of_eq rfl) (hb hby d4_1) (fun _ _ => ⟨rfl, e0, (by decide : 0 + 0 ≤ _), (by decide : 0 + 0 ≤ _)⟩)
  dsimp only [Pt.U, Pt.locs, Pt.cells, Pt.slots] at X1 l1 y1 z1 st1 hQ1
  subst l1 y1 z1
  obtain ⟨rfl, N1q, e1⟩ := hQ1
  have N1 := Fr.app N0 N1q
  refine Ends.go st1 ?_
  show Ends p e below _ _ (T1.setTop (mkF m 4 #[.val (.ref x0), .val (.ref x1), .val (.ref x2), .val (.int x3), .val (.int x4), .val (.int x5)] []))
  refine Es.aloadN (q := 5) ?_ X1 hx (hb hby d4_4) rfl rfl rfl
  refine Es.aloadN (q := 6) ?_ X1 hx (hb hby d4_5) rfl rfl rfl
  obtain ⟨T2, h2, X2, e2, W2, st2⟩ := putF X1 hx hZ hown (host := "") (Or.inl (hw _ (List.mem_of_getElem? (i := 36) rfl))) Via.refl e1 G0 E0 (Or.inr ⟨(hw _ (List.mem_of_getElem? (i := 37) rfl)), rfl, hnm⟩) (hw _ (List.mem_of_getElem? (i := 14) rfl)) (ty := (.object "java/lang/String")) (by decide) rfl rfl (g := (mkF m 6 #[.val (.ref x0), .val (.ref x1), .val (.ref x2), .val (.int x3), .val (.int x4), .val (.int x5)] [(.ref x1), (.ref x0)])) rfl rfl (hb hby d4_6)
  have Fw2 := Fld.same W2 G0
  have f3 := Exa.wr W2 E0
  have f5 := Fld.other W2 G1 (Or.inr (slot_ne (Or.inr (hw _ (List.mem_of_getElem? (i := 39) rfl))) (Or.inr (hw _ (List.mem_of_getElem? (i := 37) rfl))) (by decide) (t := (.object "java/lang/String")) (t' := (.object "java/lang/String")) (by decide) (by decide)))
  have f6 := Fld.other W2 G2 (Or.inr (slot_ne (Or.inr (hw _ (List.mem_of_getElem? (i := 41) rfl))) (Or.inr (hw _ (List.mem_of_getElem? (i := 37) rfl))) (by decide) (t := .int) (t' := (.object "java/lang/String")) (by decide) (by decide)))
  have f7 := Fld.other W2 G3 (Or.inr (slot_ne (Or.inr (hw _ (List.mem_of_getElem? (i := 43) rfl))) (Or.inr (hw _ (List.mem_of_getElem? (i := 37) rfl))) (by decide) (t := .int) (t' := (.object "java/lang/String")) (by decide) (by decide)))
  have f8 := Fld.other W2 G4 (Or.inr (slot_ne (Or.inr (hw _ (List.mem_of_getElem? (i := 45) rfl))) (Or.inr (hw _ (List.mem_of_getElem? (i := 37) rfl))) (by decide) (t := .int) (t' := (.object "java/lang/String")) (by decide) (by decide)))
  have K9 := (Keep.refl h0 [x0]).wr W2 (Or.inl (by simp))
  have N2 := Fr.snoc X2 N1 g0
  have Zs10 : n0 ≤ h2.size := Nat.le_trans Z0 (Keep.of_wr W2).1
  refine Ends.by ?_ st2
  show Ends p e below _ _ (T2.setTop (mkF m 9 #[.val (.ref x0), .val (.ref x1), .val (.ref x2), .val (.int x3), .val (.int x4), .val (.int x5)] []))
  refine Es.aloadN (q := 10) ?_ X2 hx (hb hby d4_9) rfl rfl rfl
  refine Es.aloadN (q := 11) ?_ X2 hx (hb hby d4_10) rfl rfl rfl
  obtain ⟨T11, h11, X11, e11, W11, st11⟩ := putF X2 hx hZ hown (host := "") (Or.inl (hw _ (List.mem_of_getElem? (i := 38) rfl))) Via.refl e2 f5 f3 (Or.inr ⟨(hw _ (List.mem_of_getElem? (i := 39) rfl)), rfl, hnm⟩) (hw _ (List.mem_of_getElem? (i := 14) rfl)) (ty := (.object "java/lang/String")) (by decide) rfl rfl (g := (mkF m 11 #[.val (.ref x0), .val (.ref x1), .val (.ref x2), .val (.int x3), .val (.int x4), .val (.int x5)] [(.ref x2), (.ref x0)])) rfl rfl (hb hby d4_11)
  have Fw11 := Fld.same W11 f5
  have f12 := Exa.wr W11 f3
  have f13 := Fld.other W11 Fw2 (Or.inr (slot_ne (Or.inr (hw _ (List.mem_of_getElem? (i := 37) rfl))) (Or.inr (hw _ (List.mem_of_getElem? (i := 39) rfl))) (by decide) (t := (.object "java/lang/String")) (t' := (.object "java/lang/String")) (by decide) (by decide)))
  have f15 := Fld.other W11 f6 (Or.inr (slot_ne (Or.inr (hw _ (List.mem_of_getElem? (i := 41) rfl))) (Or.inr (hw _ (List.mem_of_getElem? (i := 39) rfl))) (by decide) (t := .int) (t' := (.object "java/lang/String")) (by decide) (by decide)))
  have f16 := Fld.other W11 f7 (Or.inr (slot_ne (Or.inr (hw _ (List.mem_of_getElem? (i := 43) rfl))) (Or.inr (hw _ (List.mem_of_getElem? (i := 39) rfl))) (by decide) (t := .int) (t' := (.object "java/lang/String")) (by decide) (by decide)))
  have f17 := Fld.other W11 f8 (Or.inr (slot_ne (Or.inr (hw _ (List.mem_of_getElem? (i := 45) rfl))) (Or.inr (hw _ (List.mem_of_getElem? (i := 39) rfl))) (by decide) (t := .int) (t' := (.object "java/lang/String")) (by decide) (by decide)))
  have K18 := K9.wr W11 (Or.inl (by simp))
  have N11 := Fr.snoc X11 N2 g0
  have Zs19 : n0 ≤ h11.size := Nat.le_trans Zs10 (Keep.of_wr W11).1
  refine Ends.by ?_ st11
  show Ends p e below _ _ (T11.setTop (mkF m 14 #[.val (.ref x0), .val (.ref x1), .val (.ref x2), .val (.int x3), .val (.int x4), .val (.int x5)] []))
  refine Es.aloadN (q := 15) ?_ X11 hx (hb hby d4_14) rfl rfl rfl
  refine Es.iloadN (q := 16) ?_ X11 hx (hb hby d4_15) rfl rfl
  obtain ⟨T20, h20, X20, e20, W20, st20⟩ := putF X11 hx hZ hown (host := "") (Or.inl (hw _ (List.mem_of_getElem? (i := 40) rfl))) Via.refl e11 f15 f12 (Or.inr ⟨(hw _ (List.mem_of_getElem? (i := 41) rfl)), rfl, hnm⟩) (hw _ (List.mem_of_getElem? (i := 14) rfl)) (ty := .int) (by decide) rfl rfl (g := (mkF m 16 #[.val (.ref x0), .val (.ref x1), .val (.ref x2), .val (.int x3), .val (.int x4), .val (.int x5)] [(.int x3), (.ref x0)])) rfl rfl (hb hby d4_16)
  have Fw20 := Fld.same W20 f15
  have f21 := Exa.wr W20 f12
  have f22 := Fld.other W20 f13 (Or.inr (slot_ne (Or.inr (hw _ (List.mem_of_getElem? (i := 37) rfl))) (Or.inr (hw _ (List.mem_of_getElem? (i := 41) rfl))) (by decide) (t := (.object "java/lang/String")) (t' := .int) (by decide) (by decide)))
  have f23 := Fld.other W20 Fw11 (Or.inr (slot_ne (Or.inr (hw _ (List.mem_of_getElem? (i := 39) rfl))) (Or.inr (hw _ (List.mem_of_getElem? (i := 41) rfl))) (by decide) (t := (.object "java/lang/String")) (t' := .int) (by decide) (by decide)))
  have f25 := Fld.other W20 f16 (Or.inr (slot_ne (Or.inr (hw _ (List.mem_of_getElem? (i := 43) rfl))) (Or.inr (hw _ (List.mem_of_getElem? (i := 41) rfl))) (by decide) (t := .int) (t' := .int) (by decide) (by decide)))
  have f26 := Fld.other W20 f17 (Or.inr (slot_ne (Or.inr (hw _ (List.mem_of_getElem? (i := 45) rfl))) (Or.inr (hw _ (List.mem_of_getElem? (i := 41) rfl))) (by decide) (t := .int) (t' := .int) (by decide) (by decide)))
  have K27 := K18.wr W20 (Or.inl (by simp))
  have N20 := Fr.snoc X20 N11 g0
  have Zs28 : n0 ≤ h20.size := Nat.le_trans Zs19 (Keep.of_wr W20).1
  refine Ends.by ?_ st20
  show Ends p e below _ _ (T20.setTop (mkF m 19 #[.val (.ref x0), .val (.ref x1), .val (.ref x2), .val (.int x3), .val (.int x4), .val (.int x5)] []))
  refine Es.aloadN (q := 20) ?_ X20 hx (hb hby d4_19) rfl rfl rfl
  refine Es.iload (q := 22) ?_ X20 hx (hb hby d4_20) rfl rfl
  obtain ⟨T29, h29, X29, e29, W29, st29⟩ := putF X20 hx hZ hown (host := "") (Or.inl (hw _ (List.mem_of_getElem? (i := 42) rfl))) Via.refl e20 f25 f21 (Or.inr ⟨(hw _ (List.mem_of_getElem? (i := 43) rfl)), rfl, hnm⟩) (hw _ (List.mem_of_getElem? (i := 14) rfl)) (ty := .int) (by decide) rfl rfl (g := (mkF m 22 #[.val (.ref x0), .val (.ref x1), .val (.ref x2), .val (.int x3), .val (.int x4), .val (.int x5)] [(.int x4), (.ref x0)])) rfl rfl (hb hby d4_22)
  have Fw29 := Fld.same W29 f25
  have f30 := Exa.wr W29 f21
  have f31 := Fld.other W29 f22 (Or.inr (slot_ne (Or.inr (hw _ (List.mem_of_getElem? (i := 37) rfl))) (Or.inr (hw _ (List.mem_of_getElem? (i := 43) rfl))) (by decide) (t := (.object "java/lang/String")) (t' := .int) (by decide) (by decide)))
  have f32 := Fld.other W29 f23 (Or.inr (slot_ne (Or.inr (hw _ (List.mem_of_getElem? (i := 39) rfl))) (Or.inr (hw _ (List.mem_of_getElem? (i := 43) rfl))) (by decide) (t := (.object "java/lang/String")) (t' := .int) (by decide) (by decide)))
  have f33 := Fld.other W29 Fw20 (Or.inr (slot_ne (Or.inr (hw _ (List.mem_of_getElem? (i := 41) rfl))) (Or.inr (hw _ (List.mem_of_getElem? (i := 43) rfl))) (by decide) (t := .int) (t' := .int) (by decide) (by decide)))
  have f35 := Fld.other W29 f26 (Or.inr (slot_ne (Or.inr (hw _ (List.mem_of_getElem? (i := 45) rfl))) (Or.inr (hw _ (List.mem_of_getElem? (i := 43) rfl))) (by decide) (t := .int) (t' := .int) (by decide) (by decide)))
  have K36 := K27.wr W29 (Or.inl (by simp))
  have N29 := Fr.snoc X29 N20 g0
  have Zs37 : n0 ≤ h29.size := Nat.le_trans Zs28 (Keep.of_wr W29).1
  refine Ends.by ?_ st29
  show Ends p e below _ _ (T29.setTop (mkF m 25 #[.val (.ref x0), .val (.ref x1), .val (.ref x2), .val (.int x3), .val (.int x4), .val (.int x5)] []))
  refine Es.aloadN (q := 26) ?_ X29 hx (hb hby d4_25) rfl rfl rfl
  refine Es.iload (q := 28) ?_ X29 hx (hb hby d4_26) rfl rfl
  obtain ⟨T38, h38, X38, e38, W38, st38⟩ := putF X29 hx hZ hown (host := "") (Or.inl (hw _ (List.mem_of_getElem? (i := 44) rfl))) Via.refl e29 f35 f30 (Or.inr ⟨(hw _ (List.mem_of_getElem? (i := 45) rfl)), rfl, hnm⟩) (hw _ (List.mem_of_getElem? (i := 14) rfl)) (ty := .int) (by decide) rfl rfl (g := (mkF m 28 #[.val (.ref x0), .val (.ref x1), .val (.ref x2), .val (.int x3), .val (.int x4), .val (.int x5)] [(.int x5), (.ref x0)])) rfl rfl (hb hby d4_28)
  have Fw38 := Fld.same W38 f35
  have f39 := Exa.wr W38 f30
  have f40 := Fld.other W38 f31 (Or.inr (slot_ne (Or.inr (hw _ (List.mem_of_getElem? (i := 37) rfl))) (Or.inr (hw _ (List.mem_of_getElem? (i := 45) rfl))) (by decide) (t := (.object "java/lang/String")) (t' := .int) (by decide) (by decide)))
  have f41 := Fld.other W38 f32 (Or.inr (slot_ne (Or.inr (hw _ (List.mem_of_getElem? (i := 39) rfl))) (Or.inr (hw _ (List.mem_of_getElem? (i := 45) rfl))) (by decide) (t := (.object "java/lang/String")) (t' := .int) (by decide) (by decide)))
  have f42 := Fld.other W38 f33 (Or.inr (slot_ne (Or.inr (hw _ (List.mem_of_getElem? (i := 41) rfl))) (Or.inr (hw _ (List.mem_of_getElem? (i := 45) rfl))) (by decide) (t := .int) (t' := .int) (by decide) (by decide)))
  have f43 := Fld.other W38 Fw29 (Or.inr (slot_ne (Or.inr (hw _ (List.mem_of_getElem? (i := 43) rfl))) (Or.inr (hw _ (List.mem_of_getElem? (i := 45) rfl))) (by decide) (t := .int) (t' := .int) (by decide) (by decide)))
  have K45 := K36.wr W38 (Or.inl (by simp))
  have N38 := Fr.snoc X38 N29 g0
  have Zs46 : n0 ≤ h38.size := Nat.le_trans Zs37 (Keep.of_wr W38).1
  refine Ends.by ?_ st38
  show Ends p e below _ _ (T38.setTop (mkF m 31 #[.val (.ref x0), .val (.ref x1), .val (.ref x2), .val (.int x3), .val (.int x4), .val (.int x5)] []))
  exact Ends.retV X38 hx Bd.notSynchronized Bd.returns (hb hby d4_31) (by rw [e38]; exact ⟨rfl, N38, K45, ⟨f39, f43, Fw38⟩⟩) (by decide) (by decide)

theorem d7_0 : decode prog_3_method_2_code 0 = .ok (.aload_n 0, 1) := by decide +kernel
theorem d7_1 : decode prog_3_method_2_code 1 = .ok (.getfield 23, 3) := by decide +kernel
theorem d7_4 : decode prog_3_method_2_code 4 = .ok (.i2d, 1) := by decide +kernel
theorem d7_5 : decode prog_3_method_2_code 5 = .ok (.aload_n 0, 1) := by decide +kernel
theorem d7_6 : decode prog_3_method_2_code 6 = .ok (.getfield 20, 3) := by decide +kernel
theorem d7_9 : decode prog_3_method_2_code 9 = .ok (.i2d, 1) := by decide +kernel
theorem d7_10 : decode prog_3_method_2_code 10 = .ok (.ddiv, 1) := by decide +kernel
theorem d7_11 : decode prog_3_method_2_code 11 = .ok (.dreturn, 1) := by decide +kernel
theorem ef_rm7 (m : MethodId) (x0 : Addr) : entryFrame m #[(.ref x0)] 1 = mkF m 0 #[.val (.ref x0)] [] := by first | (simp [entryFrame, mkF, argsToLocals, Value.category]; done) | rfl
set_option maxRecDepth 65536 in
set_option maxHeartbeats 40000000 in
theorem rm7 (l : Launch) (Z : State) (a0 : Array Value) (hw : ∀ d ∈ tables_1, d.before a0 Z = true) (ws : List Jvm.Cond) (x0 : Addr) (nn kk : Int32) (h0 : Heap) (n0 : Nat) (Z0 : n0 ≤ h0.size) (HI : PEl Z h0 x0 nn kk) (hno : Jvm.Free.Fl.NoNaN64 (FP.ddiv (FP.i2d kk) (FP.i2d nn))) :
    MetFree l (⟨"com/example/tarsier/tarsier/elements/PageElement", "linkRatio", "()D"⟩ : MethodName) (head1 (Jvm.Cond.code (⟨"com/example/tarsier/tarsier/elements/PageElement", "linkRatio", "()D"⟩ : MethodName) prog_3_method_2_code 1 (some .double) :: ws) ({ frames := 0, cells := 0, slots := 0, locals := 0 } : Room)) (fun a U => a = #[(.ref x0)] ∧ Z.Warmed39 U.vm ∧ U.heap = h0) (fun _ _ _ _ _ => True) (fun _ U o U' => ∃ v L, o = .returned v ∧ (QP (some (.double (FP.ddiv (FP.i2d kk) (FP.i2d nn)))) h0 n0) v U'.heap L ∧ FrameEnd U o U' L ({ frames := 0, cells := 0, slots := 0, locals := 0 } : Room).cells ({ frames := 0, cells := 0, slots := 0, locals := 0 } : Room).slots) := by
  refine MetFree.of_bodySF (plainFor_of_name pn_2) hisR ?_
  intro p e s m args below meth c s₁ Bd hml0 hP hK
  obtain ⟨rfl, hZ, hh⟩ := hP
  have hx := Bd.exec
  have hby := Bd.bytes
  have hml : c.maxLocals = 1 := hml0
  have hown : s.vm.findClass "com/example/tarsier/tarsier/elements/PageElement" = some m.cls := findClass_of_methodNamed Bd.named
  have hnm := (name_of_methodNamed Bd.named Bd.method).1
  have X0 : Stand p l e ({ frames := 0, cells := 0, slots := 0, locals := 0 } : Room) s m #[(.ref x0)] below meth c s₁ [] 0 0 := Stand.of_body Bd
  have e0 : s₁.heap = h0 := by rw [← hh, Bd.state]; rfl
  have N0 := Fr.nil n0
  show Ends p e below (FE s ({ frames := 0, cells := 0, slots := 0, locals := 0 } : Room).cells ({ frames := 0, cells := 0, slots := 0, locals := 0 } : Room).slots) (QP (some (.double (FP.ddiv (FP.i2d kk) (FP.i2d nn)))) h0 n0) (s₁.setTop (entryFrame m #[(.ref x0)] 1))
  rw [ef_rm7 m x0]
  show Ends p e below _ _ (s₁.setTop (mkF m 0 #[.val (.ref x0)] []))
  obtain ⟨E0, F1, F2⟩ := HI
  refine Es.aloadN (q := 1) ?_ X0 hx (hb hby d7_0) rfl rfl rfl
  obtain ⟨T1, X1, e1, st1⟩ := getF X0 hx hZ hown (host := "") (Or.inl (hw _ (List.mem_of_getElem? (i := 44) rfl))) Via.refl e0 F2 (g := (mkF m 1 #[.val (.ref x0)] [(.ref x0)])) rfl rfl (hb hby d7_1)
  refine Ends.by ?_ st1
  show Ends p e below _ _ (T1.setTop (mkF m 4 #[.val (.ref x0)] [(.int kk)]))
  refine Es.i2d (q := 5) ?_ X1 hx (hb hby d7_4) rfl
  refine Es.aloadN (q := 6) ?_ X1 hx (hb hby d7_5) rfl rfl rfl
  obtain ⟨T2, X2, e2, st2⟩ := getF X1 hx hZ hown (host := "") (Or.inl (hw _ (List.mem_of_getElem? (i := 42) rfl))) Via.refl e1 F1 (g := (mkF m 6 #[.val (.ref x0)] [(.ref x0), (.double (FP.i2d kk))])) rfl rfl (hb hby d7_6)
  refine Ends.by ?_ st2
  show Ends p e below _ _ (T2.setTop (mkF m 9 #[.val (.ref x0)] [(.int nn), (.double (FP.i2d kk))]))
  refine Es.i2d (q := 10) ?_ X2 hx (hb hby d7_9) rfl
  refine Es.ddiv (q := 11) ?_ X2 hx (hb hby d7_10) rfl hno
  exact Ends.retD X2 hx Bd.notSynchronized Bd.returns (hb hby d7_11) (by rw [e2]; exact ⟨rfl, N0, rfl⟩) (by decide) (by decide)

theorem d8_0 : decode method_4_code 0 = .ok (.dconst 0, 1) := by decide +kernel
theorem d8_1 : decode method_4_code 1 = .ok (.dload_n 0, 1) := by decide +kernel
theorem d8_2 : decode method_4_code 2 = .ok (.dcmp .g, 1) := by decide +kernel
theorem d8_3 : decode method_4_code 3 = .ok (.ifCond .gt 9, 3) := by decide +kernel
theorem d8_6 : decode method_4_code 6 = .ok (.dload_n 0, 1) := by decide +kernel
theorem d8_7 : decode method_4_code 7 = .ok (.dconst 1, 1) := by decide +kernel
theorem d8_8 : decode method_4_code 8 = .ok (.dcmp .g, 1) := by decide +kernel
theorem d8_9 : decode method_4_code 9 = .ok (.ifCond .le 5, 3) := by decide +kernel
theorem d8_14 : decode method_4_code 14 = .ok (.dload_n 0, 1) := by decide +kernel
theorem d8_15 : decode method_4_code 15 = .ok (.dconst 0, 1) := by decide +kernel
theorem d8_16 : decode method_4_code 16 = .ok (.dcmp .l, 1) := by decide +kernel
theorem d8_17 : decode method_4_code 17 = .ok (.ifCond .ne 7, 3) := by decide +kernel
theorem d8_20 : decode method_4_code 20 = .ok (.iconst 1, 1) := by decide +kernel
theorem d8_21 : decode method_4_code 21 = .ok (.goto 4, 3) := by decide +kernel
theorem d8_25 : decode method_4_code 25 = .ok (.iload_n 2, 1) := by decide +kernel
theorem d8_26 : decode method_4_code 26 = .ok (.ifCond .ne 7, 3) := by decide +kernel
theorem d8_29 : decode method_4_code 29 = .ok (.iconst 1, 1) := by decide +kernel
theorem d8_30 : decode method_4_code 30 = .ok (.goto 4, 3) := by decide +kernel
theorem d8_34 : decode method_4_code 34 = .ok (.if_icmp .eq 5, 3) := by decide +kernel
theorem d8_39 : decode method_4_code 39 = .ok (.dload_n 0, 1) := by decide +kernel
theorem d8_40 : decode method_4_code 40 = .ok (.dconst 1, 1) := by decide +kernel
theorem d8_41 : decode method_4_code 41 = .ok (.dcmp .l, 1) := by decide +kernel
theorem d8_42 : decode method_4_code 42 = .ok (.ifCond .ne 7, 3) := by decide +kernel
theorem d8_45 : decode method_4_code 45 = .ok (.iconst 1, 1) := by decide +kernel
theorem d8_46 : decode method_4_code 46 = .ok (.goto 4, 3) := by decide +kernel
theorem d8_50 : decode method_4_code 50 = .ok (.iload_n 2, 1) := by decide +kernel
theorem d8_51 : decode method_4_code 51 = .ok (.iload_n 3, 1) := by decide +kernel
theorem d8_52 : decode method_4_code 52 = .ok (.if_icmp .ne 7, 3) := by decide +kernel
theorem d8_55 : decode method_4_code 55 = .ok (.iconst 1, 1) := by decide +kernel
theorem d8_56 : decode method_4_code 56 = .ok (.goto 4, 3) := by decide +kernel
theorem d8_60 : decode method_4_code 60 = .ok (.if_icmp .eq 5, 3) := by decide +kernel
theorem d8_65 : decode method_4_code 65 = .ok (.iconst 1, 1) := by decide +kernel
theorem d8_66 : decode method_4_code 66 = .ok (.ireturn, 1) := by decide +kernel
theorem d8_49 : decode method_4_code 49 = .ok (.iconst 0, 1) := by decide +kernel
theorem d8_59 : decode method_4_code 59 = .ok (.iconst 0, 1) := by decide +kernel
theorem d8_24 : decode method_4_code 24 = .ok (.iconst 0, 1) := by decide +kernel
theorem d8_33 : decode method_4_code 33 = .ok (.iconst 0, 1) := by decide +kernel
theorem ef_rm8 (m : MethodId) (x0 : UInt64) (x1 : Int32) (x2 : Int32) : entryFrame m #[(.double x0), (.int x1), (.int x2)] 4 = mkF m 0 #[.val (.double x0), .second, .val (.int x1), .val (.int x2)] [] := by first | (simp [entryFrame, mkF, argsToLocals, Value.category]; done) | rfl
set_option maxRecDepth 65536 in
set_option maxHeartbeats 40000000 in
theorem rm8 (l : Launch) (Z : State) (a0 : Array Value) (hw : ∀ d ∈ tables_1, d.before a0 Z = true) (ws : List Jvm.Cond) (x0 : UInt64) (x1 : Int32) (x2 : Int32) (uu : Nat) (h0 : Heap) (n0 : Nat) (Z0 : n0 ≤ h0.size) (Hu : IsU uu (FP.Core.val64 x0)) (h1 : uu ≤ 2 ^ 84) (h2 : uu = 0 ↔ x1 = (0 : Int32)) (h3 : uu = 2 ^ 84 ↔ x1 = x2) :
    MetFree l (⟨"com/example/tarsier/tarsier/elements/PageElementLinkRatioPinLaw", "single", "(DII)Z"⟩ : MethodName) (head1 (Jvm.Cond.code (⟨"com/example/tarsier/tarsier/elements/PageElementLinkRatioPinLaw", "single", "(DII)Z"⟩ : MethodName) method_4_code 4 (some .boolean) :: ws) ({ frames := 0, cells := 0, slots := 0, locals := 0 } : Room)) (fun a U => a = #[(.double x0), (.int x1), (.int x2)] ∧ Z.Warmed39 U.vm ∧ U.heap = h0) (fun _ _ _ _ _ => True) (fun _ U o U' => ∃ v L, o = .returned v ∧ (QP (some (.int 1)) h0 n0) v U'.heap L ∧ FrameEnd U o U' L ({ frames := 0, cells := 0, slots := 0, locals := 0 } : Room).cells ({ frames := 0, cells := 0, slots := 0, locals := 0 } : Room).slots) := by
  refine MetFree.of_bodySF (plainFor_of_name pn_0) hisR ?_
  intro p e s m args below meth c s₁ Bd hml0 hP hK
  obtain ⟨rfl, hZ, hh⟩ := hP
  have hx := Bd.exec
  have hby := Bd.bytes
  have hml : c.maxLocals = 4 := hml0
  have hown : s.vm.findClass "com/example/tarsier/tarsier/elements/PageElementLinkRatioPinLaw" = some m.cls := findClass_of_methodNamed Bd.named
  have hnm := (name_of_methodNamed Bd.named Bd.method).1
  have X0 : Stand p l e ({ frames := 0, cells := 0, slots := 0, locals := 0 } : Room) s m #[(.double x0), (.int x1), (.int x2)] below meth c s₁ [] 0 0 := Stand.of_body Bd
  have e0 : s₁.heap = h0 := by rw [← hh, Bd.state]; rfl
  have N0 := Fr.nil n0
  show Ends p e below (FE s ({ frames := 0, cells := 0, slots := 0, locals := 0 } : Room).cells ({ frames := 0, cells := 0, slots := 0, locals := 0 } : Room).slots) (QP (some (.int 1)) h0 n0) (s₁.setTop (entryFrame m #[(.double x0), (.int x1), (.int x2)] 4))
  rw [ef_rm8 m x0 x1 x2]
  show Ends p e below _ _ (s₁.setTop (mkF m 0 #[.val (.double x0), .second, .val (.int x1), .val (.int x2)] []))
  refine Es.dconst0 (q := 1) ?_ X0 hx (hb hby d8_0) rfl
  refine Es.dloadN (q := 2) ?_ X0 hx (hb hby d8_1) rfl rfl
  refine Es.dcmp (q := 3) ?_ X0 hx (hb hby d8_2) rfl (dcmp_is .g is_zero Hu)
  refine Es.ifNo (q := 6) ?_ X0 hx (hb hby d8_3) rfl (XT.i0_gt_f (fun q => absurd (cmpI_gt.mp q) (Nat.not_lt_zero _) : ¬ ((0 : Int32) < (cmpI 0 uu))))
  refine Es.dloadN (q := 7) ?_ X0 hx (hb hby d8_6) rfl rfl
  refine Es.dconst1 (q := 8) ?_ X0 hx (hb hby d8_7) rfl
  refine Es.dcmp (q := 9) ?_ X0 hx (hb hby d8_8) rfl (dcmp_is .g Hu is_one)
  refine Es.ifYes (q := 14) ?_ X0 hx (hb hby d8_9) (XT.i0_le_t (fun q => absurd (cmpI_gt.mp q) (Nat.not_lt.mpr h1) : ¬ ((0 : Int32) < (cmpI uu (2 ^ 84))))) (by decide) (by decide)
  refine Es.dloadN (q := 15) ?_ X0 hx (hb hby d8_14) rfl rfl
  refine Es.dconst0 (q := 16) ?_ X0 hx (hb hby d8_15) rfl
  refine Es.dcmp (q := 17) ?_ X0 hx (hb hby d8_16) rfl (dcmp_is .l Hu is_zero)
  by_cases hc1 : (cmpI uu 0) = (0 : Int32)
  · refine Es.ifNo (q := 20) ?_ X0 hx (hb hby d8_17) rfl (XT.i0_ne_f hc1)
    refine Es.iconst (q := 21) (z := (1 : Int32)) ?_ X0 hx (hb hby d8_20) rfl rfl
    refine Es.goto (q := 25) ?_ X0 hx (hb hby d8_21) (by decide) (by decide)
    refine Es.iloadN (q := 26) ?_ X0 hx (hb hby d8_25) rfl rfl
    refine Es.ifNo (q := 29) ?_ X0 hx (hb hby d8_26) rfl (XT.i0_ne_f (h2.mp (cmpI_eq.mp hc1) : x1 = (0 : Int32)))
    refine Es.iconst (q := 30) (z := (1 : Int32)) ?_ X0 hx (hb hby d8_29) rfl rfl
    refine Es.goto (q := 34) ?_ X0 hx (hb hby d8_30) (by decide) (by decide)
    refine Es.icmpYes (q := 39) ?_ X0 hx (hb hby d8_34) (XT.ii_eq_t (by decide)) (by decide) (by decide)
    refine Es.dloadN (q := 40) ?_ X0 hx (hb hby d8_39) rfl rfl
    refine Es.dconst1 (q := 41) ?_ X0 hx (hb hby d8_40) rfl
    refine Es.dcmp (q := 42) ?_ X0 hx (hb hby d8_41) rfl (dcmp_is .l Hu is_one)
    by_cases hc2 : (cmpI uu (2 ^ 84)) = (0 : Int32)
    · refine Es.ifNo (q := 45) ?_ X0 hx (hb hby d8_42) rfl (XT.i0_ne_f hc2)
      refine Es.iconst (q := 46) (z := (1 : Int32)) ?_ X0 hx (hb hby d8_45) rfl rfl
      refine Es.goto (q := 50) ?_ X0 hx (hb hby d8_46) (by decide) (by decide)
      refine Es.iloadN (q := 51) ?_ X0 hx (hb hby d8_50) rfl rfl
      refine Es.iloadN (q := 52) ?_ X0 hx (hb hby d8_51) rfl rfl
      refine Es.icmpNo (q := 55) ?_ X0 hx (hb hby d8_52) rfl (XT.ii_ne_f (h3.mp (cmpI_eq.mp hc2) : x1 = x2))
      refine Es.iconst (q := 56) (z := (1 : Int32)) ?_ X0 hx (hb hby d8_55) rfl rfl
      refine Es.goto (q := 60) ?_ X0 hx (hb hby d8_56) (by decide) (by decide)
      refine Es.icmpYes (q := 65) ?_ X0 hx (hb hby d8_60) (XT.ii_eq_t (by decide)) (by decide) (by decide)
      refine Es.iconst (q := 66) (z := (1 : Int32)) ?_ X0 hx (hb hby d8_65) rfl rfl
      exact Ends.retN X0 hx Bd.notSynchronized Bd.returns (t := .boolean) (by simp) (hb hby d8_66) (w := 1) rfl (by rw [e0]; exact ⟨rfl, N0, rfl⟩) (by decide) (by decide)
    · refine Es.ifYes (q := 49) ?_ X0 hx (hb hby d8_42) (XT.i0_ne_t hc2) (by decide) (by decide)
      refine Es.iconst (q := 50) (z := (0 : Int32)) ?_ X0 hx (hb hby d8_49) rfl rfl
      refine Es.iloadN (q := 51) ?_ X0 hx (hb hby d8_50) rfl rfl
      refine Es.iloadN (q := 52) ?_ X0 hx (hb hby d8_51) rfl rfl
      refine Es.icmpYes (q := 59) ?_ X0 hx (hb hby d8_52) (XT.ii_ne_t (fun q => hc2 (cmpI_eq.mpr (h3.mpr q)) : ¬ (x1 = x2))) (by decide) (by decide)
      refine Es.iconst (q := 60) (z := (0 : Int32)) ?_ X0 hx (hb hby d8_59) rfl rfl
      refine Es.icmpYes (q := 65) ?_ X0 hx (hb hby d8_60) (XT.ii_eq_t (by decide)) (by decide) (by decide)
      refine Es.iconst (q := 66) (z := (1 : Int32)) ?_ X0 hx (hb hby d8_65) rfl rfl
      exact Ends.retN X0 hx Bd.notSynchronized Bd.returns (t := .boolean) (by simp) (hb hby d8_66) (w := 1) rfl (by rw [e0]; exact ⟨rfl, N0, rfl⟩) (by decide) (by decide)
  · refine Es.ifYes (q := 24) ?_ X0 hx (hb hby d8_17) (XT.i0_ne_t hc1) (by decide) (by decide)
    refine Es.iconst (q := 25) (z := (0 : Int32)) ?_ X0 hx (hb hby d8_24) rfl rfl
    refine Es.iloadN (q := 26) ?_ X0 hx (hb hby d8_25) rfl rfl
    refine Es.ifYes (q := 33) ?_ X0 hx (hb hby d8_26) (XT.i0_ne_t (fun q => hc1 (cmpI_eq.mpr (h2.mpr q)) : ¬ (x1 = (0 : Int32)))) (by decide) (by decide)
    refine Es.iconst (q := 34) (z := (0 : Int32)) ?_ X0 hx (hb hby d8_33) rfl rfl
    refine Es.icmpYes (q := 39) ?_ X0 hx (hb hby d8_34) (XT.ii_eq_t (by decide)) (by decide) (by decide)
    refine Es.dloadN (q := 40) ?_ X0 hx (hb hby d8_39) rfl rfl
    refine Es.dconst1 (q := 41) ?_ X0 hx (hb hby d8_40) rfl
    refine Es.dcmp (q := 42) ?_ X0 hx (hb hby d8_41) rfl (dcmp_is .l Hu is_one)
    by_cases hc3 : (cmpI uu (2 ^ 84)) = (0 : Int32)
    · refine Es.ifNo (q := 45) ?_ X0 hx (hb hby d8_42) rfl (XT.i0_ne_f hc3)
      refine Es.iconst (q := 46) (z := (1 : Int32)) ?_ X0 hx (hb hby d8_45) rfl rfl
      refine Es.goto (q := 50) ?_ X0 hx (hb hby d8_46) (by decide) (by decide)
      refine Es.iloadN (q := 51) ?_ X0 hx (hb hby d8_50) rfl rfl
      refine Es.iloadN (q := 52) ?_ X0 hx (hb hby d8_51) rfl rfl
      refine Es.icmpNo (q := 55) ?_ X0 hx (hb hby d8_52) rfl (XT.ii_ne_f (h3.mp (cmpI_eq.mp hc3) : x1 = x2))
      refine Es.iconst (q := 56) (z := (1 : Int32)) ?_ X0 hx (hb hby d8_55) rfl rfl
      refine Es.goto (q := 60) ?_ X0 hx (hb hby d8_56) (by decide) (by decide)
      refine Es.icmpYes (q := 65) ?_ X0 hx (hb hby d8_60) (XT.ii_eq_t (by decide)) (by decide) (by decide)
      refine Es.iconst (q := 66) (z := (1 : Int32)) ?_ X0 hx (hb hby d8_65) rfl rfl
      exact Ends.retN X0 hx Bd.notSynchronized Bd.returns (t := .boolean) (by simp) (hb hby d8_66) (w := 1) rfl (by rw [e0]; exact ⟨rfl, N0, rfl⟩) (by decide) (by decide)
    · refine Es.ifYes (q := 49) ?_ X0 hx (hb hby d8_42) (XT.i0_ne_t hc3) (by decide) (by decide)
      refine Es.iconst (q := 50) (z := (0 : Int32)) ?_ X0 hx (hb hby d8_49) rfl rfl
      refine Es.iloadN (q := 51) ?_ X0 hx (hb hby d8_50) rfl rfl
      refine Es.iloadN (q := 52) ?_ X0 hx (hb hby d8_51) rfl rfl
      refine Es.icmpYes (q := 59) ?_ X0 hx (hb hby d8_52) (XT.ii_ne_t (fun q => hc3 (cmpI_eq.mpr (h3.mpr q)) : ¬ (x1 = x2))) (by decide) (by decide)
      refine Es.iconst (q := 60) (z := (0 : Int32)) ?_ X0 hx (hb hby d8_59) rfl rfl
      refine Es.icmpYes (q := 65) ?_ X0 hx (hb hby d8_60) (XT.ii_eq_t (by decide)) (by decide) (by decide)
      refine Es.iconst (q := 66) (z := (1 : Int32)) ?_ X0 hx (hb hby d8_65) rfl rfl
      exact Ends.retN X0 hx Bd.notSynchronized Bd.returns (t := .boolean) (by simp) (hb hby d8_66) (w := 1) rfl (by rw [e0]; exact ⟨rfl, N0, rfl⟩) (by decide) (by decide)

theorem pd_2 : parseMethodDescriptor "(IZ)I" = some ⟨[.int, .boolean], some .int⟩ := by decide +kernel
theorem pd_3 : parseMethodDescriptor "(Ljava/lang/String;Ljava/lang/String;III)V" = some ⟨[(.object "java/lang/String"), (.object "java/lang/String"), .int, .int, .int], none⟩ := by decide +kernel
theorem pd_4 : parseMethodDescriptor "()D" = some ⟨[], some .double⟩ := by decide +kernel
theorem pd_5 : parseMethodDescriptor "(DII)Z" = some ⟨[.double, .int, .int], some .boolean⟩ := by decide +kernel
set_option maxRecDepth 65536 in
set_option maxHeartbeats 40000000 in
theorem sg0_96 {p : Program} {l : Launch} {e : Env} {s : State} {m : MethodId} {args : Array Value} {below : List Frame} {meth : Method} {c : Code} {Z : State} {a0 : Array Value} {vm0 : Vm} {kS : Nat} (hx : p.tables.exec = Jvm.exec) (hZ : Z.Warmed39 vm0) (hw : ∀ d ∈ tables_1, d.before a0 Z = true) (hby : c.code = code) (hml : c.maxLocals = 20) (hown : vm0.findClass "com/example/tarsier/tarsier/elements/PageElementLinkRatioPinLaw" = some m.cls) (hlk : meth.locks = false) (hret : meth.sig.returnType = some .boolean) {T : State} {locs : List Loc} {h : Heap} {n0 : Nat} (x0 : Int32) (x1 : Int32) (x2 : Int32) (x3 : Int32) (x4 : Int32) (sm : Int32) (NA : Nat) (KA : Nat) (NB : Nat) (KB : Nat) (na : Int32) (ka : Int32) (nb : Int32) (kb : Int32) (ra : UInt64) (rb : UInt64) (b6 : Addr) (b30 : Addr) (hS : s.Since vm0 kS) (hk : kS ≤ h.size) (X : Stand p l e room_1 (s.setVm vm0) m args below meth c T locs 10 42) (eT : T.heap = h) (N : Fr n0 locs) (Zs : n0 ≤ h.size) (q0 : PEl Z h b6 na ka) (q1 : PEl Z h b30 nb kb) (ne0_ : b6 ≠ b30) (old0_ : n0 ≤ b6) (old1_ : n0 ≤ b30) (RA : Rt KA NA ka na) (RB : Rt KB NB kb nb) (h2a : ¬ sm = (0 : Int32) → NA < 2 ^ 20) (h2b : ¬ sm = (0 : Int32) → NB < 2 ^ 20) (IA : IsU (UQ KA NA) (FP.Core.val64 ra)) (IB : IsU (UQ KB NB) (FP.Core.val64 rb)) :
    Ends p e below (FW s room_1.cells room_1.slots) (QL n0) (T.setTop (mkF m 96 #[.val (.int x0), .val (.int x1), .val (.int x2), .val (.int x3), .val (.int x4), .val (.int sm), .val (.int na), .val (.int ka), .val (.int nb), .val (.int kb), .val (.ref b6), .val (.ref b30), .val (.double ra), .second, .val (.double rb), .second, .unset, .unset, .unset, .unset] [])) := by
  show Ends p e below _ _ (T.setTop (mkF m 96 #[.val (.int x0), .val (.int x1), .val (.int x2), .val (.int x3), .val (.int x4), .val (.int sm), .val (.int na), .val (.int ka), .val (.int nb), .val (.int kb), .val (.ref b6), .val (.ref b30), .val (.double ra), .second, .val (.double rb), .second, .unset, .unset, .unset, .unset] []))
  refine Es.dload (q := 98) ?_ X hx (hb hby at_96) rfl rfl
  refine Es.iload (q := 100) ?_ X hx (hb hby at_98) rfl rfl
  refine Es.iload (q := 102) ?_ X hx (hb hby at_100) rfl rfl
  obtain ⟨v61, _, ⟨T61, L61, k61, n61⟩, -, X61, ⟨Lc61, hQ61, l61, y61, z61⟩, st61⟩ := Jvm.LawKit.callS X hx (y := (⟨"com/example/tarsier/tarsier/elements/PageElementLinkRatioPinLaw", "single", "(DII)Z"⟩ : MethodName)) hown (mvT hZ (hw _ (List.mem_of_getElem? (i := 53) rfl))) (mvT hZ (hw _ (List.mem_of_getElem? (i := 54) rfl))) (mvT hZ (hw _ (List.mem_of_getElem? (i := 2) rfl))) (mvT hZ (hw _ (List.mem_of_getElem? (i := 55) rfl))) (by decide) (backOf (W := 0) (rm8 l Z a0 hw [] ra ka na (UQ KA NA) h n0 Zs IA RA.le RA.zero RA.one) hZ (hw _ (List.mem_of_getElem? (i := 55) rfl)) (hw _ (List.mem_of_getElem? (i := 2) rfl)) (by decide) (by decide)) (g := (mkF m 102 #[.val (.int x0), .val (.int x1), .val (.int x2), .val (.int x3), .val (.int x4), .val (.int sm), .val (.int na), .val (.int ka), .val (.int nb), .val (.int kb), .val (.ref b6), .val (.ref b30), .val (.double ra), .second, .val (.double rb), .second, .unset, .unset, .unset, .unset] [(.int na), (.int ka), (.double ra)])) rfl (by rw [hml]; rfl) (argsL := [(.double ra), (.int ka), (.int na)]) (rest := []) (lenOf pd_5 rfl) rfl (by show 2 * 0 + _ ≤ _; exact Nat.le_of_eq rfl) (hb hby at_102) (fun _ _ => ⟨rfl, eT, (by decide : 10 + 0 ≤ _), (by decide : 42 + 0 ≤ _)⟩)
  dsimp only [Pt.U, Pt.locs, Pt.cells, Pt.slots] at X61 l61 y61 z61 st61 hQ61
  subst l61 y61 z61
  obtain ⟨rfl, N61q, e61⟩ := hQ61
  have N61 := Fr.app N N61q
  refine Ends.by ?_ st61
  show Ends p e below _ _ (T61.setTop (mkF m 105 #[.val (.int x0), .val (.int x1), .val (.int x2), .val (.int x3), .val (.int x4), .val (.int sm), .val (.int na), .val (.int ka), .val (.int nb), .val (.int kb), .val (.ref b6), .val (.ref b30), .val (.double ra), .second, .val (.double rb), .second, .unset, .unset, .unset, .unset] [(.int (1 : Int32))]))
  refine Es.ifNo (q := 108) ?_ X61 hx (hb hby at_105) rfl (XT.i0_eq_f (by decide))
  refine Es.dload (q := 110) ?_ X61 hx (hb hby at_108) rfl rfl
  refine Es.iload (q := 112) ?_ X61 hx (hb hby at_110) rfl rfl
  refine Es.iload (q := 114) ?_ X61 hx (hb hby at_112) rfl rfl
  obtain ⟨v62, _, ⟨T62, L62, k62, n62⟩, -, X62, ⟨Lc62, hQ62, l62, y62, z62⟩, st62⟩ := Jvm.LawKit.callS X61 hx (y := (⟨"com/example/tarsier/tarsier/elements/PageElementLinkRatioPinLaw", "single", "(DII)Z"⟩ : MethodName)) hown (mvT hZ (hw _ (List.mem_of_getElem? (i := 53) rfl))) (mvT hZ (hw _ (List.mem_of_getElem? (i := 54) rfl))) (mvT hZ (hw _ (List.mem_of_getElem? (i := 2) rfl))) (mvT hZ (hw _ (List.mem_of_getElem? (i := 55) rfl))) (by decide) (backOf (W := 0) (rm8 l Z a0 hw [] rb kb nb (UQ KB NB) h n0 Zs IB RB.le RB.zero RB.one) hZ (hw _ (List.mem_of_getElem? (i := 55) rfl)) (hw _ (List.mem_of_getElem? (i := 2) rfl)) (by decide) (by decide)) (g := (mkF m 114 #[.val (.int x0), .val (.int x1), .val (.int x2), .val (.int x3), .val (.int x4), .val (.int sm), .val (.int na), .val (.int ka), .val (.int nb), .val (.int kb), .val (.ref b6), .val (.ref b30), .val (.double ra), .second, .val (.double rb), .second, .unset, .unset, .unset, .unset] [(.int nb), (.int kb), (.double rb)])) rfl (by rw [hml]; rfl) (argsL := [(.double rb), (.int kb), (.int nb)]) (rest := []) (lenOf pd_5 rfl) rfl (by show 2 * 0 + _ ≤ _; exact Nat.le_of_eq rfl) (hb hby at_114) (fun _ _ => ⟨rfl, e61, (by decide : 10 + 0 ≤ _), (by decide : 42 + 0 ≤ _)⟩)
  dsimp only [Pt.U, Pt.locs, Pt.cells, Pt.slots] at X62 l62 y62 z62 st62 hQ62
  subst l62 y62 z62
  obtain ⟨rfl, N62q, e62⟩ := hQ62
  have N62 := Fr.app N61 N62q
  refine Ends.by ?_ st62
  show Ends p e below _ _ (T62.setTop (mkF m 117 #[.val (.int x0), .val (.int x1), .val (.int x2), .val (.int x3), .val (.int x4), .val (.int sm), .val (.int na), .val (.int ka), .val (.int nb), .val (.int kb), .val (.ref b6), .val (.ref b30), .val (.double ra), .second, .val (.double rb), .second, .unset, .unset, .unset, .unset] [(.int (1 : Int32))]))
  refine Es.ifYes (q := 122) ?_ X62 hx (hb hby at_117) (XT.i0_ne_t (by decide)) (by decide) (by decide)
  refine Es.iload (q := 124) ?_ X62 hx (hb hby at_122) rfl rfl
  refine Es.i2l (q := 125) ?_ X62 hx (hb hby at_124) rfl
  refine Es.iload (q := 127) ?_ X62 hx (hb hby at_125) rfl rfl
  refine Es.i2l (q := 128) ?_ X62 hx (hb hby at_127) rfl
  refine Es.lmul (q := 129) ?_ X62 hx (hb hby at_128) rfl
  refine Es.lstore (q := 131) (l' := #[.val (.int x0), .val (.int x1), .val (.int x2), .val (.int x3), .val (.int x4), .val (.int sm), .val (.int na), .val (.int ka), .val (.int nb), .val (.int kb), .val (.ref b6), .val (.ref b30), .val (.double ra), .second, .val (.double rb), .second, .val (.long ((ka.toInt64) * (nb.toInt64))), .second, .unset, .unset]) ?_ X62 hx (hb hby at_129) rfl rfl
  refine Es.iload (q := 133) ?_ X62 hx (hb hby at_131) rfl rfl
  refine Es.i2l (q := 134) ?_ X62 hx (hb hby at_133) rfl
  refine Es.iload (q := 136) ?_ X62 hx (hb hby at_134) rfl rfl
  refine Es.i2l (q := 137) ?_ X62 hx (hb hby at_136) rfl
  refine Es.lmul (q := 138) ?_ X62 hx (hb hby at_137) rfl
  refine Es.lstore (q := 140) (l' := #[.val (.int x0), .val (.int x1), .val (.int x2), .val (.int x3), .val (.int x4), .val (.int sm), .val (.int na), .val (.int ka), .val (.int nb), .val (.int kb), .val (.ref b6), .val (.ref b30), .val (.double ra), .second, .val (.double rb), .second, .val (.long ((ka.toInt64) * (nb.toInt64))), .second, .val (.long ((kb.toInt64) * (na.toInt64))), .second]) ?_ X62 hx (hb hby at_138) rfl rfl
  refine Es.lload (q := 142) ?_ X62 hx (hb hby at_140) rfl rfl
  refine Es.lload (q := 144) ?_ X62 hx (hb hby at_142) rfl rfl
  refine Es.lcmp (q := 145) ?_ X62 hx (hb hby at_144) rfl
  by_cases hc63 : ((ka.toInt64) * (nb.toInt64)) = ((kb.toInt64) * (na.toInt64))
  · refine Es.ifNo (q := 148) ?_ X62 hx (hb hby at_145) rfl (XT.ll_ne_f hc63)
    refine Es.dload (q := 150) ?_ X62 hx (hb hby at_148) rfl rfl
    refine Es.dload (q := 152) ?_ X62 hx (hb hby at_150) rfl rfl
    refine Es.dcmp (q := 153) ?_ X62 hx (hb hby at_152) rfl (dcmp_is .l IA IB)
    refine Es.ifNo (q := 156) ?_ X62 hx (hb hby at_153) rfl (XT.i0_ne_f (law_eq RA RB hc63 : (cmpI (UQ KA NA) (UQ KB NB)) = (0 : Int32)))
    refine Es.iconst (q := 157) (z := (1 : Int32)) ?_ X62 hx (hb hby at_156) rfl rfl
    refine Es.goto (q := 161) ?_ X62 hx (hb hby at_157) (by decide) (by decide)
    exact Ends.retNW X62 hS (by rw [e62]; exact hk) hx hlk hret (t := .boolean) (by simp) (hb hby at_161) (w := 1) rfl ⟨rfl, N62⟩ (by decide) (by decide)
  · refine Es.ifYes (q := 162) ?_ X62 hx (hb hby at_145) (XT.ll_ne_t hc63) (by decide) (by decide)
    refine Es.lload (q := 164) ?_ X62 hx (hb hby at_162) rfl rfl
    refine Es.lload (q := 166) ?_ X62 hx (hb hby at_164) rfl rfl
    refine Es.lcmp (q := 167) ?_ X62 hx (hb hby at_166) rfl
    by_cases hc64 : ((ka.toInt64) * (nb.toInt64)) < ((kb.toInt64) * (na.toInt64))
    · refine Es.ifNo (q := 170) ?_ X62 hx (hb hby at_167) rfl (XT.ll_ge_f hc64)
      refine Es.iload (q := 172) ?_ X62 hx (hb hby at_170) rfl rfl
      by_cases hc65 : sm = (0 : Int32)
      · refine Es.ifYes (q := 189) ?_ X62 hx (hb hby at_172) (XT.i0_eq_t hc65) (by decide) (by decide)
        refine Es.dload (q := 191) ?_ X62 hx (hb hby at_189) rfl rfl
        refine Es.dload (q := 193) ?_ X62 hx (hb hby at_191) rfl rfl
        refine Es.dcmp (q := 194) ?_ X62 hx (hb hby at_193) rfl (dcmp_is .g IA IB)
        refine Es.ifNo (q := 197) ?_ X62 hx (hb hby at_194) rfl (XT.i0_gt_f (law_le RA RB hc64 : ¬ ((0 : Int32) < (cmpI (UQ KA NA) (UQ KB NB)))))
        refine Es.iconst (q := 198) (z := (1 : Int32)) ?_ X62 hx (hb hby at_197) rfl rfl
        refine Es.goto (q := 202) ?_ X62 hx (hb hby at_198) (by decide) (by decide)
        exact Ends.retNW X62 hS (by rw [e62]; exact hk) hx hlk hret (t := .boolean) (by simp) (hb hby at_202) (w := 1) rfl ⟨rfl, N62⟩ (by decide) (by decide)
      · refine Es.ifNo (q := 175) ?_ X62 hx (hb hby at_172) rfl (XT.i0_eq_f hc65)
        refine Es.dload (q := 177) ?_ X62 hx (hb hby at_175) rfl rfl
        refine Es.dload (q := 179) ?_ X62 hx (hb hby at_177) rfl rfl
        refine Es.dcmp (q := 180) ?_ X62 hx (hb hby at_179) rfl (dcmp_is .g IA IB)
        refine Es.ifNo (q := 183) ?_ X62 hx (hb hby at_180) rfl (XT.i0_ge_f (law_lt RA RB (h2a hc65) (h2b hc65) hc64 : (cmpI (UQ KA NA) (UQ KB NB)) < (0 : Int32)))
        refine Es.iconst (q := 184) (z := (1 : Int32)) ?_ X62 hx (hb hby at_183) rfl rfl
        refine Es.goto (q := 188) ?_ X62 hx (hb hby at_184) (by decide) (by decide)
        exact Ends.retNW X62 hS (by rw [e62]; exact hk) hx hlk hret (t := .boolean) (by simp) (hb hby at_188) (w := 1) rfl ⟨rfl, N62⟩ (by decide) (by decide)
    · refine Es.ifYes (q := 203) ?_ X62 hx (hb hby at_167) (XT.ll_ge_t hc64) (by decide) (by decide)
      refine Es.iload (q := 205) ?_ X62 hx (hb hby at_203) rfl rfl
      by_cases hc66 : sm = (0 : Int32)
      · refine Es.ifYes (q := 222) ?_ X62 hx (hb hby at_205) (XT.i0_eq_t hc66) (by decide) (by decide)
        refine Es.dload (q := 224) ?_ X62 hx (hb hby at_222) rfl rfl
        refine Es.dload (q := 226) ?_ X62 hx (hb hby at_224) rfl rfl
        refine Es.dcmp (q := 227) ?_ X62 hx (hb hby at_226) rfl (dcmp_is .l IA IB)
        refine Es.ifNo (q := 230) ?_ X62 hx (hb hby at_227) rfl (XT.i0_lt_f (law_ge RA RB hc64 : ¬ ((cmpI (UQ KA NA) (UQ KB NB)) < (0 : Int32))))
        refine Es.iconst (q := 231) (z := (1 : Int32)) ?_ X62 hx (hb hby at_230) rfl rfl
        refine Es.goto (q := 235) ?_ X62 hx (hb hby at_231) (by decide) (by decide)
        exact Ends.retNW X62 hS (by rw [e62]; exact hk) hx hlk hret (t := .boolean) (by simp) (hb hby at_235) (w := 1) rfl ⟨rfl, N62⟩ (by decide) (by decide)
      · refine Es.ifNo (q := 208) ?_ X62 hx (hb hby at_205) rfl (XT.i0_eq_f hc66)
        refine Es.dload (q := 210) ?_ X62 hx (hb hby at_208) rfl rfl
        refine Es.dload (q := 212) ?_ X62 hx (hb hby at_210) rfl rfl
        refine Es.dcmp (q := 213) ?_ X62 hx (hb hby at_212) rfl (dcmp_is .l IA IB)
        refine Es.ifNo (q := 216) ?_ X62 hx (hb hby at_213) rfl (XT.i0_le_f (law_gt RA RB (h2a hc66) (h2b hc66) hc63 hc64 : (0 : Int32) < (cmpI (UQ KA NA) (UQ KB NB))))
        refine Es.iconst (q := 217) (z := (1 : Int32)) ?_ X62 hx (hb hby at_216) rfl rfl
        refine Es.goto (q := 221) ?_ X62 hx (hb hby at_217) (by decide) (by decide)
        exact Ends.retNW X62 hS (by rw [e62]; exact hk) hx hlk hret (t := .boolean) (by simp) (hb hby at_221) (w := 1) rfl ⟨rfl, N62⟩ (by decide) (by decide)

set_option maxRecDepth 65536 in
set_option maxHeartbeats 40000000 in
theorem sg0_82 {p : Program} {l : Launch} {e : Env} {s : State} {m : MethodId} {args : Array Value} {below : List Frame} {meth : Method} {c : Code} {Z : State} {a0 : Array Value} {vm0 : Vm} {kS : Nat} (hx : p.tables.exec = Jvm.exec) (hZ : Z.Warmed39 vm0) (hw : ∀ d ∈ tables_1, d.before a0 Z = true) (hby : c.code = code) (hml : c.maxLocals = 20) (hown : vm0.findClass "com/example/tarsier/tarsier/elements/PageElementLinkRatioPinLaw" = some m.cls) (hlk : meth.locks = false) (hret : meth.sig.returnType = some .boolean) {T : State} {locs : List Loc} {h : Heap} {n0 : Nat} (x0 : Int32) (x1 : Int32) (x2 : Int32) (x3 : Int32) (x4 : Int32) (sm : Int32) (NA : Nat) (KA : Nat) (NB : Nat) (KB : Nat) (na : Int32) (ka : Int32) (nb : Int32) (kb : Int32) (b6 : Addr) (b30 : Addr) (hS : s.Since vm0 kS) (hk : kS ≤ h.size) (X : Stand p l e room_1 (s.setVm vm0) m args below meth c T locs 10 42) (eT : T.heap = h) (N : Fr n0 locs) (Zs : n0 ≤ h.size) (q0 : PEl Z h b6 na ka) (q1 : PEl Z h b30 nb kb) (ne0_ : b6 ≠ b30) (old0_ : n0 ≤ b6) (old1_ : n0 ≤ b30) (RA : Rt KA NA ka na) (RB : Rt KB NB kb nb) (h2a : ¬ sm = (0 : Int32) → NA < 2 ^ 20) (h2b : ¬ sm = (0 : Int32) → NB < 2 ^ 20) :
    Ends p e below (FW s room_1.cells room_1.slots) (QL n0) (T.setTop (mkF m 82 #[.val (.int x0), .val (.int x1), .val (.int x2), .val (.int x3), .val (.int x4), .val (.int sm), .val (.int na), .val (.int ka), .val (.int nb), .val (.int kb), .val (.ref b6), .val (.ref b30), .unset, .unset, .unset, .unset, .unset, .unset, .unset, .unset] [])) := by
  show Ends p e below _ _ (T.setTop (mkF m 82 #[.val (.int x0), .val (.int x1), .val (.int x2), .val (.int x3), .val (.int x4), .val (.int sm), .val (.int na), .val (.int ka), .val (.int nb), .val (.int kb), .val (.ref b6), .val (.ref b30), .unset, .unset, .unset, .unset, .unset, .unset, .unset, .unset] []))
  refine Es.aload (q := 84) ?_ X hx (hb hby at_82) rfl rfl rfl
  obtain ⟨cq59, kq59, q59a, q59b, q59c⟩ := isOf (s := s.setVm vm0) hZ eT q0.1
  obtain ⟨v59, _, ⟨T59, L59, k59, n59⟩, -, X59, ⟨Lc59, hQ59, l59, y59, z59⟩, st59⟩ := X.virtualBack hx (y := (⟨"com/example/tarsier/tarsier/elements/PageElement", "linkRatio", "()D"⟩ : MethodName)) (z := (⟨"com/example/tarsier/tarsier/elements/PageElement", "linkRatio", "()D"⟩ : MethodName)) hown (mvT hZ (hw _ (List.mem_of_getElem? (i := 48) rfl))) (mvT hZ (hw _ (List.mem_of_getElem? (i := 49) rfl))) (notFace_of_selects (args := #[]) (mvT hZ (hw _ (List.mem_of_getElem? (i := 51) rfl)))) (mvT hZ (hw _ (List.mem_of_getElem? (i := 51) rfl))) (mvT hZ (hw _ (List.mem_of_getElem? (i := 50) rfl))) (by decide) (backOf (W := 0) (rm7 l Z a0 hw [] b6 na ka h n0 Zs q0 (noNaN_is RA.is)) hZ (hw _ (List.mem_of_getElem? (i := 52) rfl)) (hw _ (List.mem_of_getElem? (i := 15) rfl)) (by decide) (by decide)) q59a q59c (g := (mkF m 84 #[.val (.int x0), .val (.int x1), .val (.int x2), .val (.int x3), .val (.int x4), .val (.int sm), .val (.int na), .val (.int ka), .val (.int nb), .val (.int kb), .val (.ref b6), .val (.ref b30), .unset, .unset, .unset, .unset, .unset, .unset, .unset, .unset] [(.ref b6)])) rfl (by rw [hml]; rfl) (Steps.refl _) (argsL := []) (rest := []) (lenOf pd_4 rfl) rfl (by show 2 * 0 + _ ≤ _; exact Nat.le_of_eq rfl) (hb hby at_84) (fun _ _ => ⟨rfl, eT, (by decide : 10 + 0 ≤ _), (by decide : 42 + 0 ≤ _)⟩)
  dsimp only [Pt.U, Pt.locs, Pt.cells, Pt.slots] at X59 l59 y59 z59 st59 hQ59
  subst l59 y59 z59
  obtain ⟨rfl, N59q, e59⟩ := hQ59
  have N59 := Fr.app N N59q
  refine Ends.go st59 ?_
  show Ends p e below _ _ (T59.setTop (mkF m 87 #[.val (.int x0), .val (.int x1), .val (.int x2), .val (.int x3), .val (.int x4), .val (.int sm), .val (.int na), .val (.int ka), .val (.int nb), .val (.int kb), .val (.ref b6), .val (.ref b30), .unset, .unset, .unset, .unset, .unset, .unset, .unset, .unset] [(.double (FP.ddiv (FP.i2d ka) (FP.i2d na)))]))
  show Ends p e below _ _ (T59.setTop (mkF m 87 #[.val (.int x0), .val (.int x1), .val (.int x2), .val (.int x3), .val (.int x4), .val (.int sm), .val (.int na), .val (.int ka), .val (.int nb), .val (.int kb), .val (.ref b6), .val (.ref b30), .unset, .unset, .unset, .unset, .unset, .unset, .unset, .unset] [(.double (FP.ddiv (FP.i2d ka) (FP.i2d na)))]))
  obtain ⟨ra, hra⟩ : ∃ z : UInt64, z = (FP.ddiv (FP.i2d ka) (FP.i2d na)) := ⟨_, rfl⟩
  rw [← hra]
  show Ends p e below _ _ (T59.setTop (mkF m 87 #[.val (.int x0), .val (.int x1), .val (.int x2), .val (.int x3), .val (.int x4), .val (.int sm), .val (.int na), .val (.int ka), .val (.int nb), .val (.int kb), .val (.ref b6), .val (.ref b30), .unset, .unset, .unset, .unset, .unset, .unset, .unset, .unset] [(.double ra)]))
  have IA : IsU (UQ KA NA) (FP.Core.val64 ra) := by rw [hra]; exact RA.is
  refine Es.dstore (q := 89) (l' := #[.val (.int x0), .val (.int x1), .val (.int x2), .val (.int x3), .val (.int x4), .val (.int sm), .val (.int na), .val (.int ka), .val (.int nb), .val (.int kb), .val (.ref b6), .val (.ref b30), .val (.double ra), .second, .unset, .unset, .unset, .unset, .unset, .unset]) ?_ X59 hx (hb hby at_87) rfl rfl
  refine Es.aload (q := 91) ?_ X59 hx (hb hby at_89) rfl rfl rfl
  obtain ⟨cq60, kq60, q60a, q60b, q60c⟩ := isOf (s := s.setVm vm0) hZ e59 q1.1
  obtain ⟨v60, _, ⟨T60, L60, k60, n60⟩, -, X60, ⟨Lc60, hQ60, l60, y60, z60⟩, st60⟩ := X59.virtualBack hx (y := (⟨"com/example/tarsier/tarsier/elements/PageElement", "linkRatio", "()D"⟩ : MethodName)) (z := (⟨"com/example/tarsier/tarsier/elements/PageElement", "linkRatio", "()D"⟩ : MethodName)) hown (mvT hZ (hw _ (List.mem_of_getElem? (i := 48) rfl))) (mvT hZ (hw _ (List.mem_of_getElem? (i := 49) rfl))) (notFace_of_selects (args := #[]) (mvT hZ (hw _ (List.mem_of_getElem? (i := 51) rfl)))) (mvT hZ (hw _ (List.mem_of_getElem? (i := 51) rfl))) (mvT hZ (hw _ (List.mem_of_getElem? (i := 50) rfl))) (by decide) (backOf (W := 0) (rm7 l Z a0 hw [] b30 nb kb h n0 Zs q1 (noNaN_is RB.is)) hZ (hw _ (List.mem_of_getElem? (i := 52) rfl)) (hw _ (List.mem_of_getElem? (i := 15) rfl)) (by decide) (by decide)) q60a q60c (g := (mkF m 91 #[.val (.int x0), .val (.int x1), .val (.int x2), .val (.int x3), .val (.int x4), .val (.int sm), .val (.int na), .val (.int ka), .val (.int nb), .val (.int kb), .val (.ref b6), .val (.ref b30), .val (.double ra), .second, .unset, .unset, .unset, .unset, .unset, .unset] [(.ref b30)])) rfl (by rw [hml]; rfl) (Steps.refl _) (argsL := []) (rest := []) (lenOf pd_4 rfl) rfl (by show 2 * 0 + _ ≤ _; exact Nat.le_of_eq rfl) (hb hby at_91) (fun _ _ => ⟨rfl, e59, (by decide : 10 + 0 ≤ _), (by decide : 42 + 0 ≤ _)⟩)
  dsimp only [Pt.U, Pt.locs, Pt.cells, Pt.slots] at X60 l60 y60 z60 st60 hQ60
  subst l60 y60 z60
  obtain ⟨rfl, N60q, e60⟩ := hQ60
  have N60 := Fr.app N59 N60q
  refine Ends.go st60 ?_
  show Ends p e below _ _ (T60.setTop (mkF m 94 #[.val (.int x0), .val (.int x1), .val (.int x2), .val (.int x3), .val (.int x4), .val (.int sm), .val (.int na), .val (.int ka), .val (.int nb), .val (.int kb), .val (.ref b6), .val (.ref b30), .val (.double ra), .second, .unset, .unset, .unset, .unset, .unset, .unset] [(.double (FP.ddiv (FP.i2d kb) (FP.i2d nb)))]))
  show Ends p e below _ _ (T60.setTop (mkF m 94 #[.val (.int x0), .val (.int x1), .val (.int x2), .val (.int x3), .val (.int x4), .val (.int sm), .val (.int na), .val (.int ka), .val (.int nb), .val (.int kb), .val (.ref b6), .val (.ref b30), .val (.double ra), .second, .unset, .unset, .unset, .unset, .unset, .unset] [(.double (FP.ddiv (FP.i2d kb) (FP.i2d nb)))]))
  obtain ⟨rb, hrb⟩ : ∃ z : UInt64, z = (FP.ddiv (FP.i2d kb) (FP.i2d nb)) := ⟨_, rfl⟩
  rw [← hrb]
  show Ends p e below _ _ (T60.setTop (mkF m 94 #[.val (.int x0), .val (.int x1), .val (.int x2), .val (.int x3), .val (.int x4), .val (.int sm), .val (.int na), .val (.int ka), .val (.int nb), .val (.int kb), .val (.ref b6), .val (.ref b30), .val (.double ra), .second, .unset, .unset, .unset, .unset, .unset, .unset] [(.double rb)]))
  have IB : IsU (UQ KB NB) (FP.Core.val64 rb) := by rw [hrb]; exact RB.is
  refine Es.dstore (q := 96) (l' := #[.val (.int x0), .val (.int x1), .val (.int x2), .val (.int x3), .val (.int x4), .val (.int sm), .val (.int na), .val (.int ka), .val (.int nb), .val (.int kb), .val (.ref b6), .val (.ref b30), .val (.double ra), .second, .val (.double rb), .second, .unset, .unset, .unset, .unset]) ?_ X60 hx (hb hby at_94) rfl rfl
  exact sg0_96 hx hZ hw hby hml hown hlk hret (x0) (x1) (x2) (x3) (x4) (sm) (NA) (KA) (NB) (KB) (na) (ka) (nb) (kb) (ra) (rb) b6 b30 hS hk X60 e60 N60 Zs q0 q1 ne0_ old0_ old1_ RA RB h2a h2b IA IB

set_option maxRecDepth 65536 in
set_option maxHeartbeats 40000000 in
theorem sg0_64 {p : Program} {l : Launch} {e : Env} {s : State} {m : MethodId} {args : Array Value} {below : List Frame} {meth : Method} {c : Code} {Z : State} {a0 : Array Value} {vm0 : Vm} {kS : Nat} (hx : p.tables.exec = Jvm.exec) (hZ : Z.Warmed39 vm0) (hw : ∀ d ∈ tables_1, d.before a0 Z = true) (hby : c.code = code) (hml : c.maxLocals = 20) (hown : vm0.findClass "com/example/tarsier/tarsier/elements/PageElementLinkRatioPinLaw" = some m.cls) (hlk : meth.locks = false) (hret : meth.sig.returnType = some .boolean) {T : State} {locs : List Loc} {h : Heap} {n0 : Nat} (x0 : Int32) (x1 : Int32) (x2 : Int32) (x3 : Int32) (x4 : Int32) (sm : Int32) (NA : Nat) (KA : Nat) (NB : Nat) (KB : Nat) (na : Int32) (ka : Int32) (nb : Int32) (kb : Int32) (b6 : Addr) (hS : s.Since vm0 kS) (hk : kS ≤ h.size) (X : Stand p l e room_1 (s.setVm vm0) m args below meth c T locs 5 21) (eT : T.heap = h) (N : Fr n0 locs) (Zs : n0 ≤ h.size) (q0 : PEl Z h b6 na ka) (old0_ : n0 ≤ b6) (RA : Rt KA NA ka na) (RB : Rt KB NB kb nb) (h2a : ¬ sm = (0 : Int32) → NA < 2 ^ 20) (h2b : ¬ sm = (0 : Int32) → NB < 2 ^ 20) :
    Ends p e below (FW s room_1.cells room_1.slots) (QL n0) (T.setTop (mkF m 64 #[.val (.int x0), .val (.int x1), .val (.int x2), .val (.int x3), .val (.int x4), .val (.int sm), .val (.int na), .val (.int ka), .val (.int nb), .val (.int kb), .val (.ref b6), .unset, .unset, .unset, .unset, .unset, .unset, .unset, .unset, .unset] [])) := by
  show Ends p e below _ _ (T.setTop (mkF m 64 #[.val (.int x0), .val (.int x1), .val (.int x2), .val (.int x3), .val (.int x4), .val (.int sm), .val (.int na), .val (.int ka), .val (.int nb), .val (.int kb), .val (.ref b6), .unset, .unset, .unset, .unset, .unset, .unset, .unset, .unset, .unset] []))
  obtain ⟨T30, h30, X30, e30, E30, A30, D30, -, st30⟩ := newO X hx hZ hown (hw _ (List.mem_of_getElem? (i := 13) rfl)) (hw _ (List.mem_of_getElem? (i := 14) rfl)) (hw _ (List.mem_of_getElem? (i := 15) rfl)) eT (g := (mkF m 64 #[.val (.int x0), .val (.int x1), .val (.int x2), .val (.int x3), .val (.int x4), .val (.int sm), .val (.int na), .val (.int ka), .val (.int nb), .val (.int kb), .val (.ref b6), .unset, .unset, .unset, .unset, .unset, .unset, .unset, .unset, .unset] [])) rfl (hb hby at_64) (by decide) (by decide)
  obtain ⟨b30, g30⟩ : ∃ z, z = h.size := ⟨_, rfl⟩
  rw [← g30] at A30 D30 st30
  have ne31 : b6 ≠ b30 := Nat.ne_of_lt (Nat.lt_of_lt_of_le q0.lt (Nat.le_of_eq g30.symm))
  have gn30 : n0 ≤ b30 := Nat.le_trans Zs (Nat.le_of_eq g30.symm)
  have f32 := q0.ext E30
  have F30_path : Fld Z h30 b30 "com/example/tarsier/tarsier/elements/PageElement" "path" "Ljava/lang/String;" .null := D30 (Or.inr (hw _ (List.mem_of_getElem? (i := 37) rfl))) (ty := (.object "java/lang/String")) (by decide)
  have F30_elementClass : Fld Z h30 b30 "com/example/tarsier/tarsier/elements/PageElement" "elementClass" "Ljava/lang/String;" .null := D30 (Or.inr (hw _ (List.mem_of_getElem? (i := 39) rfl))) (ty := (.object "java/lang/String")) (by decide)
  have F30_offset : Fld Z h30 b30 "com/example/tarsier/tarsier/elements/PageElement" "offset" "I" (.int (0 : Int32)) := D30 (Or.inr (hw _ (List.mem_of_getElem? (i := 41) rfl))) (ty := .int) (by decide)
  have F30_length : Fld Z h30 b30 "com/example/tarsier/tarsier/elements/PageElement" "length" "I" (.int (0 : Int32)) := D30 (Or.inr (hw _ (List.mem_of_getElem? (i := 43) rfl))) (ty := .int) (by decide)
  have F30_linkLength : Fld Z h30 b30 "com/example/tarsier/tarsier/elements/PageElement" "linkLength" "I" (.int (0 : Int32)) := D30 (Or.inr (hw _ (List.mem_of_getElem? (i := 45) rfl))) (ty := .int) (by decide)
  have hk33 := Nat.le_trans hk E30.1
  have Zs34 : n0 ≤ h30.size := Nat.le_trans Zs E30.1
  refine Ends.by ?_ st30
  show Ends p e below _ _ (T30.setTop (mkF m 67 #[.val (.int x0), .val (.int x1), .val (.int x2), .val (.int x3), .val (.int x4), .val (.int sm), .val (.int na), .val (.int ka), .val (.int nb), .val (.int kb), .val (.ref b6), .unset, .unset, .unset, .unset, .unset, .unset, .unset, .unset, .unset] [(.ref b30)]))
  refine Es.dup (q := 68) ?_ X30 hx (hb hby at_67) rfl rfl
  obtain ⟨b35, T35, h35, k35, X35, e35, E35, hS, hk35, hZ, hown, st35⟩ := ldcS X30 hx hZ hown (hw _ (List.mem_of_getElem? (i := 46) rfl)) (own_str hw) e30 hS hk33 (g := (mkF m 68 #[.val (.int x0), .val (.int x1), .val (.int x2), .val (.int x3), .val (.int x4), .val (.int sm), .val (.int na), .val (.int ka), .val (.int nb), .val (.int kb), .val (.ref b6), .unset, .unset, .unset, .unset, .unset, .unset, .unset, .unset, .unset] [(.ref b30), (.ref b30)])) rfl (hb hby at_68) (n := 4) (by decide) (by decide) (by decide) (by decide)
  have f36 := f32.ext E35
  have f37 := Exa.ext E35 A30
  have f38 := Fld.ext E35 F30_path
  have f39 := Fld.ext E35 F30_elementClass
  have f40 := Fld.ext E35 F30_offset
  have f41 := Fld.ext E35 F30_length
  have f42 := Fld.ext E35 F30_linkLength
  have hk43 := Nat.le_trans hk33 E35.1
  have Zs44 : n0 ≤ h35.size := Nat.le_trans Zs34 E35.1
  refine Ends.by ?_ st35
  show Ends p e below _ _ (T35.setTop (mkF m 70 #[.val (.int x0), .val (.int x1), .val (.int x2), .val (.int x3), .val (.int x4), .val (.int sm), .val (.int na), .val (.int ka), .val (.int nb), .val (.int kb), .val (.ref b6), .unset, .unset, .unset, .unset, .unset, .unset, .unset, .unset, .unset] [(.ref b35), (.ref b30), (.ref b30)]))
  obtain ⟨b45, T45, h45, k45, X45, e45, E45, hS, hk45, hZ, hown, st45⟩ := ldcS X35 hx hZ hown (hw _ (List.mem_of_getElem? (i := 47) rfl)) (own_str hw) e35 hS hk35 (g := (mkF m 70 #[.val (.int x0), .val (.int x1), .val (.int x2), .val (.int x3), .val (.int x4), .val (.int sm), .val (.int na), .val (.int ka), .val (.int nb), .val (.int kb), .val (.ref b6), .unset, .unset, .unset, .unset, .unset, .unset, .unset, .unset, .unset] [(.ref b35), (.ref b30), (.ref b30)])) rfl (hb hby at_70) (n := 4) (by decide) (by decide) (by decide) (by decide)
  have f46 := f36.ext E45
  have f47 := Exa.ext E45 f37
  have f48 := Fld.ext E45 f38
  have f49 := Fld.ext E45 f39
  have f50 := Fld.ext E45 f40
  have f51 := Fld.ext E45 f41
  have f52 := Fld.ext E45 f42
  have hk53 := Nat.le_trans hk35 E45.1
  have Zs54 : n0 ≤ h45.size := Nat.le_trans Zs44 E45.1
  refine Ends.by ?_ st45
  show Ends p e below _ _ (T45.setTop (mkF m 72 #[.val (.int x0), .val (.int x1), .val (.int x2), .val (.int x3), .val (.int x4), .val (.int sm), .val (.int na), .val (.int ka), .val (.int nb), .val (.int kb), .val (.ref b6), .unset, .unset, .unset, .unset, .unset, .unset, .unset, .unset, .unset] [(.ref b45), (.ref b35), (.ref b30), (.ref b30)]))
  refine Es.iconst (q := 73) (z := (0 : Int32)) ?_ X45 hx (hb hby at_72) rfl rfl
  refine Es.iload (q := 75) ?_ X45 hx (hb hby at_73) rfl rfl
  refine Es.iload (q := 77) ?_ X45 hx (hb hby at_75) rfl rfl
  obtain ⟨v55, _, ⟨T55, L55, k55, n55⟩, -, X55, ⟨Lc55, hQ55, l55, y55, z55⟩, st55⟩ := X45.specialBack hx (y := (⟨"com/example/tarsier/tarsier/elements/PageElement", "<init>", "(Ljava/lang/String;Ljava/lang/String;III)V"⟩ : MethodName)) rfl hown (mvT hZ (hw _ (List.mem_of_getElem? (i := 25) rfl))) (mvT hZ (hw _ (List.mem_of_getElem? (i := 26) rfl))) (mvT hZ (hw _ (List.mem_of_getElem? (i := 27) rfl))) (by decide) (backOf (W := 1) (rm4 l Z a0 hw [] b30 b35 b45 (0 : Int32) nb kb h45 n0 Zs54 f47 f48 f49 f50 f51 f52 gn30) hZ (hw _ (List.mem_of_getElem? (i := 27) rfl)) (hw _ (List.mem_of_getElem? (i := 15) rfl)) (by decide) (by decide)) (g := (mkF m 77 #[.val (.int x0), .val (.int x1), .val (.int x2), .val (.int x3), .val (.int x4), .val (.int sm), .val (.int na), .val (.int ka), .val (.int nb), .val (.int kb), .val (.ref b6), .unset, .unset, .unset, .unset, .unset, .unset, .unset, .unset, .unset] [(.int kb), (.int nb), (.int (0 : Int32)), (.ref b45), (.ref b35), (.ref b30), (.ref b30)])) rfl (by rw [hml]; rfl) (Steps.refl _) (a := b30) (argsL := [(.ref b35), (.ref b45), (.int (0 : Int32)), (.int nb), (.int kb)]) (rest := [(.ref b30)]) (lenOf pd_3 rfl) rfl (by show 2 * 0 + _ ≤ _; exact Nat.le_of_eq rfl) (hb hby at_77) (fun _ _ => ⟨rfl, e45, (by decide : 10 + 0 ≤ _), (by decide : 42 + 0 ≤ _)⟩)
  dsimp only [Pt.U, Pt.locs, Pt.cells, Pt.slots] at X55 l55 y55 z55 st55 hQ55
  subst l55 y55 z55
  obtain ⟨rfl, N55q, K55, HI55⟩ := hQ55
  have N55 := Fr.app N N55q
  have f56 := f46.keep K55 (by simp [ne31])
  have hk57 := Nat.le_trans hk45 K55.1
  have Zs58 : n0 ≤ T55.heap.size := Nat.le_trans Zs54 K55.1
  refine Ends.go st55 ?_
  show Ends p e below _ _ (T55.setTop (mkF m 80 #[.val (.int x0), .val (.int x1), .val (.int x2), .val (.int x3), .val (.int x4), .val (.int sm), .val (.int na), .val (.int ka), .val (.int nb), .val (.int kb), .val (.ref b6), .unset, .unset, .unset, .unset, .unset, .unset, .unset, .unset, .unset] [(.ref b30)]))
  refine Es.astore (q := 82) (l' := #[.val (.int x0), .val (.int x1), .val (.int x2), .val (.int x3), .val (.int x4), .val (.int sm), .val (.int na), .val (.int ka), .val (.int nb), .val (.int kb), .val (.ref b6), .val (.ref b30), .unset, .unset, .unset, .unset, .unset, .unset, .unset, .unset]) ?_ X55 hx (hb hby at_80) rfl rfl rfl
  exact sg0_82 hx hZ hw hby hml hown hlk hret (x0) (x1) (x2) (x3) (x4) (sm) (NA) (KA) (NB) (KB) (na) (ka) (nb) (kb) b6 b30 hS hk57 X55 rfl N55 Zs58 f56 HI55 ne31 old0_ gn30 RA RB h2a h2b

set_option maxRecDepth 65536 in
set_option maxHeartbeats 40000000 in
theorem sg0_46 {p : Program} {l : Launch} {e : Env} {s : State} {m : MethodId} {args : Array Value} {below : List Frame} {meth : Method} {c : Code} {Z : State} {a0 : Array Value} {vm0 : Vm} {kS : Nat} (hx : p.tables.exec = Jvm.exec) (hZ : Z.Warmed39 vm0) (hw : ∀ d ∈ tables_1, d.before a0 Z = true) (hby : c.code = code) (hml : c.maxLocals = 20) (hown : vm0.findClass "com/example/tarsier/tarsier/elements/PageElementLinkRatioPinLaw" = some m.cls) (hlk : meth.locks = false) (hret : meth.sig.returnType = some .boolean) {T : State} {locs : List Loc} {h : Heap} {n0 : Nat} (x0 : Int32) (x1 : Int32) (x2 : Int32) (x3 : Int32) (x4 : Int32) (sm : Int32) (NA : Nat) (KA : Nat) (NB : Nat) (KB : Nat) (na : Int32) (ka : Int32) (nb : Int32) (kb : Int32) (hS : s.Since vm0 kS) (hk : kS ≤ h.size) (X : Stand p l e room_1 (s.setVm vm0) m args below meth c T locs 0 0) (eT : T.heap = h) (N : Fr n0 locs) (Zs : n0 ≤ h.size) (RA : Rt KA NA ka na) (RB : Rt KB NB kb nb) (h2a : ¬ sm = (0 : Int32) → NA < 2 ^ 20) (h2b : ¬ sm = (0 : Int32) → NB < 2 ^ 20) :
    Ends p e below (FW s room_1.cells room_1.slots) (QL n0) (T.setTop (mkF m 46 #[.val (.int x0), .val (.int x1), .val (.int x2), .val (.int x3), .val (.int x4), .val (.int sm), .val (.int na), .val (.int ka), .val (.int nb), .val (.int kb), .unset, .unset, .unset, .unset, .unset, .unset, .unset, .unset, .unset, .unset] [])) := by
  show Ends p e below _ _ (T.setTop (mkF m 46 #[.val (.int x0), .val (.int x1), .val (.int x2), .val (.int x3), .val (.int x4), .val (.int sm), .val (.int na), .val (.int ka), .val (.int nb), .val (.int kb), .unset, .unset, .unset, .unset, .unset, .unset, .unset, .unset, .unset, .unset] []))
  obtain ⟨T6, h6, X6, e6, E6, A6, D6, -, st6⟩ := newO X hx hZ hown (hw _ (List.mem_of_getElem? (i := 13) rfl)) (hw _ (List.mem_of_getElem? (i := 14) rfl)) (hw _ (List.mem_of_getElem? (i := 15) rfl)) eT (g := (mkF m 46 #[.val (.int x0), .val (.int x1), .val (.int x2), .val (.int x3), .val (.int x4), .val (.int sm), .val (.int na), .val (.int ka), .val (.int nb), .val (.int kb), .unset, .unset, .unset, .unset, .unset, .unset, .unset, .unset, .unset, .unset] [])) rfl (hb hby at_46) (by decide) (by decide)
  obtain ⟨b6, g6⟩ : ∃ z, z = h.size := ⟨_, rfl⟩
  rw [← g6] at A6 D6 st6
  have gn6 : n0 ≤ b6 := Nat.le_trans Zs (Nat.le_of_eq g6.symm)
  have F6_path : Fld Z h6 b6 "com/example/tarsier/tarsier/elements/PageElement" "path" "Ljava/lang/String;" .null := D6 (Or.inr (hw _ (List.mem_of_getElem? (i := 37) rfl))) (ty := (.object "java/lang/String")) (by decide)
  have F6_elementClass : Fld Z h6 b6 "com/example/tarsier/tarsier/elements/PageElement" "elementClass" "Ljava/lang/String;" .null := D6 (Or.inr (hw _ (List.mem_of_getElem? (i := 39) rfl))) (ty := (.object "java/lang/String")) (by decide)
  have F6_offset : Fld Z h6 b6 "com/example/tarsier/tarsier/elements/PageElement" "offset" "I" (.int (0 : Int32)) := D6 (Or.inr (hw _ (List.mem_of_getElem? (i := 41) rfl))) (ty := .int) (by decide)
  have F6_length : Fld Z h6 b6 "com/example/tarsier/tarsier/elements/PageElement" "length" "I" (.int (0 : Int32)) := D6 (Or.inr (hw _ (List.mem_of_getElem? (i := 43) rfl))) (ty := .int) (by decide)
  have F6_linkLength : Fld Z h6 b6 "com/example/tarsier/tarsier/elements/PageElement" "linkLength" "I" (.int (0 : Int32)) := D6 (Or.inr (hw _ (List.mem_of_getElem? (i := 45) rfl))) (ty := .int) (by decide)
  have hk7 := Nat.le_trans hk E6.1
  have Zs8 : n0 ≤ h6.size := Nat.le_trans Zs E6.1
  refine Ends.by ?_ st6
  show Ends p e below _ _ (T6.setTop (mkF m 49 #[.val (.int x0), .val (.int x1), .val (.int x2), .val (.int x3), .val (.int x4), .val (.int sm), .val (.int na), .val (.int ka), .val (.int nb), .val (.int kb), .unset, .unset, .unset, .unset, .unset, .unset, .unset, .unset, .unset, .unset] [(.ref b6)]))
  refine Es.dup (q := 50) ?_ X6 hx (hb hby at_49) rfl rfl
  obtain ⟨b9, T9, h9, k9, X9, e9, E9, hS, hk9, hZ, hown, st9⟩ := ldcS X6 hx hZ hown (hw _ (List.mem_of_getElem? (i := 16) rfl)) (own_str hw) e6 hS hk7 (g := (mkF m 50 #[.val (.int x0), .val (.int x1), .val (.int x2), .val (.int x3), .val (.int x4), .val (.int sm), .val (.int na), .val (.int ka), .val (.int nb), .val (.int kb), .unset, .unset, .unset, .unset, .unset, .unset, .unset, .unset, .unset, .unset] [(.ref b6), (.ref b6)])) rfl (hb hby at_50) (n := 4) (by decide) (by decide) (by decide) (by decide)
  have f10 := Exa.ext E9 A6
  have f11 := Fld.ext E9 F6_path
  have f12 := Fld.ext E9 F6_elementClass
  have f13 := Fld.ext E9 F6_offset
  have f14 := Fld.ext E9 F6_length
  have f15 := Fld.ext E9 F6_linkLength
  have hk16 := Nat.le_trans hk7 E9.1
  have Zs17 : n0 ≤ h9.size := Nat.le_trans Zs8 E9.1
  refine Ends.by ?_ st9
  show Ends p e below _ _ (T9.setTop (mkF m 52 #[.val (.int x0), .val (.int x1), .val (.int x2), .val (.int x3), .val (.int x4), .val (.int sm), .val (.int na), .val (.int ka), .val (.int nb), .val (.int kb), .unset, .unset, .unset, .unset, .unset, .unset, .unset, .unset, .unset, .unset] [(.ref b9), (.ref b6), (.ref b6)]))
  obtain ⟨b18, T18, h18, k18, X18, e18, E18, hS, hk18, hZ, hown, st18⟩ := ldcS X9 hx hZ hown (hw _ (List.mem_of_getElem? (i := 24) rfl)) (own_str hw) e9 hS hk9 (g := (mkF m 52 #[.val (.int x0), .val (.int x1), .val (.int x2), .val (.int x3), .val (.int x4), .val (.int sm), .val (.int na), .val (.int ka), .val (.int nb), .val (.int kb), .unset, .unset, .unset, .unset, .unset, .unset, .unset, .unset, .unset, .unset] [(.ref b9), (.ref b6), (.ref b6)])) rfl (hb hby at_52) (n := 4) (by decide) (by decide) (by decide) (by decide)
  have f19 := Exa.ext E18 f10
  have f20 := Fld.ext E18 f11
  have f21 := Fld.ext E18 f12
  have f22 := Fld.ext E18 f13
  have f23 := Fld.ext E18 f14
  have f24 := Fld.ext E18 f15
  have hk25 := Nat.le_trans hk9 E18.1
  have Zs26 : n0 ≤ h18.size := Nat.le_trans Zs17 E18.1
  refine Ends.by ?_ st18
  show Ends p e below _ _ (T18.setTop (mkF m 54 #[.val (.int x0), .val (.int x1), .val (.int x2), .val (.int x3), .val (.int x4), .val (.int sm), .val (.int na), .val (.int ka), .val (.int nb), .val (.int kb), .unset, .unset, .unset, .unset, .unset, .unset, .unset, .unset, .unset, .unset] [(.ref b18), (.ref b9), (.ref b6), (.ref b6)]))
  refine Es.iconst (q := 55) (z := (0 : Int32)) ?_ X18 hx (hb hby at_54) rfl rfl
  refine Es.iload (q := 57) ?_ X18 hx (hb hby at_55) rfl rfl
  refine Es.iload (q := 59) ?_ X18 hx (hb hby at_57) rfl rfl
  obtain ⟨v27, _, ⟨T27, L27, k27, n27⟩, -, X27, ⟨Lc27, hQ27, l27, y27, z27⟩, st27⟩ := X18.specialBack hx (y := (⟨"com/example/tarsier/tarsier/elements/PageElement", "<init>", "(Ljava/lang/String;Ljava/lang/String;III)V"⟩ : MethodName)) rfl hown (mvT hZ (hw _ (List.mem_of_getElem? (i := 25) rfl))) (mvT hZ (hw _ (List.mem_of_getElem? (i := 26) rfl))) (mvT hZ (hw _ (List.mem_of_getElem? (i := 27) rfl))) (by decide) (backOf (W := 1) (rm4 l Z a0 hw [] b6 b9 b18 (0 : Int32) na ka h18 n0 Zs26 f19 f20 f21 f22 f23 f24 gn6) hZ (hw _ (List.mem_of_getElem? (i := 27) rfl)) (hw _ (List.mem_of_getElem? (i := 15) rfl)) (by decide) (by decide)) (g := (mkF m 59 #[.val (.int x0), .val (.int x1), .val (.int x2), .val (.int x3), .val (.int x4), .val (.int sm), .val (.int na), .val (.int ka), .val (.int nb), .val (.int kb), .unset, .unset, .unset, .unset, .unset, .unset, .unset, .unset, .unset, .unset] [(.int ka), (.int na), (.int (0 : Int32)), (.ref b18), (.ref b9), (.ref b6), (.ref b6)])) rfl (by rw [hml]; rfl) (Steps.refl _) (a := b6) (argsL := [(.ref b9), (.ref b18), (.int (0 : Int32)), (.int na), (.int ka)]) (rest := [(.ref b6)]) (lenOf pd_3 rfl) rfl (by show 2 * 0 + _ ≤ _; exact Nat.le_of_eq rfl) (hb hby at_59) (fun _ _ => ⟨rfl, e18, (by decide : 5 + 0 ≤ _), (by decide : 21 + 0 ≤ _)⟩)
  dsimp only [Pt.U, Pt.locs, Pt.cells, Pt.slots] at X27 l27 y27 z27 st27 hQ27
  subst l27 y27 z27
  obtain ⟨rfl, N27q, K27, HI27⟩ := hQ27
  have N27 := Fr.app N N27q
  have hk28 := Nat.le_trans hk18 K27.1
  have Zs29 : n0 ≤ T27.heap.size := Nat.le_trans Zs26 K27.1
  refine Ends.go st27 ?_
  show Ends p e below _ _ (T27.setTop (mkF m 62 #[.val (.int x0), .val (.int x1), .val (.int x2), .val (.int x3), .val (.int x4), .val (.int sm), .val (.int na), .val (.int ka), .val (.int nb), .val (.int kb), .unset, .unset, .unset, .unset, .unset, .unset, .unset, .unset, .unset, .unset] [(.ref b6)]))
  refine Es.astore (q := 64) (l' := #[.val (.int x0), .val (.int x1), .val (.int x2), .val (.int x3), .val (.int x4), .val (.int sm), .val (.int na), .val (.int ka), .val (.int nb), .val (.int kb), .val (.ref b6), .unset, .unset, .unset, .unset, .unset, .unset, .unset, .unset, .unset]) ?_ X27 hx (hb hby at_62) rfl rfl rfl
  exact sg0_64 hx hZ hw hby hml hown hlk hret (x0) (x1) (x2) (x3) (x4) (sm) (NA) (KA) (NB) (KB) (na) (ka) (nb) (kb) b6 hS hk28 X27 rfl N27 Zs29 HI27 gn6 RA RB h2a h2b

set_option maxRecDepth 65536 in
set_option maxHeartbeats 40000000 in
theorem sg0_14 {p : Program} {l : Launch} {e : Env} {s : State} {m : MethodId} {args : Array Value} {below : List Frame} {meth : Method} {c : Code} {Z : State} {a0 : Array Value} {vm0 : Vm} {kS : Nat} (hx : p.tables.exec = Jvm.exec) (hZ : Z.Warmed39 vm0) (hw : ∀ d ∈ tables_1, d.before a0 Z = true) (hby : c.code = code) (hml : c.maxLocals = 20) (hown : vm0.findClass "com/example/tarsier/tarsier/elements/PageElementLinkRatioPinLaw" = some m.cls) (hlk : meth.locks = false) (hret : meth.sig.returnType = some .boolean) {T : State} {locs : List Loc} {h : Heap} {n0 : Nat} (x0 : Int32) (x1 : Int32) (x2 : Int32) (x3 : Int32) (x4 : Int32) (sm : Int32) (hS : s.Since vm0 kS) (hk : kS ≤ h.size) (X : Stand p l e room_1 (s.setVm vm0) m args below meth c T locs 0 0) (eT : T.heap = h) (N : Fr n0 locs) (Zs : n0 ≤ h.size) :
    Ends p e below (FW s room_1.cells room_1.slots) (QL n0) (T.setTop (mkF m 14 #[.val (.int x0), .val (.int x1), .val (.int x2), .val (.int x3), .val (.int x4), .val (.int sm), .unset, .unset, .unset, .unset, .unset, .unset, .unset, .unset, .unset, .unset, .unset, .unset, .unset, .unset] [])) := by
  show Ends p e below _ _ (T.setTop (mkF m 14 #[.val (.int x0), .val (.int x1), .val (.int x2), .val (.int x3), .val (.int x4), .val (.int sm), .unset, .unset, .unset, .unset, .unset, .unset, .unset, .unset, .unset, .unset, .unset, .unset, .unset, .unset] []))
  refine Es.iloadN (q := 15) ?_ X hx (hb hby at_14) rfl rfl
  refine Es.iload (q := 17) ?_ X hx (hb hby at_15) rfl rfl
  obtain ⟨v2, _, ⟨T2, L2, k2, n2⟩, -, X2, ⟨Lc2, hQ2, l2, y2, z2⟩, st2⟩ := Jvm.LawKit.callS X hx (y := (⟨"com/example/tarsier/tarsier/elements/PageElementLinkRatioPinLaw", "len", "(IZ)I"⟩ : MethodName)) hown (mvT hZ (hw _ (List.mem_of_getElem? (i := 0) rfl))) (mvT hZ (hw _ (List.mem_of_getElem? (i := 1) rfl))) (mvT hZ (hw _ (List.mem_of_getElem? (i := 2) rfl))) (mvT hZ (hw _ (List.mem_of_getElem? (i := 3) rfl))) (by decide) (backOf (W := 0) (rm1 l Z a0 hw [] x0 sm h n0 Zs) hZ (hw _ (List.mem_of_getElem? (i := 3) rfl)) (hw _ (List.mem_of_getElem? (i := 2) rfl)) (by decide) (by decide)) (g := (mkF m 17 #[.val (.int x0), .val (.int x1), .val (.int x2), .val (.int x3), .val (.int x4), .val (.int sm), .unset, .unset, .unset, .unset, .unset, .unset, .unset, .unset, .unset, .unset, .unset, .unset, .unset, .unset] [(.int sm), (.int x0)])) rfl (by rw [hml]; rfl) (argsL := [(.int x0), (.int sm)]) (rest := []) (lenOf pd_2 rfl) rfl (by show 2 * 0 + _ ≤ _; exact Nat.le_of_eq rfl) (hb hby at_17) (fun _ _ => ⟨rfl, eT, (by decide : 0 + 0 ≤ _), (by decide : 0 + 0 ≤ _)⟩)
  dsimp only [Pt.U, Pt.locs, Pt.cells, Pt.slots] at X2 l2 y2 z2 st2 hQ2
  subst l2 y2 z2
  obtain ⟨rfl, N2q, e2⟩ := hQ2
  have N2 := Fr.app N N2q
  refine Ends.by ?_ st2
  show Ends p e below _ _ (T2.setTop (mkF m 20 #[.val (.int x0), .val (.int x1), .val (.int x2), .val (.int x3), .val (.int x4), .val (.int sm), .unset, .unset, .unset, .unset, .unset, .unset, .unset, .unset, .unset, .unset, .unset, .unset, .unset, .unset] [(.int (f1 x0 sm))]))
  show Ends p e below _ _ (T2.setTop (mkF m 20 #[.val (.int x0), .val (.int x1), .val (.int x2), .val (.int x3), .val (.int x4), .val (.int sm), .unset, .unset, .unset, .unset, .unset, .unset, .unset, .unset, .unset, .unset, .unset, .unset, .unset, .unset] [(.int (f1 x0 sm))]))
  obtain ⟨NA, na, hEa, h0a, h1a, h2a, h3a⟩ := own_len x0 sm
  rw [← hEa]
  show Ends p e below _ _ (T2.setTop (mkF m 20 #[.val (.int x0), .val (.int x1), .val (.int x2), .val (.int x3), .val (.int x4), .val (.int sm), .unset, .unset, .unset, .unset, .unset, .unset, .unset, .unset, .unset, .unset, .unset, .unset, .unset, .unset] [(.int na)]))
  refine Es.istore (q := 22) (l' := #[.val (.int x0), .val (.int x1), .val (.int x2), .val (.int x3), .val (.int x4), .val (.int sm), .val (.int na), .unset, .unset, .unset, .unset, .unset, .unset, .unset, .unset, .unset, .unset, .unset, .unset, .unset]) ?_ X2 hx (hb hby at_20) rfl rfl
  refine Es.iloadN (q := 23) ?_ X2 hx (hb hby at_22) rfl rfl
  refine Es.iload (q := 25) ?_ X2 hx (hb hby at_23) rfl rfl
  obtain ⟨v3, _, ⟨T3, L3, k3, n3⟩, -, X3, ⟨Lc3, hQ3, l3, y3, z3⟩, st3⟩ := Jvm.LawKit.callS X2 hx (y := (⟨"com/example/tarsier/tarsier/elements/PageElementLinkRatioPinLaw", "links", "(II)I"⟩ : MethodName)) hown (mvT hZ (hw _ (List.mem_of_getElem? (i := 9) rfl))) (mvT hZ (hw _ (List.mem_of_getElem? (i := 10) rfl))) (mvT hZ (hw _ (List.mem_of_getElem? (i := 2) rfl))) (mvT hZ (hw _ (List.mem_of_getElem? (i := 11) rfl))) (by decide) (backOf (W := 0) (rm3 l Z a0 hw [] x1 na h n0 Zs (by omega)) hZ (hw _ (List.mem_of_getElem? (i := 11) rfl)) (hw _ (List.mem_of_getElem? (i := 2) rfl)) (by decide) (by decide)) (g := (mkF m 25 #[.val (.int x0), .val (.int x1), .val (.int x2), .val (.int x3), .val (.int x4), .val (.int sm), .val (.int na), .unset, .unset, .unset, .unset, .unset, .unset, .unset, .unset, .unset, .unset, .unset, .unset, .unset] [(.int na), (.int x1)])) rfl (by rw [hml]; rfl) (argsL := [(.int x1), (.int na)]) (rest := []) (lenOf pd_0 rfl) rfl (by show 2 * 0 + _ ≤ _; exact Nat.le_of_eq rfl) (hb hby at_25) (fun _ _ => ⟨rfl, e2, (by decide : 0 + 0 ≤ _), (by decide : 0 + 0 ≤ _)⟩)
  dsimp only [Pt.U, Pt.locs, Pt.cells, Pt.slots] at X3 l3 y3 z3 st3 hQ3
  subst l3 y3 z3
  obtain ⟨rfl, N3q, e3⟩ := hQ3
  have N3 := Fr.app N2 N3q
  refine Ends.by ?_ st3
  show Ends p e below _ _ (T3.setTop (mkF m 28 #[.val (.int x0), .val (.int x1), .val (.int x2), .val (.int x3), .val (.int x4), .val (.int sm), .val (.int na), .unset, .unset, .unset, .unset, .unset, .unset, .unset, .unset, .unset, .unset, .unset, .unset, .unset] [(.int (f3 x1 na))]))
  show Ends p e below _ _ (T3.setTop (mkF m 28 #[.val (.int x0), .val (.int x1), .val (.int x2), .val (.int x3), .val (.int x4), .val (.int sm), .val (.int na), .unset, .unset, .unset, .unset, .unset, .unset, .unset, .unset, .unset, .unset, .unset, .unset, .unset] [(.int (f3 x1 na))]))
  obtain ⟨KA, ka, hFa, h4a, h5a⟩ := own_links x1 h0a h3a
  rw [← hFa]
  have RA : Rt KA NA ka na := ⟨h0a, h4a, h1a, h5a, h3a⟩
  show Ends p e below _ _ (T3.setTop (mkF m 28 #[.val (.int x0), .val (.int x1), .val (.int x2), .val (.int x3), .val (.int x4), .val (.int sm), .val (.int na), .unset, .unset, .unset, .unset, .unset, .unset, .unset, .unset, .unset, .unset, .unset, .unset, .unset] [(.int ka)]))
  refine Es.istore (q := 30) (l' := #[.val (.int x0), .val (.int x1), .val (.int x2), .val (.int x3), .val (.int x4), .val (.int sm), .val (.int na), .val (.int ka), .unset, .unset, .unset, .unset, .unset, .unset, .unset, .unset, .unset, .unset, .unset, .unset]) ?_ X3 hx (hb hby at_28) rfl rfl
  refine Es.iloadN (q := 31) ?_ X3 hx (hb hby at_30) rfl rfl
  refine Es.iload (q := 33) ?_ X3 hx (hb hby at_31) rfl rfl
  obtain ⟨v4, _, ⟨T4, L4, k4, n4⟩, -, X4, ⟨Lc4, hQ4, l4, y4, z4⟩, st4⟩ := Jvm.LawKit.callS X3 hx (y := (⟨"com/example/tarsier/tarsier/elements/PageElementLinkRatioPinLaw", "len", "(IZ)I"⟩ : MethodName)) hown (mvT hZ (hw _ (List.mem_of_getElem? (i := 0) rfl))) (mvT hZ (hw _ (List.mem_of_getElem? (i := 1) rfl))) (mvT hZ (hw _ (List.mem_of_getElem? (i := 2) rfl))) (mvT hZ (hw _ (List.mem_of_getElem? (i := 3) rfl))) (by decide) (backOf (W := 0) (rm1 l Z a0 hw [] x2 sm h n0 Zs) hZ (hw _ (List.mem_of_getElem? (i := 3) rfl)) (hw _ (List.mem_of_getElem? (i := 2) rfl)) (by decide) (by decide)) (g := (mkF m 33 #[.val (.int x0), .val (.int x1), .val (.int x2), .val (.int x3), .val (.int x4), .val (.int sm), .val (.int na), .val (.int ka), .unset, .unset, .unset, .unset, .unset, .unset, .unset, .unset, .unset, .unset, .unset, .unset] [(.int sm), (.int x2)])) rfl (by rw [hml]; rfl) (argsL := [(.int x2), (.int sm)]) (rest := []) (lenOf pd_2 rfl) rfl (by show 2 * 0 + _ ≤ _; exact Nat.le_of_eq rfl) (hb hby at_33) (fun _ _ => ⟨rfl, e3, (by decide : 0 + 0 ≤ _), (by decide : 0 + 0 ≤ _)⟩)
  dsimp only [Pt.U, Pt.locs, Pt.cells, Pt.slots] at X4 l4 y4 z4 st4 hQ4
  subst l4 y4 z4
  obtain ⟨rfl, N4q, e4⟩ := hQ4
  have N4 := Fr.app N3 N4q
  refine Ends.by ?_ st4
  show Ends p e below _ _ (T4.setTop (mkF m 36 #[.val (.int x0), .val (.int x1), .val (.int x2), .val (.int x3), .val (.int x4), .val (.int sm), .val (.int na), .val (.int ka), .unset, .unset, .unset, .unset, .unset, .unset, .unset, .unset, .unset, .unset, .unset, .unset] [(.int (f1 x2 sm))]))
  show Ends p e below _ _ (T4.setTop (mkF m 36 #[.val (.int x0), .val (.int x1), .val (.int x2), .val (.int x3), .val (.int x4), .val (.int sm), .val (.int na), .val (.int ka), .unset, .unset, .unset, .unset, .unset, .unset, .unset, .unset, .unset, .unset, .unset, .unset] [(.int (f1 x2 sm))]))
  obtain ⟨NB, nb, hEb, h0b, h1b, h2b, h3b⟩ := own_len x2 sm
  rw [← hEb]
  show Ends p e below _ _ (T4.setTop (mkF m 36 #[.val (.int x0), .val (.int x1), .val (.int x2), .val (.int x3), .val (.int x4), .val (.int sm), .val (.int na), .val (.int ka), .unset, .unset, .unset, .unset, .unset, .unset, .unset, .unset, .unset, .unset, .unset, .unset] [(.int nb)]))
  refine Es.istore (q := 38) (l' := #[.val (.int x0), .val (.int x1), .val (.int x2), .val (.int x3), .val (.int x4), .val (.int sm), .val (.int na), .val (.int ka), .val (.int nb), .unset, .unset, .unset, .unset, .unset, .unset, .unset, .unset, .unset, .unset, .unset]) ?_ X4 hx (hb hby at_36) rfl rfl
  refine Es.iloadN (q := 39) ?_ X4 hx (hb hby at_38) rfl rfl
  refine Es.iload (q := 41) ?_ X4 hx (hb hby at_39) rfl rfl
  obtain ⟨v5, _, ⟨T5, L5, k5, n5⟩, -, X5, ⟨Lc5, hQ5, l5, y5, z5⟩, st5⟩ := Jvm.LawKit.callS X4 hx (y := (⟨"com/example/tarsier/tarsier/elements/PageElementLinkRatioPinLaw", "links", "(II)I"⟩ : MethodName)) hown (mvT hZ (hw _ (List.mem_of_getElem? (i := 9) rfl))) (mvT hZ (hw _ (List.mem_of_getElem? (i := 10) rfl))) (mvT hZ (hw _ (List.mem_of_getElem? (i := 2) rfl))) (mvT hZ (hw _ (List.mem_of_getElem? (i := 11) rfl))) (by decide) (backOf (W := 0) (rm3 l Z a0 hw [] x3 nb h n0 Zs (by omega)) hZ (hw _ (List.mem_of_getElem? (i := 11) rfl)) (hw _ (List.mem_of_getElem? (i := 2) rfl)) (by decide) (by decide)) (g := (mkF m 41 #[.val (.int x0), .val (.int x1), .val (.int x2), .val (.int x3), .val (.int x4), .val (.int sm), .val (.int na), .val (.int ka), .val (.int nb), .unset, .unset, .unset, .unset, .unset, .unset, .unset, .unset, .unset, .unset, .unset] [(.int nb), (.int x3)])) rfl (by rw [hml]; rfl) (argsL := [(.int x3), (.int nb)]) (rest := []) (lenOf pd_0 rfl) rfl (by show 2 * 0 + _ ≤ _; exact Nat.le_of_eq rfl) (hb hby at_41) (fun _ _ => ⟨rfl, e4, (by decide : 0 + 0 ≤ _), (by decide : 0 + 0 ≤ _)⟩)
  dsimp only [Pt.U, Pt.locs, Pt.cells, Pt.slots] at X5 l5 y5 z5 st5 hQ5
  subst l5 y5 z5
  obtain ⟨rfl, N5q, e5⟩ := hQ5
  have N5 := Fr.app N4 N5q
  refine Ends.by ?_ st5
  show Ends p e below _ _ (T5.setTop (mkF m 44 #[.val (.int x0), .val (.int x1), .val (.int x2), .val (.int x3), .val (.int x4), .val (.int sm), .val (.int na), .val (.int ka), .val (.int nb), .unset, .unset, .unset, .unset, .unset, .unset, .unset, .unset, .unset, .unset, .unset] [(.int (f3 x3 nb))]))
  show Ends p e below _ _ (T5.setTop (mkF m 44 #[.val (.int x0), .val (.int x1), .val (.int x2), .val (.int x3), .val (.int x4), .val (.int sm), .val (.int na), .val (.int ka), .val (.int nb), .unset, .unset, .unset, .unset, .unset, .unset, .unset, .unset, .unset, .unset, .unset] [(.int (f3 x3 nb))]))
  obtain ⟨KB, kb, hFb, h4b, h5b⟩ := own_links x3 h0b h3b
  rw [← hFb]
  have RB : Rt KB NB kb nb := ⟨h0b, h4b, h1b, h5b, h3b⟩
  show Ends p e below _ _ (T5.setTop (mkF m 44 #[.val (.int x0), .val (.int x1), .val (.int x2), .val (.int x3), .val (.int x4), .val (.int sm), .val (.int na), .val (.int ka), .val (.int nb), .unset, .unset, .unset, .unset, .unset, .unset, .unset, .unset, .unset, .unset, .unset] [(.int kb)]))
  refine Es.istore (q := 46) (l' := #[.val (.int x0), .val (.int x1), .val (.int x2), .val (.int x3), .val (.int x4), .val (.int sm), .val (.int na), .val (.int ka), .val (.int nb), .val (.int kb), .unset, .unset, .unset, .unset, .unset, .unset, .unset, .unset, .unset, .unset]) ?_ X5 hx (hb hby at_44) rfl rfl
  exact sg0_46 hx hZ hw hby hml hown hlk hret (x0) (x1) (x2) (x3) (x4) (sm) (NA) (KA) (NB) (KB) (na) (ka) (nb) (kb) hS hk X5 e5 N5 Zs RA RB h2a h2b

theorem ef_rm0 (m : MethodId) (x0 : Int32) (x1 : Int32) (x2 : Int32) (x3 : Int32) (x4 : Int32) : entryFrame m #[(.int x0), (.int x1), (.int x2), (.int x3), (.int x4)] maxLocals = mkF m 0 #[.val (.int x0), .val (.int x1), .val (.int x2), .val (.int x3), .val (.int x4), .unset, .unset, .unset, .unset, .unset, .unset, .unset, .unset, .unset, .unset, .unset, .unset, .unset, .unset, .unset] [] := by first | (simp [entryFrame, mkF, argsToLocals, Value.category, maxLocals]; done) | rfl
set_option maxRecDepth 65536 in
set_option maxHeartbeats 40000000 in
theorem rm0 (l : Launch) (Z : State) (a0 : Array Value) (hw : ∀ d ∈ tables_1, d.before a0 Z = true) (ws : List Jvm.Cond) (x0 : Int32) (x1 : Int32) (x2 : Int32) (x3 : Int32) (x4 : Int32) (h0 : Heap) (n0 : Nat) (Z0 : n0 ≤ h0.size) :
    MetFree l x (head1 (Jvm.Cond.code x code maxLocals ret :: ws) room_1) (fun a U => a = #[(.int x0), (.int x1), (.int x2), (.int x3), (.int x4)] ∧ Z.Warmed39 U.vm ∧ U.heap = h0) (fun _ _ _ _ _ => True) (fun _ U o U' => ∃ v L, o = .returned v ∧ (QL n0) v U'.heap L ∧ ReturnedEndW U o U' L room_1.cells room_1.slots) := by
  refine MetFree.of_bodySF (plainFor_of_name pn_0) hisR ?_
  intro p e s m args below meth c s₁ Bd hml0 hP hK
  obtain ⟨rfl, hZ, hh⟩ := hP
  have hx := Bd.exec
  have hby := Bd.bytes
  have hml : c.maxLocals = 20 := hml0
  have hown : s.vm.findClass "com/example/tarsier/tarsier/elements/PageElementLinkRatioPinLaw" = some m.cls := findClass_of_methodNamed Bd.named
  have hnm := (name_of_methodNamed Bd.named Bd.method).1
  have X0 : Stand p l e room_1 (s.setVm s.vm) m #[(.int x0), (.int x1), (.int x2), (.int x3), (.int x4)] below meth c s₁ [] 0 0 := Stand.of_body Bd
  have e0 : s₁.heap = h0 := by rw [← hh, Bd.state]; rfl
  have N0 := Fr.nil n0
  have hS : s.Since s.vm s.heap.size := (State.WarmedH.refl s).since _
  have hk0 : s.heap.size ≤ h0.size := by rw [← hh]; exact Nat.le_refl _
  show Ends p e below (FW s room_1.cells room_1.slots) (QL n0) (s₁.setTop (entryFrame m #[(.int x0), (.int x1), (.int x2), (.int x3), (.int x4)] maxLocals))
  rw [ef_rm0 m x0 x1 x2 x3 x4]
  show Ends p e below _ _ (s₁.setTop (mkF m 0 #[.val (.int x0), .val (.int x1), .val (.int x2), .val (.int x3), .val (.int x4), .unset, .unset, .unset, .unset, .unset, .unset, .unset, .unset, .unset, .unset, .unset, .unset, .unset, .unset, .unset] []))
  refine Es.iload (q := 2) ?_ X0 hx (hb hby at_0) rfl rfl
  refine Es.iconst (q := 3) (z := (1 : Int32)) ?_ X0 hx (hb hby at_2) rfl rfl
  refine Es.iand (q := 4) ?_ X0 hx (hb hby at_3) rfl
  by_cases hc1 : (x4 &&& (1 : Int32)) = (0 : Int32)
  · refine Es.ifYes (q := 11) ?_ X0 hx (hb hby at_4) (XT.i0_eq_t hc1) (by decide) (by decide)
    refine Es.iconst (q := 12) (z := (0 : Int32)) ?_ X0 hx (hb hby at_11) rfl rfl
    refine Es.istore (q := 14) (l' := #[.val (.int x0), .val (.int x1), .val (.int x2), .val (.int x3), .val (.int x4), .val (.int (0 : Int32)), .unset, .unset, .unset, .unset, .unset, .unset, .unset, .unset, .unset, .unset, .unset, .unset, .unset, .unset]) ?_ X0 hx (hb hby at_12) rfl rfl
    exact sg0_14 hx hZ hw hby hml hown Bd.notSynchronized Bd.returns (x0) (x1) (x2) (x3) (x4) ((0 : Int32)) hS hk0 X0 e0 N0 Z0
  · refine Es.ifNo (q := 7) ?_ X0 hx (hb hby at_4) rfl (XT.i0_eq_f hc1)
    refine Es.iconst (q := 8) (z := (1 : Int32)) ?_ X0 hx (hb hby at_7) rfl rfl
    refine Es.goto (q := 12) ?_ X0 hx (hb hby at_8) (by decide) (by decide)
    refine Es.istore (q := 14) (l' := #[.val (.int x0), .val (.int x1), .val (.int x2), .val (.int x3), .val (.int x4), .val (.int (1 : Int32)), .unset, .unset, .unset, .unset, .unset, .unset, .unset, .unset, .unset, .unset, .unset, .unset, .unset, .unset]) ?_ X0 hx (hb hby at_12) rfl rfl
    exact sg0_14 hx hZ hw hby hml hown Bd.notSynchronized Bd.returns (x0) (x1) (x2) (x3) (x4) ((1 : Int32)) hS hk0 X0 e0 N0 Z0

set_option maxRecDepth 65536 in
set_option maxHeartbeats 40000000 in
theorem comes_1 {Post : Tables → Env → Array Value → State → Outcome → State → Prop} (hpost : ∀ tb e args s v u, (limb_1_1.after args s (.returned v) u = true ∧ limb_1_2.after args s (.returned v) u = true ∧ True) → ReturnedEndW s (.returned v) u (Jvm.fieldLocs frame_1_writes args s ++ Jvm.arrayLocs frame_1_arrays args s ++ Jvm.staticLocs frame_1_statics s) 24 4224 → Post tb e args s (.returned v) u) :
    ArmFor flags0 classFile x code maxLocals ret World_1 tables_1 room_1 Calls_1 rest_1 Pre_1 Post := by
  intro l hfl _ _ p e ha hc hk s m args below hf hA hF happ hP
  obtain ⟨hcalls, hrest, hpre⟩ := hP
  obtain ⟨-, -, -, hnamed, -, -, -, hat⟩ := (Spec.applies_iff hf).mp happ
  obtain ⟨hg, hn⟩ := and_e (Cond.before_iff.mp (show (Jvm.Cond.and given_1 narrow_1).before args s = true from hpre))
  obtain ⟨g1, g2⟩ := and_e hg
  obtain ⟨g3, g4⟩ := and_e g2
  obtain ⟨g5, g6⟩ := and_e g4
  obtain ⟨g7, g8⟩ := and_e g6
  obtain ⟨g9, g10⟩ := and_e g8
  obtain ⟨w0, w1, w2, w3, w4, rfl⟩ : ∃ w0 w1 w2 w3 w4 : Value, args = #[w0, w1, w2, w3, w4] := by
    have hs : args.size = 5 := by simpa [Cond.value, given_1] using g1
    obtain ⟨L⟩ := args
    match L, hs with
    | [w0, w1, w2, w3, w4], _ => exact ⟨w0, w1, w2, w3, w4, rfl⟩
  have hw := fun d (hd : d ∈ tables_1) => atoms_spec (ws := Jvm.Cond.code x code maxLocals ret :: tables_1) hat d (List.mem_cons_of_mem _ hd)
  obtain ⟨i0, ei0⟩ := is_v g3
  obtain rfl : w0 = (.int i0) := Option.some.inj ei0
  obtain ⟨i1, ei1⟩ := is_v g5
  obtain rfl : w1 = (.int i1) := Option.some.inj ei1
  obtain ⟨i2, ei2⟩ := is_v g7
  obtain rfl : w2 = (.int i2) := Option.some.inj ei2
  obtain ⟨i3, ei3⟩ := is_v g9
  obtain rfl : w3 = (.int i3) := Option.some.inj ei3
  obtain ⟨i4, ei4⟩ := is_v g10
  obtain rfl : w4 = (.int i4) := Option.some.inj ei4
  obtain ⟨n, o, h1, h2, h3, v, L, rfl, hQ, hq⟩ := rm0 l s _ hw tables_1 i0 i1 i2 i3 i4 s.heap s.heap.size (Nat.le_refl _) p e ha hc hk s m _ below hf ((Spec.applies_iff_loose hf).mp happ).1 ⟨rfl, State.Warmed39.refl s, rfl⟩ trivial
  obtain ⟨rfl, N⟩ := hQ
  refine ⟨n, _, h1, h2, h3, hpost _ _ _ _ _ _ ⟨Cond.after_iff.mpr rfl, Cond.after_iff.mpr (eq_i res_at (Term.int_eval (1)) rfl), trivial⟩ ⟨hq.1, hq.2.1, hq.2.2.1, (hq.2.2.2.sift fun y hy => Or.inr (N y hy)).mono (by decide) (by decide)⟩⟩
theorem main_1_1 : Claimed_1_1 := comes_1 fun _ _ _ _ _ _ h hF => ⟨h.1, hF⟩
theorem main_1_2 : Claimed_1_2 := comes_1 fun _ _ _ _ _ _ h hF => ⟨h.2.1, hF⟩
end Jvm.Pilot.@@N@@
namespace Jvm.Pilot.@@N@@
open Jvm Jvm.ClassFile Sem Op Lib Jvm.Free Jvm.Stand Jvm.Pilot.@@N@@.Jvm.D
/-! MADE BY PROGRAM (witnessworld.py) out of the Statement's table words and the real class files: 16 classes; the members and pool entries that the words name. The judged class is class 1, her method 4. -/
namespace start1
open Jvm.ClassFile
def u (s : String) : CpInfo := .utf8 (stringToUtf16 s)
/-- a pool by its gaps: so many unusable entries, then the entry; so many at the end -/
def gap : Nat → List CpInfo → List CpInfo
  | 0, r => r
  | n + 1, r => .unusable :: gap n r
def poolList (es : List (Nat × CpInfo)) (last : Nat) : List CpInfo := es.foldr (fun e r => gap e.1 (e.2 :: r)) (gap last [])
def pool (es : List (Nat × CpInfo)) (last : Nat) : Array CpInfo := ⟨poolList es last⟩
def fileOf (pool : Array CpInfo) (this : Nat) (attrs : Array Attribute := #[]) (ms : Array MethodInfo := #[]) (fl : Nat := 33) (sup : Nat := 0) (ifs : Array Nat := #[]) (fds : Array FieldInfo := #[]) : ClassFile where
  minorVersion := 0
  majorVersion := 65
  constantPool := pool
  accessFlags := fl
  thisClass := this
  superClass := sup
  interfaces := ifs
  fields := fds
  methods := ms
  attributes := attrs
def plain (name : String) (sup : Option ClassId) : Class where
  name := name
  kind := .ordinary
  loader := none
  accessFlags := 33
  super := sup
  interfaces := #[]
  cf := none
  fields := #[]
  methods := #[]
  instanceTypes := #[]
  staticTypes := #[]
  resolved := #[]
  callSites := []
  init := .initialized
  statics := none
  mirror := none

def pool0 : Array CpInfo := pool [(5, u "<init>"), (0, u "()V"), (1, .class_ 10), (1, u "java/lang/Object")] 113

def k0c0 : Code := { maxStack := 0, maxLocals := 1, code := object_method_1_code, exceptionTable := #[], attributes := #[] }
def k0m0 : Method := { name := "<init>", desc := "()V", sig := { parameters := [], returnType := none }, accessFlags := 1, code := some k0c0 }
/-- java/lang/Object -/
def k0 : Class := { plain "java/lang/Object" none with
  accessFlags := 33
  interfaces := #[]
  cf := some (fileOf pool0 8 #[] #[{ accessFlags := 1, nameIndex := 5, descriptorIndex := 6, attributes := #[] }] 33 0 #[] #[])
  fields := #[]
  methods := #[k0m0]
  instanceTypes := #[]
  staticTypes := #[]
  resolved := Array.replicate 124 none
  statics := none }

def pool1 : Array CpInfo := pool [(2, .class_ 4), (1, u "java/lang/Object"), (0, u "<init>"), (0, u "()V"), (0, .integer 1048575), (0, .integer 2147483647), (0, .methodref 10 11), (0, .class_ 12), (0, .nameAndType 13 14), (0, u "java/lang/Math"), (0, u "max"), (0, u "(II)I"), (0, .long 2147483647), (1, .methodref 18 19), (0, .class_ 20), (0, .nameAndType 21 22), (0, u "com/example/tarsier/tarsier/elements/PageElementLinkRatioPinLaw"), (0, u "len"), (0, u "(IZ)I"), (0, .methodref 18 24), (0, .nameAndType 25 14), (0, u "links"), (0, .class_ 27), (0, u "com/example/tarsier/tarsier/elements/PageElement"), (0, .string 29), (0, u "p"), (0, .string 31), (0, u "c"), (0, .methodref 26 33), (0, .nameAndType 5 34), (0, u "(Ljava/lang/String;Ljava/lang/String;III)V"), (0, .string 36), (0, u "q"), (0, .string 38), (0, u "d"), (0, .methodref 26 40), (0, .nameAndType 41 42), (0, u "linkRatio"), (0, u "()D"), (0, .methodref 18 44), (0, .nameAndType 45 46), (0, u "single"), (0, u "(DII)Z"), (3, u "law"), (0, u "(IIIII)Z")] 2

def k1m0 : Method := { name := "<init>", desc := "()V", sig := { parameters := [], returnType := none }, accessFlags := 1, code := none }
def k1c1 : Code := { maxStack := 2, maxLocals := 3, code := method_2_code, exceptionTable := #[], attributes := #[] }
def k1m1 : Method := { name := "len", desc := "(IZ)I", sig := { parameters := [.int, .boolean], returnType := some .int }, accessFlags := 10, code := some k1c1 }
def k1c2 : Code := { maxStack := 6, maxLocals := 2, code := method_3_code, exceptionTable := #[], attributes := #[] }
def k1m2 : Method := { name := "links", desc := "(II)I", sig := { parameters := [.int, .int], returnType := some .int }, accessFlags := 10, code := some k1c2 }
def k1c3 : Code := { maxStack := 4, maxLocals := 4, code := method_4_code, exceptionTable := #[], attributes := #[] }
def k1m3 : Method := { name := "single", desc := "(DII)Z", sig := { parameters := [.double, .int, .int], returnType := some .boolean }, accessFlags := 10, code := some k1c3 }
def k1c4 : Code := { maxStack := 7, maxLocals := 20, code := code, exceptionTable := #[], attributes := #[] }
def k1m4 : Method := { name := "law", desc := "(IIIII)Z", sig := { parameters := [.int, .int, .int, .int, .int], returnType := some .boolean }, accessFlags := 9, code := some k1c4 }
/-- com/example/tarsier/tarsier/elements/PageElementLinkRatioPinLaw -/
def k1 : Class := { plain "com/example/tarsier/tarsier/elements/PageElementLinkRatioPinLaw" (some 0) with
  accessFlags := 49
  interfaces := #[]
  cf := some (fileOf pool1 18 #[] #[{ accessFlags := 1, nameIndex := 5, descriptorIndex := 6, attributes := #[] }, { accessFlags := 10, nameIndex := 21, descriptorIndex := 22, attributes := #[] }, { accessFlags := 10, nameIndex := 25, descriptorIndex := 14, attributes := #[] }, { accessFlags := 10, nameIndex := 45, descriptorIndex := 46, attributes := #[] }, { accessFlags := 9, nameIndex := 50, descriptorIndex := 51, attributes := #[] }] 49 2 #[] #[])
  fields := #[]
  methods := #[k1m0, k1m1, k1m2, k1m3, k1m4]
  instanceTypes := #[]
  staticTypes := #[]
  resolved := Array.replicate 54 none
  statics := none }

def pool2 : Array CpInfo := pool [(1, .class_ 2), (0, u "java/lang/Math"), (1, .class_ 6), (1, u "java/lang/Object"), (0, u "<init>"), (0, u "()V"), (89, .class_ 100), (1, u "java/lang/Math$RandomNumberGeneratorHolder"), (71, u "negativeZeroFloatBits"), (0, u "J"), (2, u "negativeZeroDoubleBits"), (21, u "max"), (46, u "$assertionsDisabled"), (0, u "Z"), (88, u "(II)I"), (2, u "twoToTheDoubleScaleDown"), (0, u "D"), (4, u "twoToTheDoubleScaleUp"), (9, u "E"), (3, u "PI"), (2, u "TAU"), (2, u "DEGREES_TO_RADIANS"), (0, u "RADIANS_TO_DEGREES")] 94

def k2m0 : Method := { name := "<init>", desc := "()V", sig := { parameters := [], returnType := none }, accessFlags := 2, code := none }
def k2c1 : Code := { maxStack := 2, maxLocals := 2, code := jdk_29_method_65_code, exceptionTable := #[], attributes := #[] }
def k2m1 : Method := { name := "max", desc := "(II)I", sig := { parameters := [.int, .int], returnType := some .int }, accessFlags := 9, code := some k2c1 }
/-- java/lang/Math -/
def k2 : Class := { plain "java/lang/Math" (some 0) with
  accessFlags := 49
  interfaces := #[]
  cf := some (fileOf pool2 1 #[.nestMembers #[98]] #[{ accessFlags := 2, nameIndex := 7, descriptorIndex := 8, attributes := #[] }, { accessFlags := 9, nameIndex := 198, descriptorIndex := 335, attributes := #[] }] 49 4 #[] #[{ accessFlags := 25, nameIndex := 354, descriptorIndex := 339, attributes := #[] }, { accessFlags := 25, nameIndex := 358, descriptorIndex := 339, attributes := #[] }, { accessFlags := 25, nameIndex := 361, descriptorIndex := 339, attributes := #[] }, { accessFlags := 26, nameIndex := 364, descriptorIndex := 339, attributes := #[] }, { accessFlags := 26, nameIndex := 365, descriptorIndex := 339, attributes := #[] }, { accessFlags := 26, nameIndex := 172, descriptorIndex := 173, attributes := #[] }, { accessFlags := 26, nameIndex := 176, descriptorIndex := 173, attributes := #[] }, { accessFlags := 8, nameIndex := 344, descriptorIndex := 339, attributes := #[] }, { accessFlags := 8, nameIndex := 338, descriptorIndex := 339, attributes := #[] }, { accessFlags := 4120, nameIndex := 245, descriptorIndex := 246, attributes := #[] }])
  fields := #[{ name := "E", type := .double, accessFlags := 25, slot := 0, constantValue := 0 }, { name := "PI", type := .double, accessFlags := 25, slot := 1, constantValue := 0 }, { name := "TAU", type := .double, accessFlags := 25, slot := 2, constantValue := 0 }, { name := "DEGREES_TO_RADIANS", type := .double, accessFlags := 26, slot := 3, constantValue := 0 }, { name := "RADIANS_TO_DEGREES", type := .double, accessFlags := 26, slot := 4, constantValue := 0 }, { name := "negativeZeroFloatBits", type := .long, accessFlags := 26, slot := 5, constantValue := 0 }, { name := "negativeZeroDoubleBits", type := .long, accessFlags := 26, slot := 6, constantValue := 0 }, { name := "twoToTheDoubleScaleUp", type := .double, accessFlags := 8, slot := 7, constantValue := 0 }, { name := "twoToTheDoubleScaleDown", type := .double, accessFlags := 8, slot := 8, constantValue := 0 }, { name := "$assertionsDisabled", type := .boolean, accessFlags := 4120, slot := 9, constantValue := 0 }]
  methods := #[k2m0, k2m1]
  instanceTypes := #[]
  staticTypes := #[.double, .double, .double, .double, .double, .long, .long, .double, .double, .boolean]
  resolved := Array.replicate 460 none
  statics := none }

def pool3 : Array CpInfo := pool [(1, .methodref 2 3), (0, .class_ 4), (0, .nameAndType 5 6), (0, u "java/lang/Object"), (0, u "<init>"), (0, u "()V"), (0, .class_ 8), (0, u "java/lang/Record")] 13

def k3c0 : Code := { maxStack := 1, maxLocals := 1, code := jdk_30_method_1_code, exceptionTable := #[], attributes := #[] }
def k3m0 : Method := { name := "<init>", desc := "()V", sig := { parameters := [], returnType := none }, accessFlags := 4, code := some k3c0 }
/-- java/lang/Record -/
def k3 : Class := { plain "java/lang/Record" (some 0) with
  accessFlags := 1057
  interfaces := #[]
  cf := some (fileOf pool3 7 #[] #[{ accessFlags := 4, nameIndex := 5, descriptorIndex := 6, attributes := #[] }] 1057 2 #[] #[])
  fields := #[]
  methods := #[k3m0]
  instanceTypes := #[]
  staticTypes := #[]
  resolved := Array.replicate 22 none
  statics := none }

def pool4 : Array CpInfo := pool [(1, .methodref 2 3), (0, .class_ 4), (0, .nameAndType 5 6), (0, u "java/lang/Record"), (0, u "<init>"), (0, u "()V"), (0, .fieldref 8 9), (0, .class_ 10), (0, .nameAndType 11 12), (0, u "com/example/tarsier/tarsier/elements/PageElement"), (0, u "path"), (0, u "Ljava/lang/String;"), (0, .fieldref 8 14), (0, .nameAndType 15 12), (0, u "elementClass"), (0, .fieldref 8 17), (0, .nameAndType 18 19), (0, u "offset"), (0, u "I"), (0, .fieldref 8 21), (0, .nameAndType 22 19), (0, u "length"), (0, .fieldref 8 24), (0, .nameAndType 25 19), (0, u "linkLength"), (12, u "(Ljava/lang/String;Ljava/lang/String;III)V"), (3, u "linkRatio"), (0, u "()D")] 27

def k4c0 : Code := { maxStack := 2, maxLocals := 6, code := prog_3_method_1_code, exceptionTable := #[], attributes := #[] }
def k4m0 : Method := { name := "<init>", desc := "(Ljava/lang/String;Ljava/lang/String;III)V", sig := { parameters := [(.object "java/lang/String"), (.object "java/lang/String"), .int, .int, .int], returnType := none }, accessFlags := 1, code := some k4c0 }
def k4c1 : Code := { maxStack := 4, maxLocals := 1, code := prog_3_method_2_code, exceptionTable := #[], attributes := #[] }
def k4m1 : Method := { name := "linkRatio", desc := "()D", sig := { parameters := [], returnType := some .double }, accessFlags := 1, code := some k4c1 }
/-- com/example/tarsier/tarsier/elements/PageElement -/
def k4 : Class := { plain "com/example/tarsier/tarsier/elements/PageElement" (some 3) with
  accessFlags := 49
  interfaces := #[]
  cf := some (fileOf pool4 8 #[] #[{ accessFlags := 1, nameIndex := 5, descriptorIndex := 38, attributes := #[] }, { accessFlags := 1, nameIndex := 42, descriptorIndex := 43, attributes := #[] }] 49 2 #[] #[{ accessFlags := 18, nameIndex := 11, descriptorIndex := 12, attributes := #[] }, { accessFlags := 18, nameIndex := 15, descriptorIndex := 12, attributes := #[] }, { accessFlags := 18, nameIndex := 18, descriptorIndex := 19, attributes := #[] }, { accessFlags := 18, nameIndex := 22, descriptorIndex := 19, attributes := #[] }, { accessFlags := 18, nameIndex := 25, descriptorIndex := 19, attributes := #[] }])
  fields := #[{ name := "path", type := (.object "java/lang/String"), accessFlags := 18, slot := 0, constantValue := 0 }, { name := "elementClass", type := (.object "java/lang/String"), accessFlags := 18, slot := 1, constantValue := 0 }, { name := "offset", type := .int, accessFlags := 18, slot := 2, constantValue := 0 }, { name := "length", type := .int, accessFlags := 18, slot := 3, constantValue := 0 }, { name := "linkLength", type := .int, accessFlags := 18, slot := 4, constantValue := 0 }]
  methods := #[k4m0, k4m1]
  instanceTypes := #[(.object "java/lang/String"), (.object "java/lang/String"), .int, .int, .int]
  staticTypes := #[]
  resolved := Array.replicate 71 none
  statics := none }

def pool5 : Array CpInfo := pool [(1, .class_ 2), (0, u "java/io/Serializable"), (0, .class_ 4), (0, u "java/lang/Object")] 2

/-- java/io/Serializable -/
def k5 : Class := { plain "java/io/Serializable" (some 0) with
  accessFlags := 1537
  interfaces := #[]
  cf := some (fileOf pool5 1 #[] #[] 1537 3 #[] #[])
  fields := #[]
  methods := #[]
  instanceTypes := #[]
  staticTypes := #[]
  resolved := Array.replicate 7 none
  statics := none }

def pool6 : Array CpInfo := pool [(1, .class_ 2), (0, u "java/lang/Comparable"), (0, .class_ 4), (0, u "java/lang/Object")] 7

/-- java/lang/Comparable -/
def k6 : Class := { plain "java/lang/Comparable" (some 0) with
  accessFlags := 1537
  interfaces := #[]
  cf := some (fileOf pool6 1 #[] #[] 1537 3 #[] #[])
  fields := #[]
  methods := #[]
  instanceTypes := #[]
  staticTypes := #[]
  resolved := Array.replicate 12 none
  statics := none }

def pool7 : Array CpInfo := pool [(2, .class_ 4), (1, u "java/lang/CharSequence"), (42, .class_ 48), (0, u "java/lang/CharSequence$1CodePointIterator"), (10, .class_ 60), (0, u "java/lang/CharSequence$1CharIterator"), (5, .class_ 67), (0, u "java/lang/Object")] 63

/-- java/lang/CharSequence -/
def k7 : Class := { plain "java/lang/CharSequence" (some 0) with
  accessFlags := 1537
  interfaces := #[]
  cf := some (fileOf pool7 2 #[.nestMembers #[47, 59]] #[] 1537 66 #[] #[])
  fields := #[]
  methods := #[]
  instanceTypes := #[]
  staticTypes := #[]
  resolved := Array.replicate 131 none
  statics := none }

def pool8 : Array CpInfo := pool [(1, .class_ 2), (0, u "java/lang/constant/Constable"), (0, .class_ 4), (0, u "java/lang/Object")] 6

/-- java/lang/constant/Constable -/
def k8 : Class := { plain "java/lang/constant/Constable" (some 0) with
  accessFlags := 1537
  interfaces := #[]
  cf := some (fileOf pool8 1 #[] #[] 1537 3 #[] #[])
  fields := #[]
  methods := #[]
  instanceTypes := #[]
  staticTypes := #[]
  resolved := Array.replicate 11 none
  statics := none }

def pool9 : Array CpInfo := pool [(1, .class_ 2), (0, u "java/lang/constant/ConstantDesc"), (0, .class_ 4), (0, u "java/lang/Object")] 32

/-- java/lang/constant/ConstantDesc -/
def k9 : Class := { plain "java/lang/constant/ConstantDesc" (some 0) with
  accessFlags := 1537
  interfaces := #[]
  cf := some (fileOf pool9 1 #[] #[] 1537 3 #[] #[])
  fields := #[]
  methods := #[]
  instanceTypes := #[]
  staticTypes := #[]
  resolved := Array.replicate 37 none
  statics := none }

def pool10 : Array CpInfo := pool [(2, .class_ 4), (1, u "java/lang/Object"), (0, u "<init>"), (0, u "()V"), (3, .class_ 12), (1, u "java/lang/String"), (0, u "value"), (0, u "[B"), (2, u "coder"), (0, u "B"), (2, u "hash"), (0, u "I"), (2, u "hashIsZero"), (0, u "Z"), (13, u "COMPACT_STRINGS"), (534, .class_ 576), (0, u "java/lang/CharSequence"), (22, u "CASE_INSENSITIVE_ORDER"), (0, u "Ljava/util/Comparator;"), (500, u "serialPersistentFields"), (0, u "[Ljava/io/ObjectStreamField;"), (0, .class_ 1104), (0, u "java/lang/String$CaseInsensitiveComparator"), (1, .class_ 1107), (0, u "java/io/Serializable"), (0, .class_ 1109), (0, u "java/lang/Comparable"), (0, .class_ 1111), (0, u "java/lang/constant/Constable"), (0, .class_ 1113), (0, u "java/lang/constant/ConstantDesc"), (2, u "serialVersionUID"), (0, u "J"), (3, u "REPL"), (0, u "C"), (2, u "LATIN1"), (1, u "UTF16")] 323

def k10m0 : Method := { name := "<init>", desc := "()V", sig := { parameters := [], returnType := none }, accessFlags := 1, code := none }
/-- java/lang/String -/
def k10 : Class := { plain "java/lang/String" (some 0) with
  accessFlags := 49
  interfaces := #[5, 6, 7, 8, 9]
  cf := some (fileOf pool10 10 #[.nestMembers #[1103]] #[{ accessFlags := 1, nameIndex := 5, descriptorIndex := 6, attributes := #[] }] 49 2 #[1106, 1108, 575, 1110, 1112] #[{ accessFlags := 18, nameIndex := 13, descriptorIndex := 14, attributes := #[] }, { accessFlags := 18, nameIndex := 17, descriptorIndex := 18, attributes := #[] }, { accessFlags := 2, nameIndex := 21, descriptorIndex := 22, attributes := #[] }, { accessFlags := 2, nameIndex := 25, descriptorIndex := 26, attributes := #[] }, { accessFlags := 26, nameIndex := 1116, descriptorIndex := 1117, attributes := #[] }, { accessFlags := 24, nameIndex := 40, descriptorIndex := 26, attributes := #[] }, { accessFlags := 26, nameIndex := 1101, descriptorIndex := 1102, attributes := #[] }, { accessFlags := 26, nameIndex := 1121, descriptorIndex := 1122, attributes := #[] }, { accessFlags := 25, nameIndex := 599, descriptorIndex := 600, attributes := #[] }, { accessFlags := 24, nameIndex := 1125, descriptorIndex := 18, attributes := #[] }, { accessFlags := 24, nameIndex := 1127, descriptorIndex := 18, attributes := #[] }])
  fields := #[{ name := "value", type := (.array .byte), accessFlags := 18, slot := 0, constantValue := 0 }, { name := "coder", type := .byte, accessFlags := 18, slot := 1, constantValue := 0 }, { name := "hash", type := .int, accessFlags := 2, slot := 2, constantValue := 0 }, { name := "hashIsZero", type := .boolean, accessFlags := 2, slot := 3, constantValue := 0 }, { name := "serialVersionUID", type := .long, accessFlags := 26, slot := 0, constantValue := 0 }, { name := "COMPACT_STRINGS", type := .boolean, accessFlags := 24, slot := 1, constantValue := 0 }, { name := "serialPersistentFields", type := (.array (.object "java/io/ObjectStreamField")), accessFlags := 26, slot := 2, constantValue := 0 }, { name := "REPL", type := .char, accessFlags := 26, slot := 3, constantValue := 0 }, { name := "CASE_INSENSITIVE_ORDER", type := (.object "java/util/Comparator"), accessFlags := 25, slot := 4, constantValue := 0 }, { name := "LATIN1", type := .byte, accessFlags := 24, slot := 5, constantValue := 0 }, { name := "UTF16", type := .byte, accessFlags := 24, slot := 6, constantValue := 0 }]
  methods := #[k10m0]
  instanceTypes := #[(.array .byte), .byte, .int, .boolean]
  staticTypes := #[.long, .boolean, (.array (.object "java/io/ObjectStreamField")), .char, (.object "java/util/Comparator"), .byte, .byte]
  resolved := Array.replicate 1451 none
  statics := none }

def pool11 : Array CpInfo := pool [(1, u "java/lang/Cloneable"), (0, .class_ 1), (0, u "java/lang/Object"), (0, .class_ 3)] 3

/-- java/lang/Cloneable -/
def k11 : Class := { plain "java/lang/Cloneable" (some 0) with
  accessFlags := 1537
  interfaces := #[]
  cf := some (fileOf pool11 2 #[] #[] 1537 4 #[] #[])
  fields := #[]
  methods := #[]
  instanceTypes := #[]
  staticTypes := #[]
  resolved := Array.replicate 8 none
  statics := none }

/-- the primitive byte -/
def k12 : Class := { plain "byte" none with kind := .primitive 'B', accessFlags := 0x411 }
/-- [B -/
def k13 : Class := { plain "[B" (some 0) with kind := .array 12 .byte, interfaces := #[11, 5], accessFlags := 1041 }

/-- the primitive int -/
def k14 : Class := { plain "int" none with kind := .primitive 'I', accessFlags := 0x411 }
/-- [I -/
def k15 : Class := { plain "[I" (some 0) with kind := .array 14 .int, interfaces := #[11, 5], accessFlags := 1041 }

def heap : Heap := #[]
def classes : Array Class := #[k0, k1, k2, k3, k4, k5, k6, k7, k8, k9, k10, k11, k12, k13, k14, k15]
def interned : List (Array UInt16 × Addr) := []
def slotsUsed : Nat := 0
def theMethod : MethodId := ⟨1, 4⟩
def args0 : Array Value := #[.int 5, .int 7, .int 3, .int 9, .int 1]
def aboutOver (below : List Frame) : State where
  vm := { classes := classes, interned := interned.toArray }
  heap := heap
  slotsUsed := slotsUsed
  threads := #[{ frames := .invoking theMethod args0 :: below }]
def below0 : List Frame := [.native { method := ⟨0, 0⟩, args := #[] }]
def about1 : State := aboutOver below0
def p0 : Program := .bare "" "" ""
def e0 : Env := launch0.env 0 0 0
theorem w_frames : about1.frames = Frame.invoking theMethod args0 :: below0 := rfl
set_option maxRecDepth 65536 in
theorem w_args : argsFit about1.vm theMethod args0 = true := by decide +kernel
set_option maxRecDepth 65536 in
theorem w_heap : heapFits about1 = true := by decide +kernel
set_option maxRecDepth 65536 in
theorem w_runnable : about1.curStatus? = some .runnable := by decide +kernel
set_option maxRecDepth 65536 in
theorem w_alone : about1.alone = true := by decide +kernel
set_option maxRecDepth 65536 in
theorem w_named : about1.methodNamed? x = some theMethod := by decide +kernel
set_option maxRecDepth 65536 in
theorem w_hears : about1.hears theMethod below0 = true := by decide +kernel
set_option maxRecDepth 65536 in
theorem w_ripe : about1.ripe theMethod args0 below0 = true := by decide +kernel
theorem w_running : about1.status = .running := rfl
set_option maxRecDepth 65536 in
theorem w_room : about1.hasRoom e0.platform room_1 = true :=
  launch0.hasRoom_least _ room_1 (by decide +kernel) (by decide +kernel) (by decide +kernel) (by decide +kernel) (by decide +kernel) (by decide +kernel)
theorem allAtoms_all (ts : List Jvm.Cond) (a : Array Jvm.Value) (st : Jvm.State) : (allAtoms ts).before a st = ts.all (fun c => c.before a st) := by
  induction ts with
  | nil => rfl
  | cons c t ih =>
    show (Jvm.Cond.and c (allAtoms t)).before a st = _
    rw [Jvm.Cond.before_and, ih, List.all_cons]
def words1 : List Jvm.Cond := Jvm.Cond.code x code maxLocals ret :: tables_1
/-- a 'code' word, met by the world's own term for the bytes: nothing is compared byte by byte -/
theorem code_word {y : MethodName} {bytes : ByteArray} {mx : Nat} {rt : Option FieldType} {a : Array Value} {s : State} {m : MethodId} {meth : Method} {c : Code} (h1 : s.methodNamed? y = some m) (h2 : s.vm.method? m = some meth) (h3 : meth.code = some c) (h4 : c.code = bytes)
    (h5 : (c.maxLocals == mx && c.exceptionTable.isEmpty && decide (c.maxStack ≤ mostOperands) && decide (meth.sig.returnType = rt) && !meth.locks && decide (parseMethodDescriptor y.desc = some meth.sig)) = true) : (Jvm.Cond.code y bytes mx rt).before a s = true := by
  simp only [Bool.and_eq_true, beq_iff_eq, Bool.not_eq_true', decide_eq_true_eq] at h5
  obtain ⟨⟨⟨⟨⟨g1, g2⟩, g3⟩, g4⟩, g5⟩, g6⟩ := h5
  simp [Cond.before, Cond.holds, Cond.value, h1, h2, h3, h4, g1, g2, g3, g4, g5, g6]
def isCode : Jvm.Cond → Bool
  | .code _ _ _ _ => true
  | _ => false
theorem all_split {L : List Jvm.Cond} {P : Jvm.Cond → Bool} (h1 : L.all (fun c => isCode c || P c) = true) (h2 : ∀ c ∈ L.filter isCode, P c = true) : L.all P = true := by
  refine List.all_eq_true.mpr fun c hc => ?_
  have h := List.all_eq_true.mp h1 c hc
  rcases Bool.eq_false_or_eq_true (isCode c) with hi | hi
  · exact h2 c (List.mem_filter.mpr ⟨hc, hi⟩)
  · simpa [hi] using h
set_option maxRecDepth 65536 in
theorem w_c0 : (Jvm.Cond.code x code maxLocals ret).before args0 about1 = true := code_word (m := ⟨1, 4⟩) (meth := k1m4) (c := k1c4) (by decide +kernel) rfl rfl rfl (by decide +kernel)
set_option maxRecDepth 65536 in
theorem w_c1 : (Jvm.Cond.code ({ cls := "com/example/tarsier/tarsier/elements/PageElementLinkRatioPinLaw", name := "len", desc := "(IZ)I" } : Jvm.MethodName) method_2_code (3 : Nat) (Option.some Jvm.ClassFile.FieldType.int)).before args0 about1 = true := code_word (m := ⟨1, 1⟩) (meth := k1m1) (c := k1c1) (by decide +kernel) rfl rfl rfl (by decide +kernel)
set_option maxRecDepth 65536 in
theorem w_c2 : (Jvm.Cond.code ({ cls := "java/lang/Math", name := "max", desc := "(II)I" } : Jvm.MethodName) jdk_29_method_65_code (2 : Nat) (Option.some Jvm.ClassFile.FieldType.int)).before args0 about1 = true := code_word (m := ⟨2, 1⟩) (meth := k2m1) (c := k2c1) (by decide +kernel) rfl rfl rfl (by decide +kernel)
set_option maxRecDepth 65536 in
theorem w_c3 : (Jvm.Cond.code ({ cls := "com/example/tarsier/tarsier/elements/PageElementLinkRatioPinLaw", name := "links", desc := "(II)I" } : Jvm.MethodName) method_3_code (2 : Nat) (Option.some Jvm.ClassFile.FieldType.int)).before args0 about1 = true := code_word (m := ⟨1, 2⟩) (meth := k1m2) (c := k1c2) (by decide +kernel) rfl rfl rfl (by decide +kernel)
set_option maxRecDepth 65536 in
theorem w_c4 : (Jvm.Cond.code ({ cls := "com/example/tarsier/tarsier/elements/PageElement", name := "<init>", desc := "(Ljava/lang/String;Ljava/lang/String;III)V" } : Jvm.MethodName) prog_3_method_1_code (6 : Nat) (Option.none : Option Jvm.ClassFile.FieldType)).before args0 about1 = true := code_word (m := ⟨4, 0⟩) (meth := k4m0) (c := k4c0) (by decide +kernel) rfl rfl rfl (by decide +kernel)
set_option maxRecDepth 65536 in
theorem w_c5 : (Jvm.Cond.code ({ cls := "java/lang/Record", name := "<init>", desc := "()V" } : Jvm.MethodName) jdk_30_method_1_code (1 : Nat) (Option.none : Option Jvm.ClassFile.FieldType)).before args0 about1 = true := code_word (m := ⟨3, 0⟩) (meth := k3m0) (c := k3c0) (by decide +kernel) rfl rfl rfl (by decide +kernel)
set_option maxRecDepth 65536 in
theorem w_c6 : (Jvm.Cond.code ({ cls := "java/lang/Object", name := "<init>", desc := "()V" } : Jvm.MethodName) object_method_1_code (1 : Nat) (Option.none : Option Jvm.ClassFile.FieldType)).before args0 about1 = true := code_word (m := ⟨0, 0⟩) (meth := k0m0) (c := k0c0) (by decide +kernel) rfl rfl rfl (by decide +kernel)
set_option maxRecDepth 65536 in
theorem w_c7 : (Jvm.Cond.code ({ cls := "com/example/tarsier/tarsier/elements/PageElement", name := "linkRatio", desc := "()D" } : Jvm.MethodName) prog_3_method_2_code (1 : Nat) (Option.some Jvm.ClassFile.FieldType.double)).before args0 about1 = true := code_word (m := ⟨4, 1⟩) (meth := k4m1) (c := k4c1) (by decide +kernel) rfl rfl rfl (by decide +kernel)
set_option maxRecDepth 65536 in
theorem w_c8 : (Jvm.Cond.code ({ cls := "com/example/tarsier/tarsier/elements/PageElementLinkRatioPinLaw", name := "single", desc := "(DII)Z" } : Jvm.MethodName) method_4_code (4 : Nat) (Option.some Jvm.ClassFile.FieldType.boolean)).before args0 about1 = true := code_word (m := ⟨1, 3⟩) (meth := k1m3) (c := k1c3) (by decide +kernel) rfl rfl rfl (by decide +kernel)
def codes1 : List Jvm.Cond := [Jvm.Cond.code x code maxLocals ret, Jvm.Cond.code ({ cls := "com/example/tarsier/tarsier/elements/PageElementLinkRatioPinLaw", name := "len", desc := "(IZ)I" } : Jvm.MethodName) method_2_code (3 : Nat) (Option.some Jvm.ClassFile.FieldType.int), Jvm.Cond.code ({ cls := "java/lang/Math", name := "max", desc := "(II)I" } : Jvm.MethodName) jdk_29_method_65_code (2 : Nat) (Option.some Jvm.ClassFile.FieldType.int), Jvm.Cond.code ({ cls := "com/example/tarsier/tarsier/elements/PageElementLinkRatioPinLaw", name := "links", desc := "(II)I" } : Jvm.MethodName) method_3_code (2 : Nat) (Option.some Jvm.ClassFile.FieldType.int), Jvm.Cond.code ({ cls := "com/example/tarsier/tarsier/elements/PageElement", name := "<init>", desc := "(Ljava/lang/String;Ljava/lang/String;III)V" } : Jvm.MethodName) prog_3_method_1_code (6 : Nat) (Option.none : Option Jvm.ClassFile.FieldType), Jvm.Cond.code ({ cls := "java/lang/Record", name := "<init>", desc := "()V" } : Jvm.MethodName) jdk_30_method_1_code (1 : Nat) (Option.none : Option Jvm.ClassFile.FieldType), Jvm.Cond.code ({ cls := "java/lang/Object", name := "<init>", desc := "()V" } : Jvm.MethodName) object_method_1_code (1 : Nat) (Option.none : Option Jvm.ClassFile.FieldType), Jvm.Cond.code ({ cls := "com/example/tarsier/tarsier/elements/PageElement", name := "linkRatio", desc := "()D" } : Jvm.MethodName) prog_3_method_2_code (1 : Nat) (Option.some Jvm.ClassFile.FieldType.double), Jvm.Cond.code ({ cls := "com/example/tarsier/tarsier/elements/PageElementLinkRatioPinLaw", name := "single", desc := "(DII)Z" } : Jvm.MethodName) method_4_code (4 : Nat) (Option.some Jvm.ClassFile.FieldType.boolean)]
set_option maxRecDepth 65536 in
theorem codes_eq : words1.filter isCode = codes1 := rfl
theorem w_codes : ∀ c ∈ words1.filter isCode, c.before args0 about1 = true := by
  rw [codes_eq]
  intro c hc
  simp only [codes1, List.mem_cons, List.not_mem_nil, or_false] at hc
  rcases hc with rfl | rfl | rfl | rfl | rfl | rfl | rfl | rfl | rfl
  · exact w_c0
  · exact w_c1
  · exact w_c2
  · exact w_c3
  · exact w_c4
  · exact w_c5
  · exact w_c6
  · exact w_c7
  · exact w_c8
set_option maxRecDepth 65536 in
theorem w_t1 : (words1.take 24).all (fun c => isCode c || c.before args0 about1) = true := by decide +kernel
set_option maxRecDepth 65536 in
theorem w_t2 : ((words1.drop 24).take 24).all (fun c => isCode c || c.before args0 about1) = true := by decide +kernel
set_option maxRecDepth 65536 in
theorem w_t3 : ((words1.drop 24).drop 24).all (fun c => isCode c || c.before args0 about1) = true := by decide +kernel
theorem w_tables : (allAtoms (Jvm.Cond.code x code maxLocals ret :: tables_1)).before args0 about1 = true := by
  rw [allAtoms_all]
  show words1.all (fun c => c.before args0 about1) = true
  refine all_split ?_ w_codes
  rw [← List.take_append_drop 24 words1, List.all_append, w_t1, ← List.take_append_drop 24 (words1.drop 24), List.all_append, w_t2, w_t3]
  rfl
set_option maxRecDepth 65536 in
theorem w_case : (Jvm.Cond.and given_1 narrow_1).before args0 about1 = true := by decide +kernel
theorem w_applies : (headSpec (Jvm.Cond.code x code maxLocals ret :: tables_1) room_1).applies x e0.platform about1 = true :=
  (Spec.applies_iff w_frames).mpr ⟨w_running, w_runnable, w_alone, w_named, w_hears, w_ripe, w_room, w_tables⟩
theorem atStart : AtStart classFile x code maxLocals ret World_1 tables_1 room_1 Calls_1 rest_1 Pre_1 launch0 p0 e0 about1 theMethod args0 below0 :=
  ⟨lists_1, trivial, launch0.admits_env _ _ _, launch0.least_env, fairChoices_fair.cas, fairChoices_fair.clock, w_frames, w_args, w_heap, w_applies, trivial, trivial, w_case⟩
end start1
theorem witness_1 : WitnessClaimed_1 := ⟨start1.p0, start1.e0, start1.about1, start1.theMethod, start1.args0, start1.below0, start1.atStart⟩
end Jvm.Pilot.@@N@@
