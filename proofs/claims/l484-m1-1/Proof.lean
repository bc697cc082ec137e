import JvmDerived
import JvmDerived.Pilot.@@N@@Statement
import JvmDerived.Pilot.@@N@@Code
set_option linter.unusedVariables false
set_option linter.unusedSimpArgs false
namespace Jvm.Pilot.@@N@@
open Jvm Jvm.ClassFile Sem Op Lib Jvm.Free Jvm.Stand Jvm.LawKit Jvm.RoadKit Bundle Jvm.Pilot.@@N@@.Jvm.D
section Own
variable {p : Program} {l : Launch} {e : Env} {R : Room} {s : State} {m : MethodId} {args : Array Value} {below : List Frame} {meth : Method} {c : Code} {T : State} {locs : List Loc} {cells slots : Nat}
/-- from u the walk comes to its return, with what Q says of value, heap and the places written -/
def Ends (p : Program) (e : Env) (below : List Frame) (s : State) (Q : Option Value → Heap → List Loc → Prop) (kc ks : Nat) (u : State) : Prop :=
  ∃ s₂ o, Steps p.tables e below u s₂ ∧ s₂.status = .running ∧ Ended s₂ below o ∧ ∃ v L, o = .returned v ∧ Q v s₂.heap L ∧ FrameEnd s o s₂ L kc ks
variable {Q : Option Value → Heap → List Loc → Prop} {kc ks : Nat} {u u' : State}
theorem Ends.by (k : Ends p e below s Q kc ks u') (h : ∀ t, Steps p.tables e below u' t → Steps p.tables e below u t) : Ends p e below s Q kc ks u := by
  obtain ⟨s₂, o, h1, r⟩ := k
  exact ⟨s₂, o, h _ h1, r⟩
theorem Ends.go (h : Steps p.tables e below u u') (k : Ends p e below s Q kc ks u') : Ends p e below s Q kc ks u := k.by fun _ q => h.trans q
theorem Ends.retN (X : Stand p l e R s m args below meth c T locs cells slots) (hx : p.tables.exec = Jvm.exec) (hlk : meth.locks = false) {t : FieldType} (hret : meth.sig.returnType = some t) (ht : t = .boolean ∨ t = .byte ∨ t = .char ∨ t = .short) {pc : Nat} {Ls : Array Slot} {z w : Int32} {rest : List Value}
    (hd : decode c.code pc = .ok (.ireturn, 1)) (hz : nar t z = w) (hQ : Q (some (.int w)) T.heap locs) (hc : cells ≤ kc) (hs : slots ≤ ks) : Ends p e below s Q kc ks (T.setTop (mkF m pc Ls (.int z :: rest))) := by
  subst hz
  obtain ⟨fs, hr, hrun, hended, hW, hsame⟩ := X.leave (v := some (.int (nar t z))) (fun h => by rw [hret] at h; cases h) hlk
  exact ⟨_, _, Jvm.RoadKit.retN X hx hret ht hd hr, hrun, hended, _, _, rfl, hQ, ⟨_, rfl⟩, hW, hsame.mono hc hs⟩
theorem Ends.retI (X : Stand p l e R s m args below meth c T locs cells slots) (hx : p.tables.exec = Jvm.exec) (hlk : meth.locks = false) (hret : meth.sig.returnType = some .int) {pc : Nat} {Ls : Array Slot} {z : Int32} {rest : List Value}
    (hd : decode c.code pc = .ok (.ireturn, 1)) (hQ : Q (some (.int z)) T.heap locs) (hc : cells ≤ kc) (hs : slots ≤ ks) : Ends p e below s Q kc ks (T.setTop (mkF m pc Ls (.int z :: rest))) := by
  obtain ⟨fs, hr, hrun, hended, hW, hsame⟩ := X.leave (v := some (.int z)) (fun h => by rw [hret] at h; cases h) hlk
  exact ⟨_, _, Jvm.RoadKit.retOut X hx hret rfl (Or.inl ⟨rfl, by simp, z, rfl⟩) hd hr, hrun, hended, _, _, rfl, hQ, ⟨_, rfl⟩, hW, hsame.mono hc hs⟩
theorem Ends.retJ (X : Stand p l e R s m args below meth c T locs cells slots) (hx : p.tables.exec = Jvm.exec) (hlk : meth.locks = false) (hret : meth.sig.returnType = some .long) {pc : Nat} {Ls : Array Slot} {z : Int64} {rest : List Value}
    (hd : decode c.code pc = .ok (.lreturn, 1)) (hQ : Q (some (.long z)) T.heap locs) (hc : cells ≤ kc) (hs : slots ≤ ks) : Ends p e below s Q kc ks (T.setTop (mkF m pc Ls (.long z :: rest))) := by
  obtain ⟨fs, hr, hrun, hended, hW, hsame⟩ := X.leave (v := some (.long z)) (fun h => by rw [hret] at h; cases h) hlk
  exact ⟨_, _, Jvm.RoadKit.retOut X hx hret rfl (Or.inr (Or.inl ⟨rfl, rfl, z, rfl⟩)) hd hr, hrun, hended, _, _, rfl, hQ, ⟨_, rfl⟩, hW, hsame.mono hc hs⟩
theorem Ends.retA (X : Stand p l e R s m args below meth c T locs cells slots) (hx : p.tables.exec = Jvm.exec) (hlk : meth.locks = false) {t : FieldType} (hret : meth.sig.returnType = some t) (ht : t.isReference = true) (hn : ∀ a, narrow t (.ref a) = .ref a) {pc : Nat} {Ls : Array Slot} {a : Addr} {rest : List Value}
    (hd : decode c.code pc = .ok (.areturn, 1)) (hQ : Q (some (.ref a)) T.heap locs) (hc : cells ≤ kc) (hs : slots ≤ ks) : Ends p e below s Q kc ks (T.setTop (mkF m pc Ls (.ref a :: rest))) := by
  obtain ⟨fs, hr, hrun, hended, hW, hsame⟩ := X.leave (v := some (.ref a)) (fun h => by rw [hret] at h; cases h) hlk
  exact ⟨_, _, Jvm.RoadKit.retOut X hx hret (hn a) (Or.inr (Or.inr (Or.inr (Or.inr ⟨rfl, ht, rfl⟩)))) hd hr, hrun, hended, _, _, rfl, hQ, ⟨_, rfl⟩, hW, hsame.mono hc hs⟩
theorem Ends.retV (X : Stand p l e R s m args below meth c T locs cells slots) (hx : p.tables.exec = Jvm.exec) (hlk : meth.locks = false) (hret : meth.sig.returnType = none) {pc : Nat} {Ls : Array Slot}
    (hd : decode c.code pc = .ok (.return_, 1)) (hQ : Q none T.heap locs) (hc : cells ≤ kc) (hs : slots ≤ ks) : Ends p e below s Q kc ks (T.setTop (mkF m pc Ls [])) := by
  obtain ⟨fs, hr, hrun, hended, hW, hsame⟩ := X.leave (v := none) (fun _ => rfl) hlk
  exact ⟨_, _, X.returnOut hx hret hd hr, hrun, hended, _, _, rfl, hQ, ⟨_, rfl⟩, hW, hsame.mono hc hs⟩
theorem lremM {g : JFrame} {target : State} (X : Stand p l e R s m args below meth c T locs cells slots) (hx : p.tables.exec = Jvm.exec) (hg : g.method = m) {x y : Int64} {rest : List Value} (hd : decode c.code g.pc = .ok (.lrem, 1)) (hs : g.stack = .long y :: .long x :: rest) (hy : y ≠ 0)
    (hr : Steps p.tables e below (T.setTop { g with pc := g.pc + 1, stack := .long (x % y) :: rest }) target) : Steps p.tables e below (T.setTop g) target :=
  XS.lrem X.here hx hg hd hs hy (by rw [lrem_mod x y]; exact hr)
/-- a method that writes nothing: what it returns, the heap as it was -/
def QP (V : Option Value) (h0 : Heap) (n0 : Nat) (v : Option Value) (h : Heap) (L : List Loc) : Prop := v = V ∧ Fr n0 L ∧ h = h0
/-- a law: it returns 1; nothing old is written -/
def QL (n0 : Nat) (v : Option Value) (_ : Heap) (L : List Loc) : Prop := v = some (.int 1) ∧ Fr n0 L
end Own
theorem d1_0 : decode prog_24_method_2_code 0 = .ok (.lload_n 0, 1) := by decide +kernel
theorem d1_1 : decode prog_24_method_2_code 1 = .ok (.lload_n 2, 1) := by decide +kernel
theorem d1_2 : decode prog_24_method_2_code 2 = .ok (.lsub, 1) := by decide +kernel
theorem d1_3 : decode prog_24_method_2_code 3 = .ok (.lconst 0, 1) := by decide +kernel
theorem d1_4 : decode prog_24_method_2_code 4 = .ok (.lcmp, 1) := by decide +kernel
theorem d1_5 : decode prog_24_method_2_code 5 = .ok (.ifCond .lt 7, 3) := by decide +kernel
theorem d1_12 : decode prog_24_method_2_code 12 = .ok (.lload_n 2, 1) := by decide +kernel
theorem d1_13 : decode prog_24_method_2_code 13 = .ok (.lreturn, 1) := by decide +kernel
theorem d1_8 : decode prog_24_method_2_code 8 = .ok (.lload_n 0, 1) := by decide +kernel
theorem d1_9 : decode prog_24_method_2_code 9 = .ok (.goto 4, 3) := by decide +kernel
def f1 (x0 : Int64) (x1 : Int64) : Int64 := (if (x0 - x1) < (0 : Int64) then x1 else x0)
theorem ef_rm1 (m : MethodId) (x0 : Int64) (x1 : Int64) : entryFrame m #[(.long x0), (.long x1)] 4 = mkF m 0 #[.val (.long x0), .second, .val (.long x1), .second] [] := by first | (simp [entryFrame, mkF, argsToLocals, Value.category]; done) | rfl
theorem pn_0 : plainName "com/example/usher/usher/store/Readings" = true := by first | (simp [plainName, overriddenIn]; done) | decide +kernel
set_option maxRecDepth 65536 in
set_option maxHeartbeats 40000000 in
theorem rm1 (l : Launch) (Z : State) (a0 : Array Value) (hw : ∀ d ∈ tables_1, d.before a0 Z = true) (ws : List Jvm.Cond) (x0 : Int64) (x1 : Int64) (h0 : Heap) (n0 : Nat) (Z0 : n0 ≤ h0.size) :
    MetFree l (⟨"com/example/usher/usher/store/Readings", "latest", "(JJ)J"⟩ : MethodName) (head1 (Jvm.Cond.code (⟨"com/example/usher/usher/store/Readings", "latest", "(JJ)J"⟩ : MethodName) prog_24_method_2_code 4 (some .long) :: ws) ({ frames := 0, cells := 0, slots := 0, locals := 0 } : Room)) (fun a U => a = #[(.long x0), (.long x1)] ∧ Z.Warmed39 U.vm ∧ U.heap = h0) (fun _ _ _ _ _ => True) (fun _ U o U' => ∃ v L, o = .returned v ∧ (QP (some (.long (f1 x0 x1))) h0 n0) v U'.heap L ∧ FrameEnd U o U' L ({ frames := 0, cells := 0, slots := 0, locals := 0 } : Room).cells ({ frames := 0, cells := 0, slots := 0, locals := 0 } : Room).slots) := by
  refine MetFree.of_bodySF (plainFor_of_name pn_0) hisR ?_
  intro p e s m args below meth c s₁ Bd hml0 hP hK
  obtain ⟨rfl, hZ, hh⟩ := hP
  have hx := Bd.exec
  have hby := Bd.bytes
  have hml : c.maxLocals = 4 := hml0
  have hown : s.vm.findClass "com/example/usher/usher/store/Readings" = some m.cls := findClass_of_methodNamed Bd.named
  have hnm := (name_of_methodNamed Bd.named Bd.method).1
  have X0 : Stand p l e ({ frames := 0, cells := 0, slots := 0, locals := 0 } : Room) s m #[(.long x0), (.long x1)] below meth c s₁ [] 0 0 := Stand.of_body Bd
  have e0 : s₁.heap = h0 := by rw [← hh, Bd.state]; rfl
  have N0 := Fr.nil n0
  show Ends p e below s (QP (some (.long (f1 x0 x1))) h0 n0) ({ frames := 0, cells := 0, slots := 0, locals := 0 } : Room).cells ({ frames := 0, cells := 0, slots := 0, locals := 0 } : Room).slots (s₁.setTop (entryFrame m #[(.long x0), (.long x1)] 4))
  rw [ef_rm1 m x0 x1]
  have hv0 : f1 x0 x1 = f1 x0 x1 := rfl
  show Ends p e below s _ _ _ (s₁.setTop (mkF m 0 #[.val (.long x0), .second, .val (.long x1), .second] []))
  refine Ends.by ?_ (fun _ k => XS.lloadN X0.here hx rfl (hb hby d1_0) rfl k)
  show Ends p e below s _ _ _ (s₁.setTop (mkF m 1 #[.val (.long x0), .second, .val (.long x1), .second] [(.long x0)]))
  refine Ends.by ?_ (fun _ k => XS.lloadN X0.here hx rfl (hb hby d1_1) rfl k)
  show Ends p e below s _ _ _ (s₁.setTop (mkF m 2 #[.val (.long x0), .second, .val (.long x1), .second] [(.long x1), (.long x0)]))
  refine Ends.by ?_ (fun _ k => XS.lsub X0.here hx rfl (hb hby d1_2) rfl k)
  show Ends p e below s _ _ _ (s₁.setTop (mkF m 3 #[.val (.long x0), .second, .val (.long x1), .second] [(.long (x0 - x1))]))
  refine Ends.by ?_ (fun _ k => XS.lconst X0.here hx rfl (hb hby d1_3) k)
  show Ends p e below s _ _ _ (s₁.setTop (mkF m 4 #[.val (.long x0), .second, .val (.long x1), .second] [(.long (0 : Int64)), (.long (x0 - x1))]))
  refine Ends.by ?_ (fun _ k => XS.lcmp X0.here hx rfl (hb hby d1_4) rfl k)
  show Ends p e below s _ _ _ (s₁.setTop (mkF m 5 #[.val (.long x0), .second, .val (.long x1), .second] [(.int (XT.cmpL (x0 - x1) (0 : Int64)))]))
  by_cases hc1 : (x0 - x1) < (0 : Int64)
  · have hv2 := hv0.trans (if_pos hc1)
    refine Ends.by ?_ (fun _ k => XS.ifYes X0.here hx rfl (pc0 := 5) (pc' := 12) rfl (hb hby d1_5) rfl (XT.ll_lt_t hc1) (by decide) (by decide) k)
    show Ends p e below s _ _ _ (s₁.setTop (mkF m 12 #[.val (.long x0), .second, .val (.long x1), .second] []))
    refine Ends.by ?_ (fun _ k => XS.lloadN X0.here hx rfl (hb hby d1_12) rfl k)
    show Ends p e below s _ _ _ (s₁.setTop (mkF m 13 #[.val (.long x0), .second, .val (.long x1), .second] [(.long x1)]))
    exact Ends.retJ X0 hx Bd.notSynchronized Bd.returns (hb hby d1_13) ⟨by rw [hv2], N0, e0⟩ (by decide) (by decide)
  · have hv3 := hv0.trans (if_neg hc1)
    refine Ends.by ?_ (fun _ k => XS.ifNo X0.here hx rfl (hb hby d1_5) rfl (XT.ll_lt_f hc1) k)
    show Ends p e below s _ _ _ (s₁.setTop (mkF m 8 #[.val (.long x0), .second, .val (.long x1), .second] []))
    refine Ends.by ?_ (fun _ k => XS.lloadN X0.here hx rfl (hb hby d1_8) rfl k)
    show Ends p e below s _ _ _ (s₁.setTop (mkF m 9 #[.val (.long x0), .second, .val (.long x1), .second] [(.long x0)]))
    refine Ends.by ?_ (fun _ k => XS.goto X0.here hx rfl (pc0 := 9) (pc' := 13) rfl (hb hby d1_9) (by decide) (by decide) k)
    show Ends p e below s _ _ _ (s₁.setTop (mkF m 13 #[.val (.long x0), .second, .val (.long x1), .second] [(.long x0)]))
    exact Ends.retJ X0 hx Bd.notSynchronized Bd.returns (hb hby d1_13) ⟨by rw [hv3], N0, e0⟩ (by decide) (by decide)

theorem pd_0 : parseMethodDescriptor "(JJ)J" = some ⟨[.long, .long], some .long⟩ := by decide +kernel
def f0_64 (x0 : Int64) (x1 : Int64) (x2 : Int32) (z64_6 : Int64) : Int32 := (if (x0 - z64_6) = (-9223372036854775808 : Int64) then (if (f1 x0 z64_6) = z64_6 then (1 : Int32) else (0 : Int32)) else (if (f1 x0 z64_6) = x0 then (if ((f1 x0 z64_6) - x0) < (0 : Int64) then (0 : Int32) else (if ((f1 x0 z64_6) - z64_6) < (0 : Int64) then (0 : Int32) else (1 : Int32))) else (if (f1 x0 z64_6) = z64_6 then (if ((f1 x0 z64_6) - x0) < (0 : Int64) then (0 : Int32) else (if ((f1 x0 z64_6) - z64_6) < (0 : Int64) then (0 : Int32) else (1 : Int32))) else (0 : Int32))))
def f0 (x0 : Int64) (x1 : Int64) (x2 : Int32) : Int32 := (if (x2 &&& (3 : Int32)) = (1 : Int32) then (f0_64 x0 x1 x2 (x0 ^^^ (-9223372036854775808 : Int64))) else (if (x2 &&& (3 : Int32)) = (2 : Int32) then (f0_64 x0 x1 x2 x0) else (if (x2 &&& (3 : Int32)) = (3 : Int32) then (if (x2 &&& (4 : Int32)) = (0 : Int32) then (f0_64 x0 x1 x2 (x0 - (1 : Int64))) else (f0_64 x0 x1 x2 (x0 + (1 : Int64)))) else (f0_64 x0 x1 x2 x1))))
theorem ef_rm0 (m : MethodId) (x0 : Int64) (x1 : Int64) (x2 : Int32) : entryFrame m #[(.long x0), (.long x1), (.int x2)] maxLocals = mkF m 0 #[.val (.long x0), .second, .val (.long x1), .second, .val (.int x2), .unset, .unset, .unset, .unset, .unset, .unset] [] := by first | (simp [entryFrame, mkF, argsToLocals, Value.category, maxLocals]; done) | rfl
theorem pn_1 : plainName "com/example/usher/usher/store/ReadingsLatestPinLaw" = true := by first | (simp [plainName, overriddenIn]; done) | decide +kernel
set_option maxRecDepth 65536 in
set_option maxHeartbeats 40000000 in
theorem rm0 (l : Launch) (Z : State) (a0 : Array Value) (hw : ∀ d ∈ tables_1, d.before a0 Z = true) (ws : List Jvm.Cond) (x0 : Int64) (x1 : Int64) (x2 : Int32) (h0 : Heap) (n0 : Nat) (Z0 : n0 ≤ h0.size) :
    MetFree l x (head1 (Jvm.Cond.code x code maxLocals ret :: ws) room_1) (fun a U => a = #[(.long x0), (.long x1), (.int x2)] ∧ Z.Warmed39 U.vm ∧ U.heap = h0) (fun _ _ _ _ _ => True) (fun _ U o U' => ∃ v L, o = .returned v ∧ (QP (some (.int (f0 x0 x1 x2))) h0 n0) v U'.heap L ∧ FrameEnd U o U' L room_1.cells room_1.slots) := by
  refine MetFree.of_bodySF (plainFor_of_name pn_1) hisR ?_
  intro p e s m args below meth c s₁ Bd hml0 hP hK
  obtain ⟨rfl, hZ, hh⟩ := hP
  have hx := Bd.exec
  have hby := Bd.bytes
  have hml : c.maxLocals = 11 := hml0
  have hown : s.vm.findClass "com/example/usher/usher/store/ReadingsLatestPinLaw" = some m.cls := findClass_of_methodNamed Bd.named
  have hnm := (name_of_methodNamed Bd.named Bd.method).1
  have X0 : Stand p l e room_1 s m #[(.long x0), (.long x1), (.int x2)] below meth c s₁ [] 0 0 := Stand.of_body Bd
  have e0 : s₁.heap = h0 := by rw [← hh, Bd.state]; rfl
  have N0 := Fr.nil n0
  show Ends p e below s (QP (some (.int (f0 x0 x1 x2))) h0 n0) room_1.cells room_1.slots (s₁.setTop (entryFrame m #[(.long x0), (.long x1), (.int x2)] maxLocals))
  rw [ef_rm0 m x0 x1 x2]
  have hv0 : f0 x0 x1 x2 = f0 x0 x1 x2 := rfl
  show Ends p e below s _ _ _ (s₁.setTop (mkF m 0 #[.val (.long x0), .second, .val (.long x1), .second, .val (.int x2), .unset, .unset, .unset, .unset, .unset, .unset] []))
  refine Ends.by ?_ (fun _ k => XS.iload X0.here hx rfl (hb hby at_0) rfl k)
  show Ends p e below s _ _ _ (s₁.setTop (mkF m 2 #[.val (.long x0), .second, .val (.long x1), .second, .val (.int x2), .unset, .unset, .unset, .unset, .unset, .unset] [(.int x2)]))
  refine Ends.by ?_ (fun _ k => XS.iconst X0.here hx rfl (hb hby at_2) k)
  show Ends p e below s _ _ _ (s₁.setTop (mkF m 3 #[.val (.long x0), .second, .val (.long x1), .second, .val (.int x2), .unset, .unset, .unset, .unset, .unset, .unset] [(.int (3 : Int32)), (.int x2)]))
  refine Ends.by ?_ (fun _ k => XS.iand X0.here hx rfl (hb hby at_3) rfl k)
  show Ends p e below s _ _ _ (s₁.setTop (mkF m 4 #[.val (.long x0), .second, .val (.long x1), .second, .val (.int x2), .unset, .unset, .unset, .unset, .unset, .unset] [(.int (x2 &&& (3 : Int32)))]))
  refine Ends.by ?_ (fun _ k => XS.istore X0.here hx rfl (hb hby at_4) rfl (l' := #[.val (.long x0), .second, .val (.long x1), .second, .val (.int x2), .val (.int (x2 &&& (3 : Int32))), .unset, .unset, .unset, .unset, .unset]) rfl k)
  show Ends p e below s _ _ _ (s₁.setTop (mkF m 6 #[.val (.long x0), .second, .val (.long x1), .second, .val (.int x2), .val (.int (x2 &&& (3 : Int32))), .unset, .unset, .unset, .unset, .unset] []))
  have j64 : ∀ (T : State) (locs : List Loc) (X : Stand p l e room_1 s m #[(.long x0), (.long x1), (.int x2)] below meth c T locs 0 0) (eT : T.heap = h0) (N : Fr n0 locs) (z64_6 : Int64) (hv1 : f0 x0 x1 x2 = f0_64 x0 x1 x2 z64_6), Ends p e below s (QP (some (.int (f0 x0 x1 x2))) h0 n0) room_1.cells room_1.slots (T.setTop (mkF m 64 #[.val (.long x0), .second, .val (.long x1), .second, .val (.int x2), .val (.int (x2 &&& (3 : Int32))), .val (.long z64_6), .second, .unset, .unset, .unset] [])) := by
    intro T locs X eT N z64_6 hv1
    refine Ends.by ?_ (fun _ k => XS.lloadN X.here hx rfl (hb hby at_64) rfl k)
    show Ends p e below s _ _ _ (T.setTop (mkF m 65 #[.val (.long x0), .second, .val (.long x1), .second, .val (.int x2), .val (.int (x2 &&& (3 : Int32))), .val (.long z64_6), .second, .unset, .unset, .unset] [(.long x0)]))
    refine Ends.by ?_ (fun _ k => XS.lload X.here hx rfl (hb hby at_65) rfl k)
    show Ends p e below s _ _ _ (T.setTop (mkF m 67 #[.val (.long x0), .second, .val (.long x1), .second, .val (.int x2), .val (.int (x2 &&& (3 : Int32))), .val (.long z64_6), .second, .unset, .unset, .unset] [(.long z64_6), (.long x0)]))
    obtain ⟨v2, _, ⟨T2, L2, k2, n2⟩, -, X2, ⟨Lc2, hQ2, l2, y2, z2⟩, st2⟩ := Jvm.LawKit.callS X hx (y := (⟨"com/example/usher/usher/store/Readings", "latest", "(JJ)J"⟩ : MethodName)) hown (mvT hZ (hw _ (List.mem_of_getElem? (i := 0) rfl))) (mvT hZ (hw _ (List.mem_of_getElem? (i := 1) rfl))) (mvT hZ (hw _ (List.mem_of_getElem? (i := 2) rfl))) (mvT hZ (hw _ (List.mem_of_getElem? (i := 3) rfl))) (by decide) (backOf (W := 0) (rm1 l Z a0 hw [] x0 z64_6 h0 n0 Z0) hZ (hw _ (List.mem_of_getElem? (i := 3) rfl)) (hw _ (List.mem_of_getElem? (i := 2) rfl)) (by decide) (by decide)) (g := (mkF m 67 #[.val (.long x0), .second, .val (.long x1), .second, .val (.int x2), .val (.int (x2 &&& (3 : Int32))), .val (.long z64_6), .second, .unset, .unset, .unset] [(.long z64_6), (.long x0)])) rfl (by rw [hml]; rfl) (argsL := [(.long x0), (.long z64_6)]) (rest := []) (lenOf pd_0 rfl) rfl (by show 2 * 0 + _ ≤ _; exact Nat.le_of_eq rfl) (hb hby at_67) (fun _ _ => ⟨rfl, eT, (by decide : 0 + 0 ≤ _), (by decide : 0 + 0 ≤ _)⟩)
    dsimp only [Pt.U, Pt.locs, Pt.cells, Pt.slots] at X2 l2 y2 z2 st2 hQ2
    subst l2 y2 z2
    obtain ⟨rfl, N2q, e2⟩ := hQ2
    have N2 := Fr.app N N2q
    refine Ends.by ?_ st2
    show Ends p e below s _ _ _ (T2.setTop (mkF m 70 #[.val (.long x0), .second, .val (.long x1), .second, .val (.int x2), .val (.int (x2 &&& (3 : Int32))), .val (.long z64_6), .second, .unset, .unset, .unset] [(.long (f1 x0 z64_6))]))
    refine Ends.by ?_ (fun _ k => XS.lstore X2.here hx rfl (hb hby at_70) rfl (l' := #[.val (.long x0), .second, .val (.long x1), .second, .val (.int x2), .val (.int (x2 &&& (3 : Int32))), .val (.long z64_6), .second, .val (.long (f1 x0 z64_6)), .second, .unset]) rfl k)
    show Ends p e below s _ _ _ (T2.setTop (mkF m 72 #[.val (.long x0), .second, .val (.long x1), .second, .val (.int x2), .val (.int (x2 &&& (3 : Int32))), .val (.long z64_6), .second, .val (.long (f1 x0 z64_6)), .second, .unset] []))
    refine Ends.by ?_ (fun _ k => XS.lloadN X2.here hx rfl (hb hby at_72) rfl k)
    show Ends p e below s _ _ _ (T2.setTop (mkF m 73 #[.val (.long x0), .second, .val (.long x1), .second, .val (.int x2), .val (.int (x2 &&& (3 : Int32))), .val (.long z64_6), .second, .val (.long (f1 x0 z64_6)), .second, .unset] [(.long x0)]))
    refine Ends.by ?_ (fun _ k => XS.lload X2.here hx rfl (hb hby at_73) rfl k)
    show Ends p e below s _ _ _ (T2.setTop (mkF m 75 #[.val (.long x0), .second, .val (.long x1), .second, .val (.int x2), .val (.int (x2 &&& (3 : Int32))), .val (.long z64_6), .second, .val (.long (f1 x0 z64_6)), .second, .unset] [(.long z64_6), (.long x0)]))
    refine Ends.by ?_ (fun _ k => XS.lsub X2.here hx rfl (hb hby at_75) rfl k)
    show Ends p e below s _ _ _ (T2.setTop (mkF m 76 #[.val (.long x0), .second, .val (.long x1), .second, .val (.int x2), .val (.int (x2 &&& (3 : Int32))), .val (.long z64_6), .second, .val (.long (f1 x0 z64_6)), .second, .unset] [(.long (x0 - z64_6))]))
    refine Ends.by ?_ (X2.ldc2Long hx hown (mvT hZ (hw _ (List.mem_of_getElem? (i := 4) rfl))) (g := (mkF m 76 #[.val (.long x0), .second, .val (.long x1), .second, .val (.int x2), .val (.int (x2 &&& (3 : Int32))), .val (.long z64_6), .second, .val (.long (f1 x0 z64_6)), .second, .unset] [(.long (x0 - z64_6))])) rfl (hb hby at_76))
    show Ends p e below s _ _ _ (T2.setTop (mkF m 79 #[.val (.long x0), .second, .val (.long x1), .second, .val (.int x2), .val (.int (x2 &&& (3 : Int32))), .val (.long z64_6), .second, .val (.long (f1 x0 z64_6)), .second, .unset] [(.long (-9223372036854775808 : Int64)), (.long (x0 - z64_6))]))
    refine Ends.by ?_ (fun _ k => XS.lcmp X2.here hx rfl (hb hby at_79) rfl k)
    show Ends p e below s _ _ _ (T2.setTop (mkF m 80 #[.val (.long x0), .second, .val (.long x1), .second, .val (.int x2), .val (.int (x2 &&& (3 : Int32))), .val (.long z64_6), .second, .val (.long (f1 x0 z64_6)), .second, .unset] [(.int (XT.cmpL (x0 - z64_6) (-9223372036854775808 : Int64)))]))
    by_cases hc3 : (x0 - z64_6) = (-9223372036854775808 : Int64)
    · have hv4 := hv1.trans (if_pos hc3)
      refine Ends.by ?_ (fun _ k => XS.ifNo X2.here hx rfl (hb hby at_80) rfl (XT.ll_ne_f hc3) k)
      show Ends p e below s _ _ _ (T2.setTop (mkF m 83 #[.val (.long x0), .second, .val (.long x1), .second, .val (.int x2), .val (.int (x2 &&& (3 : Int32))), .val (.long z64_6), .second, .val (.long (f1 x0 z64_6)), .second, .unset] []))
      refine Ends.by ?_ (fun _ k => XS.lload X2.here hx rfl (hb hby at_83) rfl k)
      show Ends p e below s _ _ _ (T2.setTop (mkF m 85 #[.val (.long x0), .second, .val (.long x1), .second, .val (.int x2), .val (.int (x2 &&& (3 : Int32))), .val (.long z64_6), .second, .val (.long (f1 x0 z64_6)), .second, .unset] [(.long (f1 x0 z64_6))]))
      refine Ends.by ?_ (fun _ k => XS.lload X2.here hx rfl (hb hby at_85) rfl k)
      show Ends p e below s _ _ _ (T2.setTop (mkF m 87 #[.val (.long x0), .second, .val (.long x1), .second, .val (.int x2), .val (.int (x2 &&& (3 : Int32))), .val (.long z64_6), .second, .val (.long (f1 x0 z64_6)), .second, .unset] [(.long z64_6), (.long (f1 x0 z64_6))]))
      refine Ends.by ?_ (fun _ k => XS.lcmp X2.here hx rfl (hb hby at_87) rfl k)
      show Ends p e below s _ _ _ (T2.setTop (mkF m 88 #[.val (.long x0), .second, .val (.long x1), .second, .val (.int x2), .val (.int (x2 &&& (3 : Int32))), .val (.long z64_6), .second, .val (.long (f1 x0 z64_6)), .second, .unset] [(.int (XT.cmpL (f1 x0 z64_6) z64_6))]))
      by_cases hc5 : (f1 x0 z64_6) = z64_6
      · have hv6 := hv4.trans (if_pos hc5)
        refine Ends.by ?_ (fun _ k => XS.ifNo X2.here hx rfl (hb hby at_88) rfl (XT.ll_ne_f hc5) k)
        show Ends p e below s _ _ _ (T2.setTop (mkF m 91 #[.val (.long x0), .second, .val (.long x1), .second, .val (.int x2), .val (.int (x2 &&& (3 : Int32))), .val (.long z64_6), .second, .val (.long (f1 x0 z64_6)), .second, .unset] []))
        refine Ends.by ?_ (fun _ k => XS.iconst X2.here hx rfl (hb hby at_91) k)
        show Ends p e below s _ _ _ (T2.setTop (mkF m 92 #[.val (.long x0), .second, .val (.long x1), .second, .val (.int x2), .val (.int (x2 &&& (3 : Int32))), .val (.long z64_6), .second, .val (.long (f1 x0 z64_6)), .second, .unset] [(.int (1 : Int32))]))
        refine Ends.by ?_ (fun _ k => XS.goto X2.here hx rfl (pc0 := 92) (pc' := 96) rfl (hb hby at_92) (by decide) (by decide) k)
        show Ends p e below s _ _ _ (T2.setTop (mkF m 96 #[.val (.long x0), .second, .val (.long x1), .second, .val (.int x2), .val (.int (x2 &&& (3 : Int32))), .val (.long z64_6), .second, .val (.long (f1 x0 z64_6)), .second, .unset] [(.int (1 : Int32))]))
        exact Ends.retN X2 hx Bd.notSynchronized Bd.returns (t := .boolean) (by simp) (hb hby at_96) (w := (1 : Int32)) rfl ⟨by rw [hv6], N2, e2⟩ (by decide) (by decide)
      · have hv7 := hv4.trans (if_neg hc5)
        refine Ends.by ?_ (fun _ k => XS.ifYes X2.here hx rfl (pc0 := 88) (pc' := 95) rfl (hb hby at_88) rfl (XT.ll_ne_t hc5) (by decide) (by decide) k)
        show Ends p e below s _ _ _ (T2.setTop (mkF m 95 #[.val (.long x0), .second, .val (.long x1), .second, .val (.int x2), .val (.int (x2 &&& (3 : Int32))), .val (.long z64_6), .second, .val (.long (f1 x0 z64_6)), .second, .unset] []))
        refine Ends.by ?_ (fun _ k => XS.iconst X2.here hx rfl (hb hby at_95) k)
        show Ends p e below s _ _ _ (T2.setTop (mkF m 96 #[.val (.long x0), .second, .val (.long x1), .second, .val (.int x2), .val (.int (x2 &&& (3 : Int32))), .val (.long z64_6), .second, .val (.long (f1 x0 z64_6)), .second, .unset] [(.int (0 : Int32))]))
        exact Ends.retN X2 hx Bd.notSynchronized Bd.returns (t := .boolean) (by simp) (hb hby at_96) (w := (0 : Int32)) rfl ⟨by rw [hv7], N2, e2⟩ (by decide) (by decide)
    · have hv8 := hv1.trans (if_neg hc3)
      refine Ends.by ?_ (fun _ k => XS.ifYes X2.here hx rfl (pc0 := 80) (pc' := 97) rfl (hb hby at_80) rfl (XT.ll_ne_t hc3) (by decide) (by decide) k)
      show Ends p e below s _ _ _ (T2.setTop (mkF m 97 #[.val (.long x0), .second, .val (.long x1), .second, .val (.int x2), .val (.int (x2 &&& (3 : Int32))), .val (.long z64_6), .second, .val (.long (f1 x0 z64_6)), .second, .unset] []))
      refine Ends.by ?_ (fun _ k => XS.lload X2.here hx rfl (hb hby at_97) rfl k)
      show Ends p e below s _ _ _ (T2.setTop (mkF m 99 #[.val (.long x0), .second, .val (.long x1), .second, .val (.int x2), .val (.int (x2 &&& (3 : Int32))), .val (.long z64_6), .second, .val (.long (f1 x0 z64_6)), .second, .unset] [(.long (f1 x0 z64_6))]))
      refine Ends.by ?_ (fun _ k => XS.lloadN X2.here hx rfl (hb hby at_99) rfl k)
      show Ends p e below s _ _ _ (T2.setTop (mkF m 100 #[.val (.long x0), .second, .val (.long x1), .second, .val (.int x2), .val (.int (x2 &&& (3 : Int32))), .val (.long z64_6), .second, .val (.long (f1 x0 z64_6)), .second, .unset] [(.long x0), (.long (f1 x0 z64_6))]))
      refine Ends.by ?_ (fun _ k => XS.lcmp X2.here hx rfl (hb hby at_100) rfl k)
      show Ends p e below s _ _ _ (T2.setTop (mkF m 101 #[.val (.long x0), .second, .val (.long x1), .second, .val (.int x2), .val (.int (x2 &&& (3 : Int32))), .val (.long z64_6), .second, .val (.long (f1 x0 z64_6)), .second, .unset] [(.int (XT.cmpL (f1 x0 z64_6) x0))]))
      by_cases hc9 : (f1 x0 z64_6) = x0
      · have hv10 := hv8.trans (if_pos hc9)
        refine Ends.by ?_ (fun _ k => XS.ifYes X2.here hx rfl (pc0 := 101) (pc' := 112) rfl (hb hby at_101) rfl (XT.ll_eq_t hc9) (by decide) (by decide) k)
        show Ends p e below s _ _ _ (T2.setTop (mkF m 112 #[.val (.long x0), .second, .val (.long x1), .second, .val (.int x2), .val (.int (x2 &&& (3 : Int32))), .val (.long z64_6), .second, .val (.long (f1 x0 z64_6)), .second, .unset] []))
        refine Ends.by ?_ (fun _ k => XS.iconst X2.here hx rfl (hb hby at_112) k)
        show Ends p e below s _ _ _ (T2.setTop (mkF m 113 #[.val (.long x0), .second, .val (.long x1), .second, .val (.int x2), .val (.int (x2 &&& (3 : Int32))), .val (.long z64_6), .second, .val (.long (f1 x0 z64_6)), .second, .unset] [(.int (1 : Int32))]))
        refine Ends.by ?_ (fun _ k => XS.goto X2.here hx rfl (pc0 := 113) (pc' := 117) rfl (hb hby at_113) (by decide) (by decide) k)
        show Ends p e below s _ _ _ (T2.setTop (mkF m 117 #[.val (.long x0), .second, .val (.long x1), .second, .val (.int x2), .val (.int (x2 &&& (3 : Int32))), .val (.long z64_6), .second, .val (.long (f1 x0 z64_6)), .second, .unset] [(.int (1 : Int32))]))
        refine Ends.by ?_ (fun _ k => XS.istore X2.here hx rfl (hb hby at_117) rfl (l' := #[.val (.long x0), .second, .val (.long x1), .second, .val (.int x2), .val (.int (x2 &&& (3 : Int32))), .val (.long z64_6), .second, .val (.long (f1 x0 z64_6)), .second, .val (.int (1 : Int32))]) rfl k)
        show Ends p e below s _ _ _ (T2.setTop (mkF m 119 #[.val (.long x0), .second, .val (.long x1), .second, .val (.int x2), .val (.int (x2 &&& (3 : Int32))), .val (.long z64_6), .second, .val (.long (f1 x0 z64_6)), .second, .val (.int (1 : Int32))] []))
        refine Ends.by ?_ (fun _ k => XS.iload X2.here hx rfl (hb hby at_119) rfl k)
        show Ends p e below s _ _ _ (T2.setTop (mkF m 121 #[.val (.long x0), .second, .val (.long x1), .second, .val (.int x2), .val (.int (x2 &&& (3 : Int32))), .val (.long z64_6), .second, .val (.long (f1 x0 z64_6)), .second, .val (.int (1 : Int32))] [(.int (1 : Int32))]))
        refine Ends.by ?_ (fun _ k => XS.ifNo X2.here hx rfl (hb hby at_121) rfl (XT.i0_eq_f (by decide)) k)
        show Ends p e below s _ _ _ (T2.setTop (mkF m 124 #[.val (.long x0), .second, .val (.long x1), .second, .val (.int x2), .val (.int (x2 &&& (3 : Int32))), .val (.long z64_6), .second, .val (.long (f1 x0 z64_6)), .second, .val (.int (1 : Int32))] []))
        refine Ends.by ?_ (fun _ k => XS.lload X2.here hx rfl (hb hby at_124) rfl k)
        show Ends p e below s _ _ _ (T2.setTop (mkF m 126 #[.val (.long x0), .second, .val (.long x1), .second, .val (.int x2), .val (.int (x2 &&& (3 : Int32))), .val (.long z64_6), .second, .val (.long (f1 x0 z64_6)), .second, .val (.int (1 : Int32))] [(.long (f1 x0 z64_6))]))
        refine Ends.by ?_ (fun _ k => XS.lloadN X2.here hx rfl (hb hby at_126) rfl k)
        show Ends p e below s _ _ _ (T2.setTop (mkF m 127 #[.val (.long x0), .second, .val (.long x1), .second, .val (.int x2), .val (.int (x2 &&& (3 : Int32))), .val (.long z64_6), .second, .val (.long (f1 x0 z64_6)), .second, .val (.int (1 : Int32))] [(.long x0), (.long (f1 x0 z64_6))]))
        refine Ends.by ?_ (fun _ k => XS.lsub X2.here hx rfl (hb hby at_127) rfl k)
        show Ends p e below s _ _ _ (T2.setTop (mkF m 128 #[.val (.long x0), .second, .val (.long x1), .second, .val (.int x2), .val (.int (x2 &&& (3 : Int32))), .val (.long z64_6), .second, .val (.long (f1 x0 z64_6)), .second, .val (.int (1 : Int32))] [(.long ((f1 x0 z64_6) - x0))]))
        refine Ends.by ?_ (fun _ k => XS.lconst X2.here hx rfl (hb hby at_128) k)
        show Ends p e below s _ _ _ (T2.setTop (mkF m 129 #[.val (.long x0), .second, .val (.long x1), .second, .val (.int x2), .val (.int (x2 &&& (3 : Int32))), .val (.long z64_6), .second, .val (.long (f1 x0 z64_6)), .second, .val (.int (1 : Int32))] [(.long (0 : Int64)), (.long ((f1 x0 z64_6) - x0))]))
        refine Ends.by ?_ (fun _ k => XS.lcmp X2.here hx rfl (hb hby at_129) rfl k)
        show Ends p e below s _ _ _ (T2.setTop (mkF m 130 #[.val (.long x0), .second, .val (.long x1), .second, .val (.int x2), .val (.int (x2 &&& (3 : Int32))), .val (.long z64_6), .second, .val (.long (f1 x0 z64_6)), .second, .val (.int (1 : Int32))] [(.int (XT.cmpL ((f1 x0 z64_6) - x0) (0 : Int64)))]))
        by_cases hc11 : ((f1 x0 z64_6) - x0) < (0 : Int64)
        · have hv12 := hv10.trans (if_pos hc11)
          refine Ends.by ?_ (fun _ k => XS.ifYes X2.here hx rfl (pc0 := 130) (pc' := 147) rfl (hb hby at_130) rfl (XT.ll_lt_t hc11) (by decide) (by decide) k)
          show Ends p e below s _ _ _ (T2.setTop (mkF m 147 #[.val (.long x0), .second, .val (.long x1), .second, .val (.int x2), .val (.int (x2 &&& (3 : Int32))), .val (.long z64_6), .second, .val (.long (f1 x0 z64_6)), .second, .val (.int (1 : Int32))] []))
          refine Ends.by ?_ (fun _ k => XS.iconst X2.here hx rfl (hb hby at_147) k)
          show Ends p e below s _ _ _ (T2.setTop (mkF m 148 #[.val (.long x0), .second, .val (.long x1), .second, .val (.int x2), .val (.int (x2 &&& (3 : Int32))), .val (.long z64_6), .second, .val (.long (f1 x0 z64_6)), .second, .val (.int (1 : Int32))] [(.int (0 : Int32))]))
          exact Ends.retN X2 hx Bd.notSynchronized Bd.returns (t := .boolean) (by simp) (hb hby at_148) (w := (0 : Int32)) rfl ⟨by rw [hv12], N2, e2⟩ (by decide) (by decide)
        · have hv13 := hv10.trans (if_neg hc11)
          refine Ends.by ?_ (fun _ k => XS.ifNo X2.here hx rfl (hb hby at_130) rfl (XT.ll_lt_f hc11) k)
          show Ends p e below s _ _ _ (T2.setTop (mkF m 133 #[.val (.long x0), .second, .val (.long x1), .second, .val (.int x2), .val (.int (x2 &&& (3 : Int32))), .val (.long z64_6), .second, .val (.long (f1 x0 z64_6)), .second, .val (.int (1 : Int32))] []))
          refine Ends.by ?_ (fun _ k => XS.lload X2.here hx rfl (hb hby at_133) rfl k)
          show Ends p e below s _ _ _ (T2.setTop (mkF m 135 #[.val (.long x0), .second, .val (.long x1), .second, .val (.int x2), .val (.int (x2 &&& (3 : Int32))), .val (.long z64_6), .second, .val (.long (f1 x0 z64_6)), .second, .val (.int (1 : Int32))] [(.long (f1 x0 z64_6))]))
          refine Ends.by ?_ (fun _ k => XS.lload X2.here hx rfl (hb hby at_135) rfl k)
          show Ends p e below s _ _ _ (T2.setTop (mkF m 137 #[.val (.long x0), .second, .val (.long x1), .second, .val (.int x2), .val (.int (x2 &&& (3 : Int32))), .val (.long z64_6), .second, .val (.long (f1 x0 z64_6)), .second, .val (.int (1 : Int32))] [(.long z64_6), (.long (f1 x0 z64_6))]))
          refine Ends.by ?_ (fun _ k => XS.lsub X2.here hx rfl (hb hby at_137) rfl k)
          show Ends p e below s _ _ _ (T2.setTop (mkF m 138 #[.val (.long x0), .second, .val (.long x1), .second, .val (.int x2), .val (.int (x2 &&& (3 : Int32))), .val (.long z64_6), .second, .val (.long (f1 x0 z64_6)), .second, .val (.int (1 : Int32))] [(.long ((f1 x0 z64_6) - z64_6))]))
          refine Ends.by ?_ (fun _ k => XS.lconst X2.here hx rfl (hb hby at_138) k)
          show Ends p e below s _ _ _ (T2.setTop (mkF m 139 #[.val (.long x0), .second, .val (.long x1), .second, .val (.int x2), .val (.int (x2 &&& (3 : Int32))), .val (.long z64_6), .second, .val (.long (f1 x0 z64_6)), .second, .val (.int (1 : Int32))] [(.long (0 : Int64)), (.long ((f1 x0 z64_6) - z64_6))]))
          refine Ends.by ?_ (fun _ k => XS.lcmp X2.here hx rfl (hb hby at_139) rfl k)
          show Ends p e below s _ _ _ (T2.setTop (mkF m 140 #[.val (.long x0), .second, .val (.long x1), .second, .val (.int x2), .val (.int (x2 &&& (3 : Int32))), .val (.long z64_6), .second, .val (.long (f1 x0 z64_6)), .second, .val (.int (1 : Int32))] [(.int (XT.cmpL ((f1 x0 z64_6) - z64_6) (0 : Int64)))]))
          by_cases hc14 : ((f1 x0 z64_6) - z64_6) < (0 : Int64)
          · have hv15 := hv13.trans (if_pos hc14)
            refine Ends.by ?_ (fun _ k => XS.ifYes X2.here hx rfl (pc0 := 140) (pc' := 147) rfl (hb hby at_140) rfl (XT.ll_lt_t hc14) (by decide) (by decide) k)
            show Ends p e below s _ _ _ (T2.setTop (mkF m 147 #[.val (.long x0), .second, .val (.long x1), .second, .val (.int x2), .val (.int (x2 &&& (3 : Int32))), .val (.long z64_6), .second, .val (.long (f1 x0 z64_6)), .second, .val (.int (1 : Int32))] []))
            refine Ends.by ?_ (fun _ k => XS.iconst X2.here hx rfl (hb hby at_147) k)
            show Ends p e below s _ _ _ (T2.setTop (mkF m 148 #[.val (.long x0), .second, .val (.long x1), .second, .val (.int x2), .val (.int (x2 &&& (3 : Int32))), .val (.long z64_6), .second, .val (.long (f1 x0 z64_6)), .second, .val (.int (1 : Int32))] [(.int (0 : Int32))]))
            exact Ends.retN X2 hx Bd.notSynchronized Bd.returns (t := .boolean) (by simp) (hb hby at_148) (w := (0 : Int32)) rfl ⟨by rw [hv15], N2, e2⟩ (by decide) (by decide)
          · have hv16 := hv13.trans (if_neg hc14)
            refine Ends.by ?_ (fun _ k => XS.ifNo X2.here hx rfl (hb hby at_140) rfl (XT.ll_lt_f hc14) k)
            show Ends p e below s _ _ _ (T2.setTop (mkF m 143 #[.val (.long x0), .second, .val (.long x1), .second, .val (.int x2), .val (.int (x2 &&& (3 : Int32))), .val (.long z64_6), .second, .val (.long (f1 x0 z64_6)), .second, .val (.int (1 : Int32))] []))
            refine Ends.by ?_ (fun _ k => XS.iconst X2.here hx rfl (hb hby at_143) k)
            show Ends p e below s _ _ _ (T2.setTop (mkF m 144 #[.val (.long x0), .second, .val (.long x1), .second, .val (.int x2), .val (.int (x2 &&& (3 : Int32))), .val (.long z64_6), .second, .val (.long (f1 x0 z64_6)), .second, .val (.int (1 : Int32))] [(.int (1 : Int32))]))
            refine Ends.by ?_ (fun _ k => XS.goto X2.here hx rfl (pc0 := 144) (pc' := 148) rfl (hb hby at_144) (by decide) (by decide) k)
            show Ends p e below s _ _ _ (T2.setTop (mkF m 148 #[.val (.long x0), .second, .val (.long x1), .second, .val (.int x2), .val (.int (x2 &&& (3 : Int32))), .val (.long z64_6), .second, .val (.long (f1 x0 z64_6)), .second, .val (.int (1 : Int32))] [(.int (1 : Int32))]))
            exact Ends.retN X2 hx Bd.notSynchronized Bd.returns (t := .boolean) (by simp) (hb hby at_148) (w := (1 : Int32)) rfl ⟨by rw [hv16], N2, e2⟩ (by decide) (by decide)
      · have hv17 := hv8.trans (if_neg hc9)
        refine Ends.by ?_ (fun _ k => XS.ifNo X2.here hx rfl (hb hby at_101) rfl (XT.ll_eq_f hc9) k)
        show Ends p e below s _ _ _ (T2.setTop (mkF m 104 #[.val (.long x0), .second, .val (.long x1), .second, .val (.int x2), .val (.int (x2 &&& (3 : Int32))), .val (.long z64_6), .second, .val (.long (f1 x0 z64_6)), .second, .unset] []))
        refine Ends.by ?_ (fun _ k => XS.lload X2.here hx rfl (hb hby at_104) rfl k)
        show Ends p e below s _ _ _ (T2.setTop (mkF m 106 #[.val (.long x0), .second, .val (.long x1), .second, .val (.int x2), .val (.int (x2 &&& (3 : Int32))), .val (.long z64_6), .second, .val (.long (f1 x0 z64_6)), .second, .unset] [(.long (f1 x0 z64_6))]))
        refine Ends.by ?_ (fun _ k => XS.lload X2.here hx rfl (hb hby at_106) rfl k)
        show Ends p e below s _ _ _ (T2.setTop (mkF m 108 #[.val (.long x0), .second, .val (.long x1), .second, .val (.int x2), .val (.int (x2 &&& (3 : Int32))), .val (.long z64_6), .second, .val (.long (f1 x0 z64_6)), .second, .unset] [(.long z64_6), (.long (f1 x0 z64_6))]))
        refine Ends.by ?_ (fun _ k => XS.lcmp X2.here hx rfl (hb hby at_108) rfl k)
        show Ends p e below s _ _ _ (T2.setTop (mkF m 109 #[.val (.long x0), .second, .val (.long x1), .second, .val (.int x2), .val (.int (x2 &&& (3 : Int32))), .val (.long z64_6), .second, .val (.long (f1 x0 z64_6)), .second, .unset] [(.int (XT.cmpL (f1 x0 z64_6) z64_6))]))
        by_cases hc18 : (f1 x0 z64_6) = z64_6
        · have hv19 := hv17.trans (if_pos hc18)
          refine Ends.by ?_ (fun _ k => XS.ifNo X2.here hx rfl (hb hby at_109) rfl (XT.ll_ne_f hc18) k)
          show Ends p e below s _ _ _ (T2.setTop (mkF m 112 #[.val (.long x0), .second, .val (.long x1), .second, .val (.int x2), .val (.int (x2 &&& (3 : Int32))), .val (.long z64_6), .second, .val (.long (f1 x0 z64_6)), .second, .unset] []))
          refine Ends.by ?_ (fun _ k => XS.iconst X2.here hx rfl (hb hby at_112) k)
          show Ends p e below s _ _ _ (T2.setTop (mkF m 113 #[.val (.long x0), .second, .val (.long x1), .second, .val (.int x2), .val (.int (x2 &&& (3 : Int32))), .val (.long z64_6), .second, .val (.long (f1 x0 z64_6)), .second, .unset] [(.int (1 : Int32))]))
          refine Ends.by ?_ (fun _ k => XS.goto X2.here hx rfl (pc0 := 113) (pc' := 117) rfl (hb hby at_113) (by decide) (by decide) k)
          show Ends p e below s _ _ _ (T2.setTop (mkF m 117 #[.val (.long x0), .second, .val (.long x1), .second, .val (.int x2), .val (.int (x2 &&& (3 : Int32))), .val (.long z64_6), .second, .val (.long (f1 x0 z64_6)), .second, .unset] [(.int (1 : Int32))]))
          refine Ends.by ?_ (fun _ k => XS.istore X2.here hx rfl (hb hby at_117) rfl (l' := #[.val (.long x0), .second, .val (.long x1), .second, .val (.int x2), .val (.int (x2 &&& (3 : Int32))), .val (.long z64_6), .second, .val (.long (f1 x0 z64_6)), .second, .val (.int (1 : Int32))]) rfl k)
          show Ends p e below s _ _ _ (T2.setTop (mkF m 119 #[.val (.long x0), .second, .val (.long x1), .second, .val (.int x2), .val (.int (x2 &&& (3 : Int32))), .val (.long z64_6), .second, .val (.long (f1 x0 z64_6)), .second, .val (.int (1 : Int32))] []))
          refine Ends.by ?_ (fun _ k => XS.iload X2.here hx rfl (hb hby at_119) rfl k)
          show Ends p e below s _ _ _ (T2.setTop (mkF m 121 #[.val (.long x0), .second, .val (.long x1), .second, .val (.int x2), .val (.int (x2 &&& (3 : Int32))), .val (.long z64_6), .second, .val (.long (f1 x0 z64_6)), .second, .val (.int (1 : Int32))] [(.int (1 : Int32))]))
          refine Ends.by ?_ (fun _ k => XS.ifNo X2.here hx rfl (hb hby at_121) rfl (XT.i0_eq_f (by decide)) k)
          show Ends p e below s _ _ _ (T2.setTop (mkF m 124 #[.val (.long x0), .second, .val (.long x1), .second, .val (.int x2), .val (.int (x2 &&& (3 : Int32))), .val (.long z64_6), .second, .val (.long (f1 x0 z64_6)), .second, .val (.int (1 : Int32))] []))
          refine Ends.by ?_ (fun _ k => XS.lload X2.here hx rfl (hb hby at_124) rfl k)
          show Ends p e below s _ _ _ (T2.setTop (mkF m 126 #[.val (.long x0), .second, .val (.long x1), .second, .val (.int x2), .val (.int (x2 &&& (3 : Int32))), .val (.long z64_6), .second, .val (.long (f1 x0 z64_6)), .second, .val (.int (1 : Int32))] [(.long (f1 x0 z64_6))]))
          refine Ends.by ?_ (fun _ k => XS.lloadN X2.here hx rfl (hb hby at_126) rfl k)
          show Ends p e below s _ _ _ (T2.setTop (mkF m 127 #[.val (.long x0), .second, .val (.long x1), .second, .val (.int x2), .val (.int (x2 &&& (3 : Int32))), .val (.long z64_6), .second, .val (.long (f1 x0 z64_6)), .second, .val (.int (1 : Int32))] [(.long x0), (.long (f1 x0 z64_6))]))
          refine Ends.by ?_ (fun _ k => XS.lsub X2.here hx rfl (hb hby at_127) rfl k)
          show Ends p e below s _ _ _ (T2.setTop (mkF m 128 #[.val (.long x0), .second, .val (.long x1), .second, .val (.int x2), .val (.int (x2 &&& (3 : Int32))), .val (.long z64_6), .second, .val (.long (f1 x0 z64_6)), .second, .val (.int (1 : Int32))] [(.long ((f1 x0 z64_6) - x0))]))
          refine Ends.by ?_ (fun _ k => XS.lconst X2.here hx rfl (hb hby at_128) k)
          show Ends p e below s _ _ _ (T2.setTop (mkF m 129 #[.val (.long x0), .second, .val (.long x1), .second, .val (.int x2), .val (.int (x2 &&& (3 : Int32))), .val (.long z64_6), .second, .val (.long (f1 x0 z64_6)), .second, .val (.int (1 : Int32))] [(.long (0 : Int64)), (.long ((f1 x0 z64_6) - x0))]))
          refine Ends.by ?_ (fun _ k => XS.lcmp X2.here hx rfl (hb hby at_129) rfl k)
          show Ends p e below s _ _ _ (T2.setTop (mkF m 130 #[.val (.long x0), .second, .val (.long x1), .second, .val (.int x2), .val (.int (x2 &&& (3 : Int32))), .val (.long z64_6), .second, .val (.long (f1 x0 z64_6)), .second, .val (.int (1 : Int32))] [(.int (XT.cmpL ((f1 x0 z64_6) - x0) (0 : Int64)))]))
          by_cases hc20 : ((f1 x0 z64_6) - x0) < (0 : Int64)
          · have hv21 := hv19.trans (if_pos hc20)
            refine Ends.by ?_ (fun _ k => XS.ifYes X2.here hx rfl (pc0 := 130) (pc' := 147) rfl (hb hby at_130) rfl (XT.ll_lt_t hc20) (by decide) (by decide) k)
            show Ends p e below s _ _ _ (T2.setTop (mkF m 147 #[.val (.long x0), .second, .val (.long x1), .second, .val (.int x2), .val (.int (x2 &&& (3 : Int32))), .val (.long z64_6), .second, .val (.long (f1 x0 z64_6)), .second, .val (.int (1 : Int32))] []))
            refine Ends.by ?_ (fun _ k => XS.iconst X2.here hx rfl (hb hby at_147) k)
            show Ends p e below s _ _ _ (T2.setTop (mkF m 148 #[.val (.long x0), .second, .val (.long x1), .second, .val (.int x2), .val (.int (x2 &&& (3 : Int32))), .val (.long z64_6), .second, .val (.long (f1 x0 z64_6)), .second, .val (.int (1 : Int32))] [(.int (0 : Int32))]))
            exact Ends.retN X2 hx Bd.notSynchronized Bd.returns (t := .boolean) (by simp) (hb hby at_148) (w := (0 : Int32)) rfl ⟨by rw [hv21], N2, e2⟩ (by decide) (by decide)
          · have hv22 := hv19.trans (if_neg hc20)
            refine Ends.by ?_ (fun _ k => XS.ifNo X2.here hx rfl (hb hby at_130) rfl (XT.ll_lt_f hc20) k)
            show Ends p e below s _ _ _ (T2.setTop (mkF m 133 #[.val (.long x0), .second, .val (.long x1), .second, .val (.int x2), .val (.int (x2 &&& (3 : Int32))), .val (.long z64_6), .second, .val (.long (f1 x0 z64_6)), .second, .val (.int (1 : Int32))] []))
            refine Ends.by ?_ (fun _ k => XS.lload X2.here hx rfl (hb hby at_133) rfl k)
            show Ends p e below s _ _ _ (T2.setTop (mkF m 135 #[.val (.long x0), .second, .val (.long x1), .second, .val (.int x2), .val (.int (x2 &&& (3 : Int32))), .val (.long z64_6), .second, .val (.long (f1 x0 z64_6)), .second, .val (.int (1 : Int32))] [(.long (f1 x0 z64_6))]))
            refine Ends.by ?_ (fun _ k => XS.lload X2.here hx rfl (hb hby at_135) rfl k)
            show Ends p e below s _ _ _ (T2.setTop (mkF m 137 #[.val (.long x0), .second, .val (.long x1), .second, .val (.int x2), .val (.int (x2 &&& (3 : Int32))), .val (.long z64_6), .second, .val (.long (f1 x0 z64_6)), .second, .val (.int (1 : Int32))] [(.long z64_6), (.long (f1 x0 z64_6))]))
            refine Ends.by ?_ (fun _ k => XS.lsub X2.here hx rfl (hb hby at_137) rfl k)
            show Ends p e below s _ _ _ (T2.setTop (mkF m 138 #[.val (.long x0), .second, .val (.long x1), .second, .val (.int x2), .val (.int (x2 &&& (3 : Int32))), .val (.long z64_6), .second, .val (.long (f1 x0 z64_6)), .second, .val (.int (1 : Int32))] [(.long ((f1 x0 z64_6) - z64_6))]))
            refine Ends.by ?_ (fun _ k => XS.lconst X2.here hx rfl (hb hby at_138) k)
            show Ends p e below s _ _ _ (T2.setTop (mkF m 139 #[.val (.long x0), .second, .val (.long x1), .second, .val (.int x2), .val (.int (x2 &&& (3 : Int32))), .val (.long z64_6), .second, .val (.long (f1 x0 z64_6)), .second, .val (.int (1 : Int32))] [(.long (0 : Int64)), (.long ((f1 x0 z64_6) - z64_6))]))
            refine Ends.by ?_ (fun _ k => XS.lcmp X2.here hx rfl (hb hby at_139) rfl k)
            show Ends p e below s _ _ _ (T2.setTop (mkF m 140 #[.val (.long x0), .second, .val (.long x1), .second, .val (.int x2), .val (.int (x2 &&& (3 : Int32))), .val (.long z64_6), .second, .val (.long (f1 x0 z64_6)), .second, .val (.int (1 : Int32))] [(.int (XT.cmpL ((f1 x0 z64_6) - z64_6) (0 : Int64)))]))
            by_cases hc23 : ((f1 x0 z64_6) - z64_6) < (0 : Int64)
            · have hv24 := hv22.trans (if_pos hc23)
              refine Ends.by ?_ (fun _ k => XS.ifYes X2.here hx rfl (pc0 := 140) (pc' := 147) rfl (hb hby at_140) rfl (XT.ll_lt_t hc23) (by decide) (by decide) k)
              show Ends p e below s _ _ _ (T2.setTop (mkF m 147 #[.val (.long x0), .second, .val (.long x1), .second, .val (.int x2), .val (.int (x2 &&& (3 : Int32))), .val (.long z64_6), .second, .val (.long (f1 x0 z64_6)), .second, .val (.int (1 : Int32))] []))
              refine Ends.by ?_ (fun _ k => XS.iconst X2.here hx rfl (hb hby at_147) k)
              show Ends p e below s _ _ _ (T2.setTop (mkF m 148 #[.val (.long x0), .second, .val (.long x1), .second, .val (.int x2), .val (.int (x2 &&& (3 : Int32))), .val (.long z64_6), .second, .val (.long (f1 x0 z64_6)), .second, .val (.int (1 : Int32))] [(.int (0 : Int32))]))
              exact Ends.retN X2 hx Bd.notSynchronized Bd.returns (t := .boolean) (by simp) (hb hby at_148) (w := (0 : Int32)) rfl ⟨by rw [hv24], N2, e2⟩ (by decide) (by decide)
            · have hv25 := hv22.trans (if_neg hc23)
              refine Ends.by ?_ (fun _ k => XS.ifNo X2.here hx rfl (hb hby at_140) rfl (XT.ll_lt_f hc23) k)
              show Ends p e below s _ _ _ (T2.setTop (mkF m 143 #[.val (.long x0), .second, .val (.long x1), .second, .val (.int x2), .val (.int (x2 &&& (3 : Int32))), .val (.long z64_6), .second, .val (.long (f1 x0 z64_6)), .second, .val (.int (1 : Int32))] []))
              refine Ends.by ?_ (fun _ k => XS.iconst X2.here hx rfl (hb hby at_143) k)
              show Ends p e below s _ _ _ (T2.setTop (mkF m 144 #[.val (.long x0), .second, .val (.long x1), .second, .val (.int x2), .val (.int (x2 &&& (3 : Int32))), .val (.long z64_6), .second, .val (.long (f1 x0 z64_6)), .second, .val (.int (1 : Int32))] [(.int (1 : Int32))]))
              refine Ends.by ?_ (fun _ k => XS.goto X2.here hx rfl (pc0 := 144) (pc' := 148) rfl (hb hby at_144) (by decide) (by decide) k)
              show Ends p e below s _ _ _ (T2.setTop (mkF m 148 #[.val (.long x0), .second, .val (.long x1), .second, .val (.int x2), .val (.int (x2 &&& (3 : Int32))), .val (.long z64_6), .second, .val (.long (f1 x0 z64_6)), .second, .val (.int (1 : Int32))] [(.int (1 : Int32))]))
              exact Ends.retN X2 hx Bd.notSynchronized Bd.returns (t := .boolean) (by simp) (hb hby at_148) (w := (1 : Int32)) rfl ⟨by rw [hv25], N2, e2⟩ (by decide) (by decide)
        · have hv26 := hv17.trans (if_neg hc18)
          refine Ends.by ?_ (fun _ k => XS.ifYes X2.here hx rfl (pc0 := 109) (pc' := 116) rfl (hb hby at_109) rfl (XT.ll_ne_t hc18) (by decide) (by decide) k)
          show Ends p e below s _ _ _ (T2.setTop (mkF m 116 #[.val (.long x0), .second, .val (.long x1), .second, .val (.int x2), .val (.int (x2 &&& (3 : Int32))), .val (.long z64_6), .second, .val (.long (f1 x0 z64_6)), .second, .unset] []))
          refine Ends.by ?_ (fun _ k => XS.iconst X2.here hx rfl (hb hby at_116) k)
          show Ends p e below s _ _ _ (T2.setTop (mkF m 117 #[.val (.long x0), .second, .val (.long x1), .second, .val (.int x2), .val (.int (x2 &&& (3 : Int32))), .val (.long z64_6), .second, .val (.long (f1 x0 z64_6)), .second, .unset] [(.int (0 : Int32))]))
          refine Ends.by ?_ (fun _ k => XS.istore X2.here hx rfl (hb hby at_117) rfl (l' := #[.val (.long x0), .second, .val (.long x1), .second, .val (.int x2), .val (.int (x2 &&& (3 : Int32))), .val (.long z64_6), .second, .val (.long (f1 x0 z64_6)), .second, .val (.int (0 : Int32))]) rfl k)
          show Ends p e below s _ _ _ (T2.setTop (mkF m 119 #[.val (.long x0), .second, .val (.long x1), .second, .val (.int x2), .val (.int (x2 &&& (3 : Int32))), .val (.long z64_6), .second, .val (.long (f1 x0 z64_6)), .second, .val (.int (0 : Int32))] []))
          refine Ends.by ?_ (fun _ k => XS.iload X2.here hx rfl (hb hby at_119) rfl k)
          show Ends p e below s _ _ _ (T2.setTop (mkF m 121 #[.val (.long x0), .second, .val (.long x1), .second, .val (.int x2), .val (.int (x2 &&& (3 : Int32))), .val (.long z64_6), .second, .val (.long (f1 x0 z64_6)), .second, .val (.int (0 : Int32))] [(.int (0 : Int32))]))
          refine Ends.by ?_ (fun _ k => XS.ifYes X2.here hx rfl (pc0 := 121) (pc' := 147) rfl (hb hby at_121) rfl (XT.i0_eq_t (by decide)) (by decide) (by decide) k)
          show Ends p e below s _ _ _ (T2.setTop (mkF m 147 #[.val (.long x0), .second, .val (.long x1), .second, .val (.int x2), .val (.int (x2 &&& (3 : Int32))), .val (.long z64_6), .second, .val (.long (f1 x0 z64_6)), .second, .val (.int (0 : Int32))] []))
          refine Ends.by ?_ (fun _ k => XS.iconst X2.here hx rfl (hb hby at_147) k)
          show Ends p e below s _ _ _ (T2.setTop (mkF m 148 #[.val (.long x0), .second, .val (.long x1), .second, .val (.int x2), .val (.int (x2 &&& (3 : Int32))), .val (.long z64_6), .second, .val (.long (f1 x0 z64_6)), .second, .val (.int (0 : Int32))] [(.int (0 : Int32))]))
          exact Ends.retN X2 hx Bd.notSynchronized Bd.returns (t := .boolean) (by simp) (hb hby at_148) (w := (0 : Int32)) rfl ⟨by rw [hv26], N2, e2⟩ (by decide) (by decide)
  refine Ends.by ?_ (fun _ k => XS.iload X0.here hx rfl (hb hby at_6) rfl k)
  show Ends p e below s _ _ _ (s₁.setTop (mkF m 8 #[.val (.long x0), .second, .val (.long x1), .second, .val (.int x2), .val (.int (x2 &&& (3 : Int32))), .unset, .unset, .unset, .unset, .unset] [(.int (x2 &&& (3 : Int32)))]))
  refine Ends.by ?_ (fun _ k => XS.iconst X0.here hx rfl (hb hby at_8) k)
  show Ends p e below s _ _ _ (s₁.setTop (mkF m 9 #[.val (.long x0), .second, .val (.long x1), .second, .val (.int x2), .val (.int (x2 &&& (3 : Int32))), .unset, .unset, .unset, .unset, .unset] [(.int (1 : Int32)), (.int (x2 &&& (3 : Int32)))]))
  by_cases hc27 : (x2 &&& (3 : Int32)) = (1 : Int32)
  · have hv28 := hv0.trans (if_pos hc27)
    refine Ends.by ?_ (fun _ k => XS.icmpNo X0.here hx rfl (hb hby at_9) rfl (XT.ii_ne_f hc27) k)
    show Ends p e below s _ _ _ (s₁.setTop (mkF m 12 #[.val (.long x0), .second, .val (.long x1), .second, .val (.int x2), .val (.int (x2 &&& (3 : Int32))), .unset, .unset, .unset, .unset, .unset] []))
    refine Ends.by ?_ (fun _ k => XS.lloadN X0.here hx rfl (hb hby at_12) rfl k)
    show Ends p e below s _ _ _ (s₁.setTop (mkF m 13 #[.val (.long x0), .second, .val (.long x1), .second, .val (.int x2), .val (.int (x2 &&& (3 : Int32))), .unset, .unset, .unset, .unset, .unset] [(.long x0)]))
    refine Ends.by ?_ (X0.ldc2Long hx hown (mvT hZ (hw _ (List.mem_of_getElem? (i := 4) rfl))) (g := (mkF m 13 #[.val (.long x0), .second, .val (.long x1), .second, .val (.int x2), .val (.int (x2 &&& (3 : Int32))), .unset, .unset, .unset, .unset, .unset] [(.long x0)])) rfl (hb hby at_13))
    show Ends p e below s _ _ _ (s₁.setTop (mkF m 16 #[.val (.long x0), .second, .val (.long x1), .second, .val (.int x2), .val (.int (x2 &&& (3 : Int32))), .unset, .unset, .unset, .unset, .unset] [(.long (-9223372036854775808 : Int64)), (.long x0)]))
    refine Ends.by ?_ (fun _ k => XS.lxor X0.here hx rfl (hb hby at_16) rfl k)
    show Ends p e below s _ _ _ (s₁.setTop (mkF m 17 #[.val (.long x0), .second, .val (.long x1), .second, .val (.int x2), .val (.int (x2 &&& (3 : Int32))), .unset, .unset, .unset, .unset, .unset] [(.long (x0 ^^^ (-9223372036854775808 : Int64)))]))
    refine Ends.by ?_ (fun _ k => XS.lstore X0.here hx rfl (hb hby at_17) rfl (l' := #[.val (.long x0), .second, .val (.long x1), .second, .val (.int x2), .val (.int (x2 &&& (3 : Int32))), .val (.long (x0 ^^^ (-9223372036854775808 : Int64))), .second, .unset, .unset, .unset]) rfl k)
    show Ends p e below s _ _ _ (s₁.setTop (mkF m 19 #[.val (.long x0), .second, .val (.long x1), .second, .val (.int x2), .val (.int (x2 &&& (3 : Int32))), .val (.long (x0 ^^^ (-9223372036854775808 : Int64))), .second, .unset, .unset, .unset] []))
    refine Ends.by ?_ (fun _ k => XS.goto X0.here hx rfl (pc0 := 19) (pc' := 64) rfl (hb hby at_19) (by decide) (by decide) k)
    show Ends p e below s _ _ _ (s₁.setTop (mkF m 64 #[.val (.long x0), .second, .val (.long x1), .second, .val (.int x2), .val (.int (x2 &&& (3 : Int32))), .val (.long (x0 ^^^ (-9223372036854775808 : Int64))), .second, .unset, .unset, .unset] []))
    exact j64 s₁ _ X0 e0 N0 (x0 ^^^ (-9223372036854775808 : Int64)) hv28
  · have hv29 := hv0.trans (if_neg hc27)
    refine Ends.by ?_ (fun _ k => XS.icmpYes X0.here hx rfl (pc0 := 9) (pc' := 22) rfl (hb hby at_9) rfl (XT.ii_ne_t hc27) (by decide) (by decide) k)
    show Ends p e below s _ _ _ (s₁.setTop (mkF m 22 #[.val (.long x0), .second, .val (.long x1), .second, .val (.int x2), .val (.int (x2 &&& (3 : Int32))), .unset, .unset, .unset, .unset, .unset] []))
    refine Ends.by ?_ (fun _ k => XS.iload X0.here hx rfl (hb hby at_22) rfl k)
    show Ends p e below s _ _ _ (s₁.setTop (mkF m 24 #[.val (.long x0), .second, .val (.long x1), .second, .val (.int x2), .val (.int (x2 &&& (3 : Int32))), .unset, .unset, .unset, .unset, .unset] [(.int (x2 &&& (3 : Int32)))]))
    refine Ends.by ?_ (fun _ k => XS.iconst X0.here hx rfl (hb hby at_24) k)
    show Ends p e below s _ _ _ (s₁.setTop (mkF m 25 #[.val (.long x0), .second, .val (.long x1), .second, .val (.int x2), .val (.int (x2 &&& (3 : Int32))), .unset, .unset, .unset, .unset, .unset] [(.int (2 : Int32)), (.int (x2 &&& (3 : Int32)))]))
    by_cases hc30 : (x2 &&& (3 : Int32)) = (2 : Int32)
    · have hv31 := hv29.trans (if_pos hc30)
      refine Ends.by ?_ (fun _ k => XS.icmpNo X0.here hx rfl (hb hby at_25) rfl (XT.ii_ne_f hc30) k)
      show Ends p e below s _ _ _ (s₁.setTop (mkF m 28 #[.val (.long x0), .second, .val (.long x1), .second, .val (.int x2), .val (.int (x2 &&& (3 : Int32))), .unset, .unset, .unset, .unset, .unset] []))
      refine Ends.by ?_ (fun _ k => XS.lloadN X0.here hx rfl (hb hby at_28) rfl k)
      show Ends p e below s _ _ _ (s₁.setTop (mkF m 29 #[.val (.long x0), .second, .val (.long x1), .second, .val (.int x2), .val (.int (x2 &&& (3 : Int32))), .unset, .unset, .unset, .unset, .unset] [(.long x0)]))
      refine Ends.by ?_ (fun _ k => XS.lstore X0.here hx rfl (hb hby at_29) rfl (l' := #[.val (.long x0), .second, .val (.long x1), .second, .val (.int x2), .val (.int (x2 &&& (3 : Int32))), .val (.long x0), .second, .unset, .unset, .unset]) rfl k)
      show Ends p e below s _ _ _ (s₁.setTop (mkF m 31 #[.val (.long x0), .second, .val (.long x1), .second, .val (.int x2), .val (.int (x2 &&& (3 : Int32))), .val (.long x0), .second, .unset, .unset, .unset] []))
      refine Ends.by ?_ (fun _ k => XS.goto X0.here hx rfl (pc0 := 31) (pc' := 64) rfl (hb hby at_31) (by decide) (by decide) k)
      show Ends p e below s _ _ _ (s₁.setTop (mkF m 64 #[.val (.long x0), .second, .val (.long x1), .second, .val (.int x2), .val (.int (x2 &&& (3 : Int32))), .val (.long x0), .second, .unset, .unset, .unset] []))
      exact j64 s₁ _ X0 e0 N0 x0 hv31
    · have hv32 := hv29.trans (if_neg hc30)
      refine Ends.by ?_ (fun _ k => XS.icmpYes X0.here hx rfl (pc0 := 25) (pc' := 34) rfl (hb hby at_25) rfl (XT.ii_ne_t hc30) (by decide) (by decide) k)
      show Ends p e below s _ _ _ (s₁.setTop (mkF m 34 #[.val (.long x0), .second, .val (.long x1), .second, .val (.int x2), .val (.int (x2 &&& (3 : Int32))), .unset, .unset, .unset, .unset, .unset] []))
      refine Ends.by ?_ (fun _ k => XS.iload X0.here hx rfl (hb hby at_34) rfl k)
      show Ends p e below s _ _ _ (s₁.setTop (mkF m 36 #[.val (.long x0), .second, .val (.long x1), .second, .val (.int x2), .val (.int (x2 &&& (3 : Int32))), .unset, .unset, .unset, .unset, .unset] [(.int (x2 &&& (3 : Int32)))]))
      refine Ends.by ?_ (fun _ k => XS.iconst X0.here hx rfl (hb hby at_36) k)
      show Ends p e below s _ _ _ (s₁.setTop (mkF m 37 #[.val (.long x0), .second, .val (.long x1), .second, .val (.int x2), .val (.int (x2 &&& (3 : Int32))), .unset, .unset, .unset, .unset, .unset] [(.int (3 : Int32)), (.int (x2 &&& (3 : Int32)))]))
      by_cases hc33 : (x2 &&& (3 : Int32)) = (3 : Int32)
      · have hv34 := hv32.trans (if_pos hc33)
        refine Ends.by ?_ (fun _ k => XS.icmpNo X0.here hx rfl (hb hby at_37) rfl (XT.ii_ne_f hc33) k)
        show Ends p e below s _ _ _ (s₁.setTop (mkF m 40 #[.val (.long x0), .second, .val (.long x1), .second, .val (.int x2), .val (.int (x2 &&& (3 : Int32))), .unset, .unset, .unset, .unset, .unset] []))
        refine Ends.by ?_ (fun _ k => XS.iload X0.here hx rfl (hb hby at_40) rfl k)
        show Ends p e below s _ _ _ (s₁.setTop (mkF m 42 #[.val (.long x0), .second, .val (.long x1), .second, .val (.int x2), .val (.int (x2 &&& (3 : Int32))), .unset, .unset, .unset, .unset, .unset] [(.int x2)]))
        refine Ends.by ?_ (fun _ k => XS.iconst X0.here hx rfl (hb hby at_42) k)
        show Ends p e below s _ _ _ (s₁.setTop (mkF m 43 #[.val (.long x0), .second, .val (.long x1), .second, .val (.int x2), .val (.int (x2 &&& (3 : Int32))), .unset, .unset, .unset, .unset, .unset] [(.int (4 : Int32)), (.int x2)]))
        refine Ends.by ?_ (fun _ k => XS.iand X0.here hx rfl (hb hby at_43) rfl k)
        show Ends p e below s _ _ _ (s₁.setTop (mkF m 44 #[.val (.long x0), .second, .val (.long x1), .second, .val (.int x2), .val (.int (x2 &&& (3 : Int32))), .unset, .unset, .unset, .unset, .unset] [(.int (x2 &&& (4 : Int32)))]))
        by_cases hc35 : (x2 &&& (4 : Int32)) = (0 : Int32)
        · have hv36 := hv34.trans (if_pos hc35)
          refine Ends.by ?_ (fun _ k => XS.ifYes X0.here hx rfl (pc0 := 44) (pc' := 53) rfl (hb hby at_44) rfl (XT.i0_eq_t hc35) (by decide) (by decide) k)
          show Ends p e below s _ _ _ (s₁.setTop (mkF m 53 #[.val (.long x0), .second, .val (.long x1), .second, .val (.int x2), .val (.int (x2 &&& (3 : Int32))), .unset, .unset, .unset, .unset, .unset] []))
          refine Ends.by ?_ (fun _ k => XS.lloadN X0.here hx rfl (hb hby at_53) rfl k)
          show Ends p e below s _ _ _ (s₁.setTop (mkF m 54 #[.val (.long x0), .second, .val (.long x1), .second, .val (.int x2), .val (.int (x2 &&& (3 : Int32))), .unset, .unset, .unset, .unset, .unset] [(.long x0)]))
          refine Ends.by ?_ (fun _ k => XS.lconst X0.here hx rfl (hb hby at_54) k)
          show Ends p e below s _ _ _ (s₁.setTop (mkF m 55 #[.val (.long x0), .second, .val (.long x1), .second, .val (.int x2), .val (.int (x2 &&& (3 : Int32))), .unset, .unset, .unset, .unset, .unset] [(.long (1 : Int64)), (.long x0)]))
          refine Ends.by ?_ (fun _ k => XS.lsub X0.here hx rfl (hb hby at_55) rfl k)
          show Ends p e below s _ _ _ (s₁.setTop (mkF m 56 #[.val (.long x0), .second, .val (.long x1), .second, .val (.int x2), .val (.int (x2 &&& (3 : Int32))), .unset, .unset, .unset, .unset, .unset] [(.long (x0 - (1 : Int64)))]))
          refine Ends.by ?_ (fun _ k => XS.lstore X0.here hx rfl (hb hby at_56) rfl (l' := #[.val (.long x0), .second, .val (.long x1), .second, .val (.int x2), .val (.int (x2 &&& (3 : Int32))), .val (.long (x0 - (1 : Int64))), .second, .unset, .unset, .unset]) rfl k)
          show Ends p e below s _ _ _ (s₁.setTop (mkF m 58 #[.val (.long x0), .second, .val (.long x1), .second, .val (.int x2), .val (.int (x2 &&& (3 : Int32))), .val (.long (x0 - (1 : Int64))), .second, .unset, .unset, .unset] []))
          refine Ends.by ?_ (fun _ k => XS.goto X0.here hx rfl (pc0 := 58) (pc' := 64) rfl (hb hby at_58) (by decide) (by decide) k)
          show Ends p e below s _ _ _ (s₁.setTop (mkF m 64 #[.val (.long x0), .second, .val (.long x1), .second, .val (.int x2), .val (.int (x2 &&& (3 : Int32))), .val (.long (x0 - (1 : Int64))), .second, .unset, .unset, .unset] []))
          exact j64 s₁ _ X0 e0 N0 (x0 - (1 : Int64)) hv36
        · have hv37 := hv34.trans (if_neg hc35)
          refine Ends.by ?_ (fun _ k => XS.ifNo X0.here hx rfl (hb hby at_44) rfl (XT.i0_eq_f hc35) k)
          show Ends p e below s _ _ _ (s₁.setTop (mkF m 47 #[.val (.long x0), .second, .val (.long x1), .second, .val (.int x2), .val (.int (x2 &&& (3 : Int32))), .unset, .unset, .unset, .unset, .unset] []))
          refine Ends.by ?_ (fun _ k => XS.lloadN X0.here hx rfl (hb hby at_47) rfl k)
          show Ends p e below s _ _ _ (s₁.setTop (mkF m 48 #[.val (.long x0), .second, .val (.long x1), .second, .val (.int x2), .val (.int (x2 &&& (3 : Int32))), .unset, .unset, .unset, .unset, .unset] [(.long x0)]))
          refine Ends.by ?_ (fun _ k => XS.lconst X0.here hx rfl (hb hby at_48) k)
          show Ends p e below s _ _ _ (s₁.setTop (mkF m 49 #[.val (.long x0), .second, .val (.long x1), .second, .val (.int x2), .val (.int (x2 &&& (3 : Int32))), .unset, .unset, .unset, .unset, .unset] [(.long (1 : Int64)), (.long x0)]))
          refine Ends.by ?_ (fun _ k => XS.ladd X0.here hx rfl (hb hby at_49) rfl k)
          show Ends p e below s _ _ _ (s₁.setTop (mkF m 50 #[.val (.long x0), .second, .val (.long x1), .second, .val (.int x2), .val (.int (x2 &&& (3 : Int32))), .unset, .unset, .unset, .unset, .unset] [(.long (x0 + (1 : Int64)))]))
          refine Ends.by ?_ (fun _ k => XS.goto X0.here hx rfl (pc0 := 50) (pc' := 56) rfl (hb hby at_50) (by decide) (by decide) k)
          show Ends p e below s _ _ _ (s₁.setTop (mkF m 56 #[.val (.long x0), .second, .val (.long x1), .second, .val (.int x2), .val (.int (x2 &&& (3 : Int32))), .unset, .unset, .unset, .unset, .unset] [(.long (x0 + (1 : Int64)))]))
          refine Ends.by ?_ (fun _ k => XS.lstore X0.here hx rfl (hb hby at_56) rfl (l' := #[.val (.long x0), .second, .val (.long x1), .second, .val (.int x2), .val (.int (x2 &&& (3 : Int32))), .val (.long (x0 + (1 : Int64))), .second, .unset, .unset, .unset]) rfl k)
          show Ends p e below s _ _ _ (s₁.setTop (mkF m 58 #[.val (.long x0), .second, .val (.long x1), .second, .val (.int x2), .val (.int (x2 &&& (3 : Int32))), .val (.long (x0 + (1 : Int64))), .second, .unset, .unset, .unset] []))
          refine Ends.by ?_ (fun _ k => XS.goto X0.here hx rfl (pc0 := 58) (pc' := 64) rfl (hb hby at_58) (by decide) (by decide) k)
          show Ends p e below s _ _ _ (s₁.setTop (mkF m 64 #[.val (.long x0), .second, .val (.long x1), .second, .val (.int x2), .val (.int (x2 &&& (3 : Int32))), .val (.long (x0 + (1 : Int64))), .second, .unset, .unset, .unset] []))
          exact j64 s₁ _ X0 e0 N0 (x0 + (1 : Int64)) hv37
      · have hv38 := hv32.trans (if_neg hc33)
        refine Ends.by ?_ (fun _ k => XS.icmpYes X0.here hx rfl (pc0 := 37) (pc' := 61) rfl (hb hby at_37) rfl (XT.ii_ne_t hc33) (by decide) (by decide) k)
        show Ends p e below s _ _ _ (s₁.setTop (mkF m 61 #[.val (.long x0), .second, .val (.long x1), .second, .val (.int x2), .val (.int (x2 &&& (3 : Int32))), .unset, .unset, .unset, .unset, .unset] []))
        refine Ends.by ?_ (fun _ k => XS.lloadN X0.here hx rfl (hb hby at_61) rfl k)
        show Ends p e below s _ _ _ (s₁.setTop (mkF m 62 #[.val (.long x0), .second, .val (.long x1), .second, .val (.int x2), .val (.int (x2 &&& (3 : Int32))), .unset, .unset, .unset, .unset, .unset] [(.long x1)]))
        refine Ends.by ?_ (fun _ k => XS.lstore X0.here hx rfl (hb hby at_62) rfl (l' := #[.val (.long x0), .second, .val (.long x1), .second, .val (.int x2), .val (.int (x2 &&& (3 : Int32))), .val (.long x1), .second, .unset, .unset, .unset]) rfl k)
        show Ends p e below s _ _ _ (s₁.setTop (mkF m 64 #[.val (.long x0), .second, .val (.long x1), .second, .val (.int x2), .val (.int (x2 &&& (3 : Int32))), .val (.long x1), .second, .unset, .unset, .unset] []))
        exact j64 s₁ _ X0 e0 N0 x1 hv38

theorem own_core (a b : Int64) (k : Int32) (o : Int64) : f0_64 a b k o = 1 := by
  have hr := rng64 (a - o)
  have e : o - a = -(a - o) := (Int64.neg_sub).symm
  have h2 : ∀ q : Int64, ¬ (q - q) < (0 : Int64) := fun q => by rw [Int64.sub_self]; decide
  unfold f0_64 f1
  by_cases h : (a - o) < (0 : Int64)
  · simp only [if_pos h]
    by_cases hm : (a - o) = (-9223372036854775808 : Int64)
    · rw [if_pos hm, if_true]
    · rw [if_neg hm]
      have h1 : ¬ (o - a) < (0 : Int64) := by
        rw [e]
        have q1 := c_lneg (a - o)
        have q2 := rng64 (-(a - o))
        have q3 : (a - o).toInt ≠ -9223372036854775808 := fun q => hm (Int64.toInt_inj.mp (q.trans (by decide)))
        rw [Int64.lt_iff_toInt_lt] at h ⊢
        have e0 : (0 : Int64).toInt = 0 := rfl
        omega
      simp only [h1, h2 o, if_true, if_false]
      split <;> rfl
  · simp only [if_neg h]
    have hm : ¬ (a - o) = (-9223372036854775808 : Int64) := fun q => h (by rw [q]; decide)
    rw [if_neg hm]
    simp only [h2 a, h, if_true, if_false]
theorem own_law (a b : Int64) (k : Int32) : f0 a b k = 1 := by
  unfold f0
  simp only [own_core]
  repeat' split
  all_goals rfl
set_option maxRecDepth 65536 in
set_option maxHeartbeats 40000000 in
theorem comes_1 {Post : Tables → Env → Array Value → State → Outcome → State → Prop} (hpost : ∀ tb e args s v u, (limb_1_1.after args s (.returned v) u = true ∧ limb_1_2.after args s (.returned v) u = true ∧ True) → FrameEnd s (.returned v) u (Jvm.fieldLocs frame_1_writes args s ++ Jvm.arrayLocs frame_1_arrays args s ++ Jvm.staticLocs frame_1_statics s) 0 0 → Post tb e args s (.returned v) u) :
    ArmFor flags0 classFile x code maxLocals ret World_1 tables_1 room_1 Calls_1 rest_1 Pre_1 Post := by
  intro l hfl _ _ p e ha hc hk s m args below hf hA hF happ hP
  obtain ⟨hcalls, hrest, hpre⟩ := hP
  obtain ⟨-, -, -, hnamed, -, -, -, hat⟩ := (Spec.applies_iff hf).mp happ
  obtain ⟨hg, hn⟩ := and_e (Cond.before_iff.mp (show (Jvm.Cond.and given_1 narrow_1).before args s = true from hpre))
  obtain ⟨g1, g2⟩ := and_e hg
  obtain ⟨g3, g4⟩ := and_e g2
  obtain ⟨g5, g6⟩ := and_e g4
  obtain ⟨w0, w1, w2, rfl⟩ : ∃ w0 w1 w2 : Value, args = #[w0, w1, w2] := by
    have hs : args.size = 3 := by simpa [Cond.value, given_1] using g1
    obtain ⟨L⟩ := args
    match L, hs with
    | [w0, w1, w2], _ => exact ⟨w0, w1, w2, rfl⟩
  have hw := fun d (hd : d ∈ tables_1) => atoms_spec (ws := Jvm.Cond.code x code maxLocals ret :: tables_1) hat d (List.mem_cons_of_mem _ hd)
  obtain ⟨i0, ei0⟩ := isL_v g3
  obtain rfl : w0 = (.long i0) := Option.some.inj ei0
  obtain ⟨i1, ei1⟩ := isL_v g5
  obtain rfl : w1 = (.long i1) := Option.some.inj ei1
  obtain ⟨i2, ei2⟩ := is_v g6
  obtain rfl : w2 = (.int i2) := Option.some.inj ei2
  obtain ⟨n, o, h1, h2, h3, v, L, rfl, hQ, hq⟩ := rm0 l s _ hw tables_1 i0 i1 i2 s.heap s.heap.size (Nat.le_refl _) p e ha hc hk s m _ below hf ((Spec.applies_iff_loose hf).mp happ).1 ⟨rfl, State.Warmed39.refl s, rfl⟩ trivial
  rw [own_law] at hQ
  obtain ⟨rfl, N, -⟩ := hQ
  refine ⟨n, _, h1, h2, h3, hpost _ _ _ _ _ _ ⟨Cond.after_iff.mpr rfl, Cond.after_iff.mpr (eq_i res_at (Term.int_eval (1)) rfl), trivial⟩ ⟨hq.1, hq.2.1, (hq.2.2.sift fun y hy => Or.inr (N y hy)).mono (by decide) (by decide)⟩⟩
theorem main_1_1 : Claimed_1_1 := comes_1 fun _ _ _ _ _ _ h hF => ⟨h.1, hF⟩
theorem main_1_2 : Claimed_1_2 := comes_1 fun _ _ _ _ _ _ h hF => ⟨h.2.1, hF⟩
end Jvm.Pilot.@@N@@
namespace Jvm.Pilot.@@N@@
open Jvm Jvm.ClassFile Sem Op Lib Jvm.Free Jvm.Stand Jvm.Pilot.@@N@@.Jvm.D
/-! MADE BY PROGRAM (witnessworld.py) out of the Statement's table words and the real class files: 7 classes; the members and pool entries that the words name. The judged class is class 1, her method 1. -/
namespace start1
open Jvm.ClassFile
def u (s : String) : CpInfo := .utf8 (stringToUtf16 s)
/-- a pool by its gaps: so many unusable entries, then the entry; so many at the end -/
def gap : Nat → List CpInfo → List CpInfo
  | 0, r => r
  | n + 1, r => .unusable :: gap n r
def poolList (es : List (Nat × CpInfo)) (last : Nat) : List CpInfo := es.foldr (fun e r => gap e.1 (e.2 :: r)) (gap last [])
def pool (es : List (Nat × CpInfo)) (last : Nat) : Array CpInfo := ⟨poolList es last⟩
def fileOf (pool : Array CpInfo) (this : Nat) (attrs : Array Attribute := #[]) (ms : Array MethodInfo := #[]) (fl : Nat := 33) (sup : Nat := 0) (ifs : Array Nat := #[]) (fds : Array FieldInfo := #[]) : ClassFile where
  minorVersion := 0
  majorVersion := 65
  constantPool := pool
  accessFlags := fl
  thisClass := this
  superClass := sup
  interfaces := ifs
  fields := fds
  methods := ms
  attributes := attrs
def plain (name : String) (sup : Option ClassId) : Class where
  name := name
  kind := .ordinary
  loader := none
  accessFlags := 33
  super := sup
  interfaces := #[]
  cf := none
  fields := #[]
  methods := #[]
  instanceTypes := #[]
  staticTypes := #[]
  resolved := #[]
  callSites := []
  init := .initialized
  statics := none
  mirror := none

def pool0 : Array CpInfo := pool [(5, u "<init>"), (0, u "()V"), (1, .class_ 10), (1, u "java/lang/Object")] 113

def k0m0 : Method := { name := "<init>", desc := "()V", sig := { parameters := [], returnType := none }, accessFlags := 1, code := none }
/-- java/lang/Object -/
def k0 : Class := { plain "java/lang/Object" none with
  accessFlags := 33
  interfaces := #[]
  cf := some (fileOf pool0 8 #[] #[{ accessFlags := 1, nameIndex := 5, descriptorIndex := 6, attributes := #[] }] 33 0 #[] #[])
  fields := #[]
  methods := #[k0m0]
  instanceTypes := #[]
  staticTypes := #[]
  resolved := Array.replicate 124 none
  statics := none }

def pool1 : Array CpInfo := pool [(2, .class_ 4), (1, u "java/lang/Object"), (0, u "<init>"), (0, u "()V"), (2, .long 9223372036854775808), (1, .methodref 12 13), (0, .class_ 14), (0, .nameAndType 15 16), (0, u "com/example/usher/usher/store/Readings"), (0, u "latest"), (0, u "(JJ)J"), (0, .class_ 18), (0, u "com/example/usher/usher/store/ReadingsLatestPinLaw"), (2, u "law"), (0, u "(JJI)Z")] 3

def k1m0 : Method := { name := "<init>", desc := "()V", sig := { parameters := [], returnType := none }, accessFlags := 2, code := none }
def k1c1 : Code := { maxStack := 4, maxLocals := 11, code := code, exceptionTable := #[], attributes := #[] }
def k1m1 : Method := { name := "law", desc := "(JJI)Z", sig := { parameters := [.long, .long, .int], returnType := some .boolean }, accessFlags := 9, code := some k1c1 }
/-- com/example/usher/usher/store/ReadingsLatestPinLaw -/
def k1 : Class := { plain "com/example/usher/usher/store/ReadingsLatestPinLaw" (some 0) with
  accessFlags := 49
  interfaces := #[]
  cf := some (fileOf pool1 17 #[] #[{ accessFlags := 2, nameIndex := 5, descriptorIndex := 6, attributes := #[] }, { accessFlags := 9, nameIndex := 21, descriptorIndex := 22, attributes := #[] }] 49 2 #[] #[])
  fields := #[]
  methods := #[k1m0, k1m1]
  instanceTypes := #[]
  staticTypes := #[]
  resolved := Array.replicate 26 none
  statics := none }

def pool2 : Array CpInfo := pool [(2, .class_ 4), (1, u "java/lang/Object"), (0, u "<init>"), (0, u "()V"), (0, .class_ 8), (0, u "com/example/usher/usher/store/Readings"), (2, u "latest"), (0, u "(JJ)J")] 3

def k2m0 : Method := { name := "<init>", desc := "()V", sig := { parameters := [], returnType := none }, accessFlags := 2, code := none }
def k2c1 : Code := { maxStack := 4, maxLocals := 4, code := prog_24_method_2_code, exceptionTable := #[], attributes := #[] }
def k2m1 : Method := { name := "latest", desc := "(JJ)J", sig := { parameters := [.long, .long], returnType := some .long }, accessFlags := 8, code := some k2c1 }
/-- com/example/usher/usher/store/Readings -/
def k2 : Class := { plain "com/example/usher/usher/store/Readings" (some 0) with
  accessFlags := 48
  interfaces := #[]
  cf := some (fileOf pool2 7 #[] #[{ accessFlags := 2, nameIndex := 5, descriptorIndex := 6, attributes := #[] }, { accessFlags := 8, nameIndex := 11, descriptorIndex := 12, attributes := #[] }] 48 2 #[] #[])
  fields := #[]
  methods := #[k2m0, k2m1]
  instanceTypes := #[]
  staticTypes := #[]
  resolved := Array.replicate 16 none
  statics := none }

def pool3 : Array CpInfo := pool [(1, u "java/lang/Cloneable"), (0, .class_ 1), (0, u "java/lang/Object"), (0, .class_ 3)] 3

/-- java/lang/Cloneable -/
def k3 : Class := { plain "java/lang/Cloneable" (some 0) with
  accessFlags := 1537
  interfaces := #[]
  cf := some (fileOf pool3 2 #[] #[] 1537 4 #[] #[])
  fields := #[]
  methods := #[]
  instanceTypes := #[]
  staticTypes := #[]
  resolved := Array.replicate 8 none
  statics := none }

def pool4 : Array CpInfo := pool [(1, u "java/io/Serializable"), (0, .class_ 1), (0, u "java/lang/Object"), (0, .class_ 3)] 3

/-- java/io/Serializable -/
def k4 : Class := { plain "java/io/Serializable" (some 0) with
  accessFlags := 1537
  interfaces := #[]
  cf := some (fileOf pool4 2 #[] #[] 1537 4 #[] #[])
  fields := #[]
  methods := #[]
  instanceTypes := #[]
  staticTypes := #[]
  resolved := Array.replicate 8 none
  statics := none }

/-- the primitive byte -/
def k5 : Class := { plain "byte" none with kind := .primitive 'B', accessFlags := 0x411 }
/-- [B -/
def k6 : Class := { plain "[B" (some 0) with kind := .array 5 .byte, interfaces := #[3, 4], accessFlags := 1041 }

def heap : Heap := #[]
def classes : Array Class := #[k0, k1, k2, k3, k4, k5, k6]
def interned : List (Array UInt16 × Addr) := []
def slotsUsed : Nat := 0
def theMethod : MethodId := ⟨1, 1⟩
def args0 : Array Value := #[.long 5, .long 7, .int 1]
def aboutOver (below : List Frame) : State where
  vm := { classes := classes, interned := interned.toArray }
  heap := heap
  slotsUsed := slotsUsed
  threads := #[{ frames := .invoking theMethod args0 :: below }]
def below0 : List Frame := [.native { method := ⟨0, 0⟩, args := #[] }]
def about1 : State := aboutOver below0
def p0 : Program := .bare "" "" ""
def e0 : Env := launch0.env 0 0 0
theorem w_frames : about1.frames = Frame.invoking theMethod args0 :: below0 := rfl
set_option maxRecDepth 65536 in
theorem w_args : argsFit about1.vm theMethod args0 = true := by decide +kernel
set_option maxRecDepth 65536 in
theorem w_heap : heapFits about1 = true := by decide +kernel
set_option maxRecDepth 65536 in
theorem w_runnable : about1.curStatus? = some .runnable := by decide +kernel
set_option maxRecDepth 65536 in
theorem w_alone : about1.alone = true := by decide +kernel
set_option maxRecDepth 65536 in
theorem w_named : about1.methodNamed? x = some theMethod := by decide +kernel
set_option maxRecDepth 65536 in
theorem w_hears : about1.hears theMethod below0 = true := by decide +kernel
set_option maxRecDepth 65536 in
theorem w_ripe : about1.ripe theMethod args0 below0 = true := by decide +kernel
theorem w_running : about1.status = .running := rfl
set_option maxRecDepth 65536 in
theorem w_room : about1.hasRoom e0.platform room_1 = true :=
  launch0.hasRoom_least _ room_1 (by decide +kernel) (by decide +kernel) (by decide +kernel) (by decide +kernel) (by decide +kernel) (by decide +kernel)
theorem allAtoms_all (ts : List Jvm.Cond) (a : Array Jvm.Value) (st : Jvm.State) : (allAtoms ts).before a st = ts.all (fun c => c.before a st) := by
  induction ts with
  | nil => rfl
  | cons c t ih =>
    show (Jvm.Cond.and c (allAtoms t)).before a st = _
    rw [Jvm.Cond.before_and, ih, List.all_cons]
def words1 : List Jvm.Cond := Jvm.Cond.code x code maxLocals ret :: tables_1
/-- a 'code' word, met by the world's own term for the bytes: nothing is compared byte by byte -/
theorem code_word {y : MethodName} {bytes : ByteArray} {mx : Nat} {rt : Option FieldType} {a : Array Value} {s : State} {m : MethodId} {meth : Method} {c : Code} (h1 : s.methodNamed? y = some m) (h2 : s.vm.method? m = some meth) (h3 : meth.code = some c) (h4 : c.code = bytes)
    (h5 : (c.maxLocals == mx && c.exceptionTable.isEmpty && decide (c.maxStack ≤ mostOperands) && decide (meth.sig.returnType = rt) && !meth.locks && decide (parseMethodDescriptor y.desc = some meth.sig)) = true) : (Jvm.Cond.code y bytes mx rt).before a s = true := by
  simp only [Bool.and_eq_true, beq_iff_eq, Bool.not_eq_true', decide_eq_true_eq] at h5
  obtain ⟨⟨⟨⟨⟨g1, g2⟩, g3⟩, g4⟩, g5⟩, g6⟩ := h5
  simp [Cond.before, Cond.holds, Cond.value, h1, h2, h3, h4, g1, g2, g3, g4, g5, g6]
def isCode : Jvm.Cond → Bool
  | .code _ _ _ _ => true
  | _ => false
theorem all_split {L : List Jvm.Cond} {P : Jvm.Cond → Bool} (h1 : L.all (fun c => isCode c || P c) = true) (h2 : ∀ c ∈ L.filter isCode, P c = true) : L.all P = true := by
  refine List.all_eq_true.mpr fun c hc => ?_
  have h := List.all_eq_true.mp h1 c hc
  rcases Bool.eq_false_or_eq_true (isCode c) with hi | hi
  · exact h2 c (List.mem_filter.mpr ⟨hc, hi⟩)
  · simpa [hi] using h
set_option maxRecDepth 65536 in
theorem w_c0 : (Jvm.Cond.code x code maxLocals ret).before args0 about1 = true := code_word (m := ⟨1, 1⟩) (meth := k1m1) (c := k1c1) (by decide +kernel) rfl rfl rfl (by decide +kernel)
set_option maxRecDepth 65536 in
theorem w_c1 : (Jvm.Cond.code ({ cls := "com/example/usher/usher/store/Readings", name := "latest", desc := "(JJ)J" } : Jvm.MethodName) prog_24_method_2_code (4 : Nat) (Option.some Jvm.ClassFile.FieldType.long)).before args0 about1 = true := code_word (m := ⟨2, 1⟩) (meth := k2m1) (c := k2c1) (by decide +kernel) rfl rfl rfl (by decide +kernel)
def codes1 : List Jvm.Cond := [Jvm.Cond.code x code maxLocals ret, Jvm.Cond.code ({ cls := "com/example/usher/usher/store/Readings", name := "latest", desc := "(JJ)J" } : Jvm.MethodName) prog_24_method_2_code (4 : Nat) (Option.some Jvm.ClassFile.FieldType.long)]
set_option maxRecDepth 65536 in
theorem codes_eq : words1.filter isCode = codes1 := rfl
theorem w_codes : ∀ c ∈ words1.filter isCode, c.before args0 about1 = true := by
  rw [codes_eq]
  intro c hc
  simp only [codes1, List.mem_cons, List.not_mem_nil, or_false] at hc
  rcases hc with rfl | rfl
  · exact w_c0
  · exact w_c1
set_option maxRecDepth 65536 in
theorem w_t1 : words1.all (fun c => isCode c || c.before args0 about1) = true := by decide +kernel
theorem w_tables : (allAtoms (Jvm.Cond.code x code maxLocals ret :: tables_1)).before args0 about1 = true := by
  rw [allAtoms_all]
  show words1.all (fun c => c.before args0 about1) = true
  refine all_split ?_ w_codes
  rw [w_t1]
set_option maxRecDepth 65536 in
theorem w_case : (Jvm.Cond.and given_1 narrow_1).before args0 about1 = true := by decide +kernel
theorem w_applies : (headSpec (Jvm.Cond.code x code maxLocals ret :: tables_1) room_1).applies x e0.platform about1 = true :=
  (Spec.applies_iff w_frames).mpr ⟨w_running, w_runnable, w_alone, w_named, w_hears, w_ripe, w_room, w_tables⟩
theorem atStart : AtStart classFile x code maxLocals ret World_1 tables_1 room_1 Calls_1 rest_1 Pre_1 launch0 p0 e0 about1 theMethod args0 below0 :=
  ⟨lists_1, trivial, launch0.admits_env _ _ _, launch0.least_env, fairChoices_fair.cas, fairChoices_fair.clock, w_frames, w_args, w_heap, w_applies, trivial, trivial, w_case⟩
end start1
theorem witness_1 : WitnessClaimed_1 := ⟨start1.p0, start1.e0, start1.about1, start1.theMethod, start1.args0, start1.below0, start1.atStart⟩
end Jvm.Pilot.@@N@@
