import JvmDerived
import JvmDerived.Pilot.@@N@@Statement
import JvmDerived.Pilot.@@N@@Code
set_option linter.unusedVariables false
set_option linter.unusedSimpArgs false
namespace Jvm.Pilot.@@N@@
open Jvm Jvm.ClassFile Sem Op Lib Jvm.Free Jvm.Stand Jvm.LawKit Jvm.RoadKit Bundle Jvm.Pilot.@@N@@.Jvm.D
section Own
variable {p : Program} {l : Launch} {e : Env} {R : Room} {s : State} {m : MethodId} {args : Array Value} {below : List Frame} {meth : Method} {c : Code} {T : State} {locs : List Loc} {cells slots : Nat}
/-- from u the walk comes to its return, with what Q says of value, heap and the places written -/
def Ends (p : Program) (e : Env) (below : List Frame) (s : State) (Q : Option Value → Heap → List Loc → Prop) (kc ks : Nat) (u : State) : Prop :=
  ∃ s₂ o, Steps p.tables e below u s₂ ∧ s₂.status = .running ∧ Ended s₂ below o ∧ ∃ v L, o = .returned v ∧ Q v s₂.heap L ∧ FrameEnd s o s₂ L kc ks
variable {Q : Option Value → Heap → List Loc → Prop} {kc ks : Nat} {u u' : State}
theorem Ends.by (k : Ends p e below s Q kc ks u') (h : ∀ t, Steps p.tables e below u' t → Steps p.tables e below u t) : Ends p e below s Q kc ks u := by
  obtain ⟨s₂, o, h1, r⟩ := k
  exact ⟨s₂, o, h _ h1, r⟩
theorem Ends.go (h : Steps p.tables e below u u') (k : Ends p e below s Q kc ks u') : Ends p e below s Q kc ks u := k.by fun _ q => h.trans q
theorem Ends.retN (X : Stand p l e R s m args below meth c T locs cells slots) (hx : p.tables.exec = Jvm.exec) (hlk : meth.locks = false) {t : FieldType} (hret : meth.sig.returnType = some t) (ht : t = .boolean ∨ t = .byte ∨ t = .char ∨ t = .short) {pc : Nat} {Ls : Array Slot} {z w : Int32} {rest : List Value}
    (hd : decode c.code pc = .ok (.ireturn, 1)) (hz : nar t z = w) (hQ : Q (some (.int w)) T.heap locs) (hc : cells ≤ kc) (hs : slots ≤ ks) : Ends p e below s Q kc ks (T.setTop (mkF m pc Ls (.int z :: rest))) := by
  subst hz
  obtain ⟨fs, hr, hrun, hended, hW, hsame⟩ := X.leave (v := some (.int (nar t z))) (fun h => by rw [hret] at h; cases h) hlk
  exact ⟨_, _, Jvm.RoadKit.retN X hx hret ht hd hr, hrun, hended, _, _, rfl, hQ, ⟨_, rfl⟩, hW, hsame.mono hc hs⟩
theorem Ends.retI (X : Stand p l e R s m args below meth c T locs cells slots) (hx : p.tables.exec = Jvm.exec) (hlk : meth.locks = false) (hret : meth.sig.returnType = some .int) {pc : Nat} {Ls : Array Slot} {z : Int32} {rest : List Value}
    (hd : decode c.code pc = .ok (.ireturn, 1)) (hQ : Q (some (.int z)) T.heap locs) (hc : cells ≤ kc) (hs : slots ≤ ks) : Ends p e below s Q kc ks (T.setTop (mkF m pc Ls (.int z :: rest))) := by
  obtain ⟨fs, hr, hrun, hended, hW, hsame⟩ := X.leave (v := some (.int z)) (fun h => by rw [hret] at h; cases h) hlk
  exact ⟨_, _, Jvm.RoadKit.retOut X hx hret rfl (Or.inl ⟨rfl, by simp, z, rfl⟩) hd hr, hrun, hended, _, _, rfl, hQ, ⟨_, rfl⟩, hW, hsame.mono hc hs⟩
theorem Ends.retJ (X : Stand p l e R s m args below meth c T locs cells slots) (hx : p.tables.exec = Jvm.exec) (hlk : meth.locks = false) (hret : meth.sig.returnType = some .long) {pc : Nat} {Ls : Array Slot} {z : Int64} {rest : List Value}
    (hd : decode c.code pc = .ok (.lreturn, 1)) (hQ : Q (some (.long z)) T.heap locs) (hc : cells ≤ kc) (hs : slots ≤ ks) : Ends p e below s Q kc ks (T.setTop (mkF m pc Ls (.long z :: rest))) := by
  obtain ⟨fs, hr, hrun, hended, hW, hsame⟩ := X.leave (v := some (.long z)) (fun h => by rw [hret] at h; cases h) hlk
  exact ⟨_, _, Jvm.RoadKit.retOut X hx hret rfl (Or.inr (Or.inl ⟨rfl, rfl, z, rfl⟩)) hd hr, hrun, hended, _, _, rfl, hQ, ⟨_, rfl⟩, hW, hsame.mono hc hs⟩
theorem Ends.retA (X : Stand p l e R s m args below meth c T locs cells slots) (hx : p.tables.exec = Jvm.exec) (hlk : meth.locks = false) {t : FieldType} (hret : meth.sig.returnType = some t) (ht : t.isReference = true) (hn : ∀ a, narrow t (.ref a) = .ref a) {pc : Nat} {Ls : Array Slot} {a : Addr} {rest : List Value}
    (hd : decode c.code pc = .ok (.areturn, 1)) (hQ : Q (some (.ref a)) T.heap locs) (hc : cells ≤ kc) (hs : slots ≤ ks) : Ends p e below s Q kc ks (T.setTop (mkF m pc Ls (.ref a :: rest))) := by
  obtain ⟨fs, hr, hrun, hended, hW, hsame⟩ := X.leave (v := some (.ref a)) (fun h => by rw [hret] at h; cases h) hlk
  exact ⟨_, _, Jvm.RoadKit.retOut X hx hret (hn a) (Or.inr (Or.inr (Or.inr (Or.inr ⟨rfl, ht, rfl⟩)))) hd hr, hrun, hended, _, _, rfl, hQ, ⟨_, rfl⟩, hW, hsame.mono hc hs⟩
theorem Ends.retV (X : Stand p l e R s m args below meth c T locs cells slots) (hx : p.tables.exec = Jvm.exec) (hlk : meth.locks = false) (hret : meth.sig.returnType = none) {pc : Nat} {Ls : Array Slot}
    (hd : decode c.code pc = .ok (.return_, 1)) (hQ : Q none T.heap locs) (hc : cells ≤ kc) (hs : slots ≤ ks) : Ends p e below s Q kc ks (T.setTop (mkF m pc Ls [])) := by
  obtain ⟨fs, hr, hrun, hended, hW, hsame⟩ := X.leave (v := none) (fun _ => rfl) hlk
  exact ⟨_, _, X.returnOut hx hret hd hr, hrun, hended, _, _, rfl, hQ, ⟨_, rfl⟩, hW, hsame.mono hc hs⟩
theorem lremM {g : JFrame} {target : State} (X : Stand p l e R s m args below meth c T locs cells slots) (hx : p.tables.exec = Jvm.exec) (hg : g.method = m) {x y : Int64} {rest : List Value} (hd : decode c.code g.pc = .ok (.lrem, 1)) (hs : g.stack = .long y :: .long x :: rest) (hy : y ≠ 0)
    (hr : Steps p.tables e below (T.setTop { g with pc := g.pc + 1, stack := .long (x % y) :: rest }) target) : Steps p.tables e below (T.setTop g) target :=
  XS.lrem X.here hx hg hd hs hy (by rw [lrem_mod x y]; exact hr)
/-- a method that writes nothing: what it returns, the heap as it was -/
def QP (V : Option Value) (h0 : Heap) (n0 : Nat) (v : Option Value) (h : Heap) (L : List Loc) : Prop := v = V ∧ Fr n0 L ∧ h = h0
/-- a law: it returns 1; nothing old is written -/
def QL (n0 : Nat) (v : Option Value) (_ : Heap) (L : List Loc) : Prop := v = some (.int 1) ∧ Fr n0 L
end Own
theorem d1_0 : decode prog_6_method_3_code 0 = .ok (.iload_n 0, 1) := by decide +kernel
theorem d1_1 : decode prog_6_method_3_code 1 = .ok (.sipush 128, 3) := by decide +kernel
theorem d1_4 : decode prog_6_method_3_code 4 = .ok (.iand, 1) := by decide +kernel
theorem d1_5 : decode prog_6_method_3_code 5 = .ok (.ifCond .ne 17, 3) := by decide +kernel
theorem d1_8 : decode prog_6_method_3_code 8 = .ok (.iload_n 0, 1) := by decide +kernel
theorem d1_9 : decode prog_6_method_3_code 9 = .ok (.bipush 18, 2) := by decide +kernel
theorem d1_11 : decode prog_6_method_3_code 11 = .ok (.if_icmp .gt 7, 3) := by decide +kernel
theorem d1_18 : decode prog_6_method_3_code 18 = .ok (.iconst 0, 1) := by decide +kernel
theorem d1_19 : decode prog_6_method_3_code 19 = .ok (.goto 18, 3) := by decide +kernel
theorem d1_37 : decode prog_6_method_3_code 37 = .ok (.ireturn, 1) := by decide +kernel
theorem d1_14 : decode prog_6_method_3_code 14 = .ok (.iconst 1, 1) := by decide +kernel
theorem d1_15 : decode prog_6_method_3_code 15 = .ok (.goto 22, 3) := by decide +kernel
theorem d1_22 : decode prog_6_method_3_code 22 = .ok (.iload_n 0, 1) := by decide +kernel
theorem d1_23 : decode prog_6_method_3_code 23 = .ok (.sipush (-129), 3) := by decide +kernel
theorem d1_26 : decode prog_6_method_3_code 26 = .ok (.iand, 1) := by decide +kernel
theorem d1_27 : decode prog_6_method_3_code 27 = .ok (.bipush 63, 2) := by decide +kernel
theorem d1_29 : decode prog_6_method_3_code 29 = .ok (.if_icmp .gt 7, 3) := by decide +kernel
theorem d1_36 : decode prog_6_method_3_code 36 = .ok (.iconst 0, 1) := by decide +kernel
theorem d1_32 : decode prog_6_method_3_code 32 = .ok (.iconst 1, 1) := by decide +kernel
theorem d1_33 : decode prog_6_method_3_code 33 = .ok (.goto 4, 3) := by decide +kernel
def f1 (x0 : Int32) : Int32 := (if (x0 &&& (128 : Int32)) = (0 : Int32) then (if (18 : Int32) < x0 then (0 : Int32) else (1 : Int32)) else (if (63 : Int32) < (x0 &&& (-129 : Int32)) then (0 : Int32) else (1 : Int32)))
theorem ef_rm1 (m : MethodId) (x0 : Int32) : entryFrame m #[(.int x0)] 1 = mkF m 0 #[.val (.int x0)] [] := by first | (simp [entryFrame, mkF, argsToLocals, Value.category]; done) | rfl
theorem pn_0 : plainName "quotewright/CaptureTime" = true := by first | (simp [plainName, overriddenIn]; done) | decide +kernel
set_option maxRecDepth 65536 in
set_option maxHeartbeats 40000000 in
theorem rm1 (l : Launch) (Z : State) (a0 : Array Value) (hw : ∀ d ∈ tables_1, d.before a0 Z = true) (ws : List Jvm.Cond) (x0 : Int32) (h0 : Heap) (n0 : Nat) (Z0 : n0 ≤ h0.size) :
    MetFree l (⟨"quotewright/CaptureTime", "isRead", "(I)Z"⟩ : MethodName) (head1 (Jvm.Cond.code (⟨"quotewright/CaptureTime", "isRead", "(I)Z"⟩ : MethodName) prog_6_method_3_code 1 (some .boolean) :: ws) ({ frames := 0, cells := 0, slots := 0, locals := 0 } : Room)) (fun a U => a = #[(.int x0)] ∧ Z.Warmed39 U.vm ∧ U.heap = h0) (fun _ _ _ _ _ => True) (fun _ U o U' => ∃ v L, o = .returned v ∧ (QP (some (.int (f1 x0))) h0 n0) v U'.heap L ∧ FrameEnd U o U' L ({ frames := 0, cells := 0, slots := 0, locals := 0 } : Room).cells ({ frames := 0, cells := 0, slots := 0, locals := 0 } : Room).slots) := by
  refine MetFree.of_bodySF (plainFor_of_name pn_0) hisR ?_
  intro p e s m args below meth c s₁ Bd hml0 hP hK
  obtain ⟨rfl, hZ, hh⟩ := hP
  have hx := Bd.exec
  have hby := Bd.bytes
  have hml : c.maxLocals = 1 := hml0
  have hown : s.vm.findClass "quotewright/CaptureTime" = some m.cls := findClass_of_methodNamed Bd.named
  have hnm := (name_of_methodNamed Bd.named Bd.method).1
  have X0 : Stand p l e ({ frames := 0, cells := 0, slots := 0, locals := 0 } : Room) s m #[(.int x0)] below meth c s₁ [] 0 0 := Stand.of_body Bd
  have e0 : s₁.heap = h0 := by rw [← hh, Bd.state]; rfl
  have N0 := Fr.nil n0
  show Ends p e below s (QP (some (.int (f1 x0))) h0 n0) ({ frames := 0, cells := 0, slots := 0, locals := 0 } : Room).cells ({ frames := 0, cells := 0, slots := 0, locals := 0 } : Room).slots (s₁.setTop (entryFrame m #[(.int x0)] 1))
  rw [ef_rm1 m x0]
  have hv0 : f1 x0 = f1 x0 := rfl
  show Ends p e below s _ _ _ (s₁.setTop (mkF m 0 #[.val (.int x0)] []))
  refine Ends.by ?_ (fun _ k => XS.iloadN X0.here hx rfl (hb hby d1_0) rfl k)
  show Ends p e below s _ _ _ (s₁.setTop (mkF m 1 #[.val (.int x0)] [(.int x0)]))
  refine Ends.by ?_ (fun _ k => XS.sipush X0.here hx rfl (hb hby d1_1) k)
  show Ends p e below s _ _ _ (s₁.setTop (mkF m 4 #[.val (.int x0)] [(.int (128 : Int32)), (.int x0)]))
  refine Ends.by ?_ (fun _ k => XS.iand X0.here hx rfl (hb hby d1_4) rfl k)
  show Ends p e below s _ _ _ (s₁.setTop (mkF m 5 #[.val (.int x0)] [(.int (x0 &&& (128 : Int32)))]))
  by_cases hc1 : (x0 &&& (128 : Int32)) = (0 : Int32)
  · have hv2 := hv0.trans (if_pos hc1)
    refine Ends.by ?_ (fun _ k => XS.ifNo X0.here hx rfl (hb hby d1_5) rfl (XT.i0_ne_f hc1) k)
    show Ends p e below s _ _ _ (s₁.setTop (mkF m 8 #[.val (.int x0)] []))
    refine Ends.by ?_ (fun _ k => XS.iloadN X0.here hx rfl (hb hby d1_8) rfl k)
    show Ends p e below s _ _ _ (s₁.setTop (mkF m 9 #[.val (.int x0)] [(.int x0)]))
    refine Ends.by ?_ (fun _ k => XS.bipush X0.here hx rfl (hb hby d1_9) k)
    show Ends p e below s _ _ _ (s₁.setTop (mkF m 11 #[.val (.int x0)] [(.int (18 : Int32)), (.int x0)]))
    by_cases hc3 : (18 : Int32) < x0
    · have hv4 := hv2.trans (if_pos hc3)
      refine Ends.by ?_ (fun _ k => XS.icmpYes X0.here hx rfl (pc0 := 11) (pc' := 18) rfl (hb hby d1_11) rfl (XT.ii_gt_t hc3) (by decide) (by decide) k)
      show Ends p e below s _ _ _ (s₁.setTop (mkF m 18 #[.val (.int x0)] []))
      refine Ends.by ?_ (fun _ k => XS.iconst X0.here hx rfl (hb hby d1_18) k)
      show Ends p e below s _ _ _ (s₁.setTop (mkF m 19 #[.val (.int x0)] [(.int (0 : Int32))]))
      refine Ends.by ?_ (fun _ k => XS.goto X0.here hx rfl (pc0 := 19) (pc' := 37) rfl (hb hby d1_19) (by decide) (by decide) k)
      show Ends p e below s _ _ _ (s₁.setTop (mkF m 37 #[.val (.int x0)] [(.int (0 : Int32))]))
      exact Ends.retN X0 hx Bd.notSynchronized Bd.returns (t := .boolean) (by simp) (hb hby d1_37) (w := (0 : Int32)) rfl ⟨by rw [hv4], N0, e0⟩ (by decide) (by decide)
    · have hv5 := hv2.trans (if_neg hc3)
      refine Ends.by ?_ (fun _ k => XS.icmpNo X0.here hx rfl (hb hby d1_11) rfl (XT.ii_gt_f hc3) k)
      show Ends p e below s _ _ _ (s₁.setTop (mkF m 14 #[.val (.int x0)] []))
      refine Ends.by ?_ (fun _ k => XS.iconst X0.here hx rfl (hb hby d1_14) k)
      show Ends p e below s _ _ _ (s₁.setTop (mkF m 15 #[.val (.int x0)] [(.int (1 : Int32))]))
      refine Ends.by ?_ (fun _ k => XS.goto X0.here hx rfl (pc0 := 15) (pc' := 37) rfl (hb hby d1_15) (by decide) (by decide) k)
      show Ends p e below s _ _ _ (s₁.setTop (mkF m 37 #[.val (.int x0)] [(.int (1 : Int32))]))
      exact Ends.retN X0 hx Bd.notSynchronized Bd.returns (t := .boolean) (by simp) (hb hby d1_37) (w := (1 : Int32)) rfl ⟨by rw [hv5], N0, e0⟩ (by decide) (by decide)
  · have hv6 := hv0.trans (if_neg hc1)
    refine Ends.by ?_ (fun _ k => XS.ifYes X0.here hx rfl (pc0 := 5) (pc' := 22) rfl (hb hby d1_5) rfl (XT.i0_ne_t hc1) (by decide) (by decide) k)
    show Ends p e below s _ _ _ (s₁.setTop (mkF m 22 #[.val (.int x0)] []))
    refine Ends.by ?_ (fun _ k => XS.iloadN X0.here hx rfl (hb hby d1_22) rfl k)
    show Ends p e below s _ _ _ (s₁.setTop (mkF m 23 #[.val (.int x0)] [(.int x0)]))
    refine Ends.by ?_ (fun _ k => XS.sipush X0.here hx rfl (hb hby d1_23) k)
    show Ends p e below s _ _ _ (s₁.setTop (mkF m 26 #[.val (.int x0)] [(.int (-129 : Int32)), (.int x0)]))
    refine Ends.by ?_ (fun _ k => XS.iand X0.here hx rfl (hb hby d1_26) rfl k)
    show Ends p e below s _ _ _ (s₁.setTop (mkF m 27 #[.val (.int x0)] [(.int (x0 &&& (-129 : Int32)))]))
    refine Ends.by ?_ (fun _ k => XS.bipush X0.here hx rfl (hb hby d1_27) k)
    show Ends p e below s _ _ _ (s₁.setTop (mkF m 29 #[.val (.int x0)] [(.int (63 : Int32)), (.int (x0 &&& (-129 : Int32)))]))
    by_cases hc7 : (63 : Int32) < (x0 &&& (-129 : Int32))
    · have hv8 := hv6.trans (if_pos hc7)
      refine Ends.by ?_ (fun _ k => XS.icmpYes X0.here hx rfl (pc0 := 29) (pc' := 36) rfl (hb hby d1_29) rfl (XT.ii_gt_t hc7) (by decide) (by decide) k)
      show Ends p e below s _ _ _ (s₁.setTop (mkF m 36 #[.val (.int x0)] []))
      refine Ends.by ?_ (fun _ k => XS.iconst X0.here hx rfl (hb hby d1_36) k)
      show Ends p e below s _ _ _ (s₁.setTop (mkF m 37 #[.val (.int x0)] [(.int (0 : Int32))]))
      exact Ends.retN X0 hx Bd.notSynchronized Bd.returns (t := .boolean) (by simp) (hb hby d1_37) (w := (0 : Int32)) rfl ⟨by rw [hv8], N0, e0⟩ (by decide) (by decide)
    · have hv9 := hv6.trans (if_neg hc7)
      refine Ends.by ?_ (fun _ k => XS.icmpNo X0.here hx rfl (hb hby d1_29) rfl (XT.ii_gt_f hc7) k)
      show Ends p e below s _ _ _ (s₁.setTop (mkF m 32 #[.val (.int x0)] []))
      refine Ends.by ?_ (fun _ k => XS.iconst X0.here hx rfl (hb hby d1_32) k)
      show Ends p e below s _ _ _ (s₁.setTop (mkF m 33 #[.val (.int x0)] [(.int (1 : Int32))]))
      refine Ends.by ?_ (fun _ k => XS.goto X0.here hx rfl (pc0 := 33) (pc' := 37) rfl (hb hby d1_33) (by decide) (by decide) k)
      show Ends p e below s _ _ _ (s₁.setTop (mkF m 37 #[.val (.int x0)] [(.int (1 : Int32))]))
      exact Ends.retN X0 hx Bd.notSynchronized Bd.returns (t := .boolean) (by simp) (hb hby d1_37) (w := (1 : Int32)) rfl ⟨by rw [hv9], N0, e0⟩ (by decide) (by decide)

theorem pd_0 : parseMethodDescriptor "(I)Z" = some ⟨[.int], some .boolean⟩ := by decide +kernel
def f0 (x0 : Int32) : Int32 := (if (18 : Int32) < (x0 &&& (255 : Int32)) then (if (x0 &&& (255 : Int32)) < (128 : Int32) then (if (f1 (x0 &&& (255 : Int32))) = (0 : Int32) then (1 : Int32) else (0 : Int32)) else (if (191 : Int32) < (x0 &&& (255 : Int32)) then (if (f1 (x0 &&& (255 : Int32))) = (0 : Int32) then (1 : Int32) else (0 : Int32)) else (if (f1 (x0 &&& (255 : Int32))) = (1 : Int32) then (1 : Int32) else (0 : Int32)))) else (if (x0 &&& (255 : Int32)) < (128 : Int32) then (if (f1 (x0 &&& (255 : Int32))) = (1 : Int32) then (1 : Int32) else (0 : Int32)) else (if (191 : Int32) < (x0 &&& (255 : Int32)) then (if (f1 (x0 &&& (255 : Int32))) = (1 : Int32) then (1 : Int32) else (0 : Int32)) else (if (f1 (x0 &&& (255 : Int32))) = (1 : Int32) then (1 : Int32) else (0 : Int32)))))
theorem ef_rm0 (m : MethodId) (x0 : Int32) : entryFrame m #[(.int x0)] maxLocals = mkF m 0 #[.val (.int x0), .unset, .unset, .unset, .unset] [] := by first | (simp [entryFrame, mkF, argsToLocals, Value.category, maxLocals]; done) | rfl
theorem pn_1 : plainName "quotewright/CaptureTimeIsReadPinLaw" = true := by first | (simp [plainName, overriddenIn]; done) | decide +kernel
set_option maxRecDepth 65536 in
set_option maxHeartbeats 40000000 in
theorem rm0 (l : Launch) (Z : State) (a0 : Array Value) (hw : ∀ d ∈ tables_1, d.before a0 Z = true) (ws : List Jvm.Cond) (x0 : Int32) (h0 : Heap) (n0 : Nat) (Z0 : n0 ≤ h0.size) :
    MetFree l x (head1 (Jvm.Cond.code x code maxLocals ret :: ws) room_1) (fun a U => a = #[(.int x0)] ∧ Z.Warmed39 U.vm ∧ U.heap = h0) (fun _ _ _ _ _ => True) (fun _ U o U' => ∃ v L, o = .returned v ∧ (QP (some (.int (f0 x0))) h0 n0) v U'.heap L ∧ FrameEnd U o U' L room_1.cells room_1.slots) := by
  refine MetFree.of_bodySF (plainFor_of_name pn_1) hisR ?_
  intro p e s m args below meth c s₁ Bd hml0 hP hK
  obtain ⟨rfl, hZ, hh⟩ := hP
  have hx := Bd.exec
  have hby := Bd.bytes
  have hml : c.maxLocals = 5 := hml0
  have hown : s.vm.findClass "quotewright/CaptureTimeIsReadPinLaw" = some m.cls := findClass_of_methodNamed Bd.named
  have hnm := (name_of_methodNamed Bd.named Bd.method).1
  have X0 : Stand p l e room_1 s m #[(.int x0)] below meth c s₁ [] 0 0 := Stand.of_body Bd
  have e0 : s₁.heap = h0 := by rw [← hh, Bd.state]; rfl
  have N0 := Fr.nil n0
  show Ends p e below s (QP (some (.int (f0 x0))) h0 n0) room_1.cells room_1.slots (s₁.setTop (entryFrame m #[(.int x0)] maxLocals))
  rw [ef_rm0 m x0]
  have hv0 : f0 x0 = f0 x0 := rfl
  show Ends p e below s _ _ _ (s₁.setTop (mkF m 0 #[.val (.int x0), .unset, .unset, .unset, .unset] []))
  refine Ends.by ?_ (fun _ k => XS.iloadN X0.here hx rfl (hb hby at_0) rfl k)
  show Ends p e below s _ _ _ (s₁.setTop (mkF m 1 #[.val (.int x0), .unset, .unset, .unset, .unset] [(.int x0)]))
  refine Ends.by ?_ (fun _ k => XS.sipush X0.here hx rfl (hb hby at_1) k)
  show Ends p e below s _ _ _ (s₁.setTop (mkF m 4 #[.val (.int x0), .unset, .unset, .unset, .unset] [(.int (255 : Int32)), (.int x0)]))
  refine Ends.by ?_ (fun _ k => XS.iand X0.here hx rfl (hb hby at_4) rfl k)
  show Ends p e below s _ _ _ (s₁.setTop (mkF m 5 #[.val (.int x0), .unset, .unset, .unset, .unset] [(.int (x0 &&& (255 : Int32)))]))
  refine Ends.by ?_ (fun _ k => XS.istoreN X0.here hx rfl (hb hby at_5) rfl (l' := #[.val (.int x0), .val (.int (x0 &&& (255 : Int32))), .unset, .unset, .unset]) rfl k)
  show Ends p e below s _ _ _ (s₁.setTop (mkF m 6 #[.val (.int x0), .val (.int (x0 &&& (255 : Int32))), .unset, .unset, .unset] []))
  refine Ends.by ?_ (fun _ k => XS.iloadN X0.here hx rfl (hb hby at_6) rfl k)
  show Ends p e below s _ _ _ (s₁.setTop (mkF m 7 #[.val (.int x0), .val (.int (x0 &&& (255 : Int32))), .unset, .unset, .unset] [(.int (x0 &&& (255 : Int32)))]))
  refine Ends.by ?_ (fun _ k => XS.bipush X0.here hx rfl (hb hby at_7) k)
  show Ends p e below s _ _ _ (s₁.setTop (mkF m 9 #[.val (.int x0), .val (.int (x0 &&& (255 : Int32))), .unset, .unset, .unset] [(.int (18 : Int32)), (.int (x0 &&& (255 : Int32)))]))
  by_cases hc1 : (18 : Int32) < (x0 &&& (255 : Int32))
  · have hv2 := hv0.trans (if_pos hc1)
    refine Ends.by ?_ (fun _ k => XS.icmpYes X0.here hx rfl (pc0 := 9) (pc' := 16) rfl (hb hby at_9) rfl (XT.ii_gt_t hc1) (by decide) (by decide) k)
    show Ends p e below s _ _ _ (s₁.setTop (mkF m 16 #[.val (.int x0), .val (.int (x0 &&& (255 : Int32))), .unset, .unset, .unset] []))
    refine Ends.by ?_ (fun _ k => XS.iconst X0.here hx rfl (hb hby at_16) k)
    show Ends p e below s _ _ _ (s₁.setTop (mkF m 17 #[.val (.int x0), .val (.int (x0 &&& (255 : Int32))), .unset, .unset, .unset] [(.int (0 : Int32))]))
    refine Ends.by ?_ (fun _ k => XS.istoreN X0.here hx rfl (hb hby at_17) rfl (l' := #[.val (.int x0), .val (.int (x0 &&& (255 : Int32))), .val (.int (0 : Int32)), .unset, .unset]) rfl k)
    show Ends p e below s _ _ _ (s₁.setTop (mkF m 18 #[.val (.int x0), .val (.int (x0 &&& (255 : Int32))), .val (.int (0 : Int32)), .unset, .unset] []))
    refine Ends.by ?_ (fun _ k => XS.iloadN X0.here hx rfl (hb hby at_18) rfl k)
    show Ends p e below s _ _ _ (s₁.setTop (mkF m 19 #[.val (.int x0), .val (.int (x0 &&& (255 : Int32))), .val (.int (0 : Int32)), .unset, .unset] [(.int (x0 &&& (255 : Int32)))]))
    refine Ends.by ?_ (fun _ k => XS.sipush X0.here hx rfl (hb hby at_19) k)
    show Ends p e below s _ _ _ (s₁.setTop (mkF m 22 #[.val (.int x0), .val (.int (x0 &&& (255 : Int32))), .val (.int (0 : Int32)), .unset, .unset] [(.int (128 : Int32)), (.int (x0 &&& (255 : Int32)))]))
    by_cases hc3 : (x0 &&& (255 : Int32)) < (128 : Int32)
    · have hv4 := hv2.trans (if_pos hc3)
      refine Ends.by ?_ (fun _ k => XS.icmpYes X0.here hx rfl (pc0 := 22) (pc' := 36) rfl (hb hby at_22) rfl (XT.ii_lt_t hc3) (by decide) (by decide) k)
      show Ends p e below s _ _ _ (s₁.setTop (mkF m 36 #[.val (.int x0), .val (.int (x0 &&& (255 : Int32))), .val (.int (0 : Int32)), .unset, .unset] []))
      refine Ends.by ?_ (fun _ k => XS.iconst X0.here hx rfl (hb hby at_36) k)
      show Ends p e below s _ _ _ (s₁.setTop (mkF m 37 #[.val (.int x0), .val (.int (x0 &&& (255 : Int32))), .val (.int (0 : Int32)), .unset, .unset] [(.int (0 : Int32))]))
      refine Ends.by ?_ (fun _ k => XS.istoreN X0.here hx rfl (hb hby at_37) rfl (l' := #[.val (.int x0), .val (.int (x0 &&& (255 : Int32))), .val (.int (0 : Int32)), .val (.int (0 : Int32)), .unset]) rfl k)
      show Ends p e below s _ _ _ (s₁.setTop (mkF m 38 #[.val (.int x0), .val (.int (x0 &&& (255 : Int32))), .val (.int (0 : Int32)), .val (.int (0 : Int32)), .unset] []))
      refine Ends.by ?_ (fun _ k => XS.iloadN X0.here hx rfl (hb hby at_38) rfl k)
      show Ends p e below s _ _ _ (s₁.setTop (mkF m 39 #[.val (.int x0), .val (.int (x0 &&& (255 : Int32))), .val (.int (0 : Int32)), .val (.int (0 : Int32)), .unset] [(.int (0 : Int32))]))
      refine Ends.by ?_ (fun _ k => XS.ifNo X0.here hx rfl (hb hby at_39) rfl (XT.i0_ne_f (by decide)) k)
      show Ends p e below s _ _ _ (s₁.setTop (mkF m 42 #[.val (.int x0), .val (.int (x0 &&& (255 : Int32))), .val (.int (0 : Int32)), .val (.int (0 : Int32)), .unset] []))
      refine Ends.by ?_ (fun _ k => XS.iloadN X0.here hx rfl (hb hby at_42) rfl k)
      show Ends p e below s _ _ _ (s₁.setTop (mkF m 43 #[.val (.int x0), .val (.int (x0 &&& (255 : Int32))), .val (.int (0 : Int32)), .val (.int (0 : Int32)), .unset] [(.int (0 : Int32))]))
      refine Ends.by ?_ (fun _ k => XS.ifYes X0.here hx rfl (pc0 := 43) (pc' := 50) rfl (hb hby at_43) rfl (XT.i0_eq_t (by decide)) (by decide) (by decide) k)
      show Ends p e below s _ _ _ (s₁.setTop (mkF m 50 #[.val (.int x0), .val (.int (x0 &&& (255 : Int32))), .val (.int (0 : Int32)), .val (.int (0 : Int32)), .unset] []))
      refine Ends.by ?_ (fun _ k => XS.iconst X0.here hx rfl (hb hby at_50) k)
      show Ends p e below s _ _ _ (s₁.setTop (mkF m 51 #[.val (.int x0), .val (.int (x0 &&& (255 : Int32))), .val (.int (0 : Int32)), .val (.int (0 : Int32)), .unset] [(.int (0 : Int32))]))
      refine Ends.by ?_ (fun _ k => XS.istore X0.here hx rfl (hb hby at_51) rfl (l' := #[.val (.int x0), .val (.int (x0 &&& (255 : Int32))), .val (.int (0 : Int32)), .val (.int (0 : Int32)), .val (.int (0 : Int32))]) rfl k)
      show Ends p e below s _ _ _ (s₁.setTop (mkF m 53 #[.val (.int x0), .val (.int (x0 &&& (255 : Int32))), .val (.int (0 : Int32)), .val (.int (0 : Int32)), .val (.int (0 : Int32))] []))
      refine Ends.by ?_ (fun _ k => XS.iloadN X0.here hx rfl (hb hby at_53) rfl k)
      show Ends p e below s _ _ _ (s₁.setTop (mkF m 54 #[.val (.int x0), .val (.int (x0 &&& (255 : Int32))), .val (.int (0 : Int32)), .val (.int (0 : Int32)), .val (.int (0 : Int32))] [(.int (x0 &&& (255 : Int32)))]))
      obtain ⟨v5, _, ⟨T5, L5, k5, n5⟩, -, X5, ⟨Lc5, hQ5, l5, y5, z5⟩, st5⟩ := Jvm.LawKit.callS X0 hx (y := (⟨"quotewright/CaptureTime", "isRead", "(I)Z"⟩ : MethodName)) hown (mvT hZ (hw _ (List.mem_of_getElem? (i := 0) rfl))) (mvT hZ (hw _ (List.mem_of_getElem? (i := 1) rfl))) (mvT hZ (hw _ (List.mem_of_getElem? (i := 2) rfl))) (mvT hZ (hw _ (List.mem_of_getElem? (i := 3) rfl))) (by decide) (backOf (W := 0) (rm1 l Z a0 hw [] (x0 &&& (255 : Int32)) h0 n0 Z0) hZ (hw _ (List.mem_of_getElem? (i := 3) rfl)) (hw _ (List.mem_of_getElem? (i := 2) rfl)) (by decide) (by decide)) (g := (mkF m 54 #[.val (.int x0), .val (.int (x0 &&& (255 : Int32))), .val (.int (0 : Int32)), .val (.int (0 : Int32)), .val (.int (0 : Int32))] [(.int (x0 &&& (255 : Int32)))])) rfl (by rw [hml]; rfl) (argsL := [(.int (x0 &&& (255 : Int32)))]) (rest := []) (lenOf pd_0 rfl) rfl (by show 2 * 0 + _ ≤ _; exact Nat.le_of_eq rfl) (hb hby at_54) (fun _ _ => ⟨rfl, e0, (by decide : 0 + 0 ≤ _), (by decide : 0 + 0 ≤ _)⟩)
      dsimp only [Pt.U, Pt.locs, Pt.cells, Pt.slots] at X5 l5 y5 z5 st5 hQ5
      subst l5 y5 z5
      obtain ⟨rfl, N5q, e5⟩ := hQ5
      have N5 := Fr.app N0 N5q
      refine Ends.by ?_ st5
      show Ends p e below s _ _ _ (T5.setTop (mkF m 57 #[.val (.int x0), .val (.int (x0 &&& (255 : Int32))), .val (.int (0 : Int32)), .val (.int (0 : Int32)), .val (.int (0 : Int32))] [(.int (f1 (x0 &&& (255 : Int32))))]))
      refine Ends.by ?_ (fun _ k => XS.iload X5.here hx rfl (hb hby at_57) rfl k)
      show Ends p e below s _ _ _ (T5.setTop (mkF m 59 #[.val (.int x0), .val (.int (x0 &&& (255 : Int32))), .val (.int (0 : Int32)), .val (.int (0 : Int32)), .val (.int (0 : Int32))] [(.int (0 : Int32)), (.int (f1 (x0 &&& (255 : Int32))))]))
      by_cases hc6 : (f1 (x0 &&& (255 : Int32))) = (0 : Int32)
      · have hv7 := hv4.trans (if_pos hc6)
        refine Ends.by ?_ (fun _ k => XS.icmpNo X5.here hx rfl (hb hby at_59) rfl (XT.ii_ne_f hc6) k)
        show Ends p e below s _ _ _ (T5.setTop (mkF m 62 #[.val (.int x0), .val (.int (x0 &&& (255 : Int32))), .val (.int (0 : Int32)), .val (.int (0 : Int32)), .val (.int (0 : Int32))] []))
        refine Ends.by ?_ (fun _ k => XS.iconst X5.here hx rfl (hb hby at_62) k)
        show Ends p e below s _ _ _ (T5.setTop (mkF m 63 #[.val (.int x0), .val (.int (x0 &&& (255 : Int32))), .val (.int (0 : Int32)), .val (.int (0 : Int32)), .val (.int (0 : Int32))] [(.int (1 : Int32))]))
        refine Ends.by ?_ (fun _ k => XS.goto X5.here hx rfl (pc0 := 63) (pc' := 67) rfl (hb hby at_63) (by decide) (by decide) k)
        show Ends p e below s _ _ _ (T5.setTop (mkF m 67 #[.val (.int x0), .val (.int (x0 &&& (255 : Int32))), .val (.int (0 : Int32)), .val (.int (0 : Int32)), .val (.int (0 : Int32))] [(.int (1 : Int32))]))
        exact Ends.retN X5 hx Bd.notSynchronized Bd.returns (t := .boolean) (by simp) (hb hby at_67) (w := (1 : Int32)) rfl ⟨by rw [hv7], N5, e5⟩ (by decide) (by decide)
      · have hv8 := hv4.trans (if_neg hc6)
        refine Ends.by ?_ (fun _ k => XS.icmpYes X5.here hx rfl (pc0 := 59) (pc' := 66) rfl (hb hby at_59) rfl (XT.ii_ne_t hc6) (by decide) (by decide) k)
        show Ends p e below s _ _ _ (T5.setTop (mkF m 66 #[.val (.int x0), .val (.int (x0 &&& (255 : Int32))), .val (.int (0 : Int32)), .val (.int (0 : Int32)), .val (.int (0 : Int32))] []))
        refine Ends.by ?_ (fun _ k => XS.iconst X5.here hx rfl (hb hby at_66) k)
        show Ends p e below s _ _ _ (T5.setTop (mkF m 67 #[.val (.int x0), .val (.int (x0 &&& (255 : Int32))), .val (.int (0 : Int32)), .val (.int (0 : Int32)), .val (.int (0 : Int32))] [(.int (0 : Int32))]))
        exact Ends.retN X5 hx Bd.notSynchronized Bd.returns (t := .boolean) (by simp) (hb hby at_67) (w := (0 : Int32)) rfl ⟨by rw [hv8], N5, e5⟩ (by decide) (by decide)
    · have hv9 := hv2.trans (if_neg hc3)
      refine Ends.by ?_ (fun _ k => XS.icmpNo X0.here hx rfl (hb hby at_22) rfl (XT.ii_lt_f hc3) k)
      show Ends p e below s _ _ _ (s₁.setTop (mkF m 25 #[.val (.int x0), .val (.int (x0 &&& (255 : Int32))), .val (.int (0 : Int32)), .unset, .unset] []))
      refine Ends.by ?_ (fun _ k => XS.iloadN X0.here hx rfl (hb hby at_25) rfl k)
      show Ends p e below s _ _ _ (s₁.setTop (mkF m 26 #[.val (.int x0), .val (.int (x0 &&& (255 : Int32))), .val (.int (0 : Int32)), .unset, .unset] [(.int (x0 &&& (255 : Int32)))]))
      refine Ends.by ?_ (fun _ k => XS.sipush X0.here hx rfl (hb hby at_26) k)
      show Ends p e below s _ _ _ (s₁.setTop (mkF m 29 #[.val (.int x0), .val (.int (x0 &&& (255 : Int32))), .val (.int (0 : Int32)), .unset, .unset] [(.int (191 : Int32)), (.int (x0 &&& (255 : Int32)))]))
      by_cases hc10 : (191 : Int32) < (x0 &&& (255 : Int32))
      · have hv11 := hv9.trans (if_pos hc10)
        refine Ends.by ?_ (fun _ k => XS.icmpYes X0.here hx rfl (pc0 := 29) (pc' := 36) rfl (hb hby at_29) rfl (XT.ii_gt_t hc10) (by decide) (by decide) k)
        show Ends p e below s _ _ _ (s₁.setTop (mkF m 36 #[.val (.int x0), .val (.int (x0 &&& (255 : Int32))), .val (.int (0 : Int32)), .unset, .unset] []))
        refine Ends.by ?_ (fun _ k => XS.iconst X0.here hx rfl (hb hby at_36) k)
        show Ends p e below s _ _ _ (s₁.setTop (mkF m 37 #[.val (.int x0), .val (.int (x0 &&& (255 : Int32))), .val (.int (0 : Int32)), .unset, .unset] [(.int (0 : Int32))]))
        refine Ends.by ?_ (fun _ k => XS.istoreN X0.here hx rfl (hb hby at_37) rfl (l' := #[.val (.int x0), .val (.int (x0 &&& (255 : Int32))), .val (.int (0 : Int32)), .val (.int (0 : Int32)), .unset]) rfl k)
        show Ends p e below s _ _ _ (s₁.setTop (mkF m 38 #[.val (.int x0), .val (.int (x0 &&& (255 : Int32))), .val (.int (0 : Int32)), .val (.int (0 : Int32)), .unset] []))
        refine Ends.by ?_ (fun _ k => XS.iloadN X0.here hx rfl (hb hby at_38) rfl k)
        show Ends p e below s _ _ _ (s₁.setTop (mkF m 39 #[.val (.int x0), .val (.int (x0 &&& (255 : Int32))), .val (.int (0 : Int32)), .val (.int (0 : Int32)), .unset] [(.int (0 : Int32))]))
        refine Ends.by ?_ (fun _ k => XS.ifNo X0.here hx rfl (hb hby at_39) rfl (XT.i0_ne_f (by decide)) k)
        show Ends p e below s _ _ _ (s₁.setTop (mkF m 42 #[.val (.int x0), .val (.int (x0 &&& (255 : Int32))), .val (.int (0 : Int32)), .val (.int (0 : Int32)), .unset] []))
        refine Ends.by ?_ (fun _ k => XS.iloadN X0.here hx rfl (hb hby at_42) rfl k)
        show Ends p e below s _ _ _ (s₁.setTop (mkF m 43 #[.val (.int x0), .val (.int (x0 &&& (255 : Int32))), .val (.int (0 : Int32)), .val (.int (0 : Int32)), .unset] [(.int (0 : Int32))]))
        refine Ends.by ?_ (fun _ k => XS.ifYes X0.here hx rfl (pc0 := 43) (pc' := 50) rfl (hb hby at_43) rfl (XT.i0_eq_t (by decide)) (by decide) (by decide) k)
        show Ends p e below s _ _ _ (s₁.setTop (mkF m 50 #[.val (.int x0), .val (.int (x0 &&& (255 : Int32))), .val (.int (0 : Int32)), .val (.int (0 : Int32)), .unset] []))
        refine Ends.by ?_ (fun _ k => XS.iconst X0.here hx rfl (hb hby at_50) k)
        show Ends p e below s _ _ _ (s₁.setTop (mkF m 51 #[.val (.int x0), .val (.int (x0 &&& (255 : Int32))), .val (.int (0 : Int32)), .val (.int (0 : Int32)), .unset] [(.int (0 : Int32))]))
        refine Ends.by ?_ (fun _ k => XS.istore X0.here hx rfl (hb hby at_51) rfl (l' := #[.val (.int x0), .val (.int (x0 &&& (255 : Int32))), .val (.int (0 : Int32)), .val (.int (0 : Int32)), .val (.int (0 : Int32))]) rfl k)
        show Ends p e below s _ _ _ (s₁.setTop (mkF m 53 #[.val (.int x0), .val (.int (x0 &&& (255 : Int32))), .val (.int (0 : Int32)), .val (.int (0 : Int32)), .val (.int (0 : Int32))] []))
        refine Ends.by ?_ (fun _ k => XS.iloadN X0.here hx rfl (hb hby at_53) rfl k)
        show Ends p e below s _ _ _ (s₁.setTop (mkF m 54 #[.val (.int x0), .val (.int (x0 &&& (255 : Int32))), .val (.int (0 : Int32)), .val (.int (0 : Int32)), .val (.int (0 : Int32))] [(.int (x0 &&& (255 : Int32)))]))
        obtain ⟨v12, _, ⟨T12, L12, k12, n12⟩, -, X12, ⟨Lc12, hQ12, l12, y12, z12⟩, st12⟩ := Jvm.LawKit.callS X0 hx (y := (⟨"quotewright/CaptureTime", "isRead", "(I)Z"⟩ : MethodName)) hown (mvT hZ (hw _ (List.mem_of_getElem? (i := 0) rfl))) (mvT hZ (hw _ (List.mem_of_getElem? (i := 1) rfl))) (mvT hZ (hw _ (List.mem_of_getElem? (i := 2) rfl))) (mvT hZ (hw _ (List.mem_of_getElem? (i := 3) rfl))) (by decide) (backOf (W := 0) (rm1 l Z a0 hw [] (x0 &&& (255 : Int32)) h0 n0 Z0) hZ (hw _ (List.mem_of_getElem? (i := 3) rfl)) (hw _ (List.mem_of_getElem? (i := 2) rfl)) (by decide) (by decide)) (g := (mkF m 54 #[.val (.int x0), .val (.int (x0 &&& (255 : Int32))), .val (.int (0 : Int32)), .val (.int (0 : Int32)), .val (.int (0 : Int32))] [(.int (x0 &&& (255 : Int32)))])) rfl (by rw [hml]; rfl) (argsL := [(.int (x0 &&& (255 : Int32)))]) (rest := []) (lenOf pd_0 rfl) rfl (by show 2 * 0 + _ ≤ _; exact Nat.le_of_eq rfl) (hb hby at_54) (fun _ _ => ⟨rfl, e0, (by decide : 0 + 0 ≤ _), (by decide : 0 + 0 ≤ _)⟩)
        dsimp only [Pt.U, Pt.locs, Pt.cells, Pt.slots] at X12 l12 y12 z12 st12 hQ12
        subst l12 y12 z12
        obtain ⟨rfl, N12q, e12⟩ := hQ12
        have N12 := Fr.app N0 N12q
        refine Ends.by ?_ st12
        show Ends p e below s _ _ _ (T12.setTop (mkF m 57 #[.val (.int x0), .val (.int (x0 &&& (255 : Int32))), .val (.int (0 : Int32)), .val (.int (0 : Int32)), .val (.int (0 : Int32))] [(.int (f1 (x0 &&& (255 : Int32))))]))
        refine Ends.by ?_ (fun _ k => XS.iload X12.here hx rfl (hb hby at_57) rfl k)
        show Ends p e below s _ _ _ (T12.setTop (mkF m 59 #[.val (.int x0), .val (.int (x0 &&& (255 : Int32))), .val (.int (0 : Int32)), .val (.int (0 : Int32)), .val (.int (0 : Int32))] [(.int (0 : Int32)), (.int (f1 (x0 &&& (255 : Int32))))]))
        by_cases hc13 : (f1 (x0 &&& (255 : Int32))) = (0 : Int32)
        · have hv14 := hv11.trans (if_pos hc13)
          refine Ends.by ?_ (fun _ k => XS.icmpNo X12.here hx rfl (hb hby at_59) rfl (XT.ii_ne_f hc13) k)
          show Ends p e below s _ _ _ (T12.setTop (mkF m 62 #[.val (.int x0), .val (.int (x0 &&& (255 : Int32))), .val (.int (0 : Int32)), .val (.int (0 : Int32)), .val (.int (0 : Int32))] []))
          refine Ends.by ?_ (fun _ k => XS.iconst X12.here hx rfl (hb hby at_62) k)
          show Ends p e below s _ _ _ (T12.setTop (mkF m 63 #[.val (.int x0), .val (.int (x0 &&& (255 : Int32))), .val (.int (0 : Int32)), .val (.int (0 : Int32)), .val (.int (0 : Int32))] [(.int (1 : Int32))]))
          refine Ends.by ?_ (fun _ k => XS.goto X12.here hx rfl (pc0 := 63) (pc' := 67) rfl (hb hby at_63) (by decide) (by decide) k)
          show Ends p e below s _ _ _ (T12.setTop (mkF m 67 #[.val (.int x0), .val (.int (x0 &&& (255 : Int32))), .val (.int (0 : Int32)), .val (.int (0 : Int32)), .val (.int (0 : Int32))] [(.int (1 : Int32))]))
          exact Ends.retN X12 hx Bd.notSynchronized Bd.returns (t := .boolean) (by simp) (hb hby at_67) (w := (1 : Int32)) rfl ⟨by rw [hv14], N12, e12⟩ (by decide) (by decide)
        · have hv15 := hv11.trans (if_neg hc13)
          refine Ends.by ?_ (fun _ k => XS.icmpYes X12.here hx rfl (pc0 := 59) (pc' := 66) rfl (hb hby at_59) rfl (XT.ii_ne_t hc13) (by decide) (by decide) k)
          show Ends p e below s _ _ _ (T12.setTop (mkF m 66 #[.val (.int x0), .val (.int (x0 &&& (255 : Int32))), .val (.int (0 : Int32)), .val (.int (0 : Int32)), .val (.int (0 : Int32))] []))
          refine Ends.by ?_ (fun _ k => XS.iconst X12.here hx rfl (hb hby at_66) k)
          show Ends p e below s _ _ _ (T12.setTop (mkF m 67 #[.val (.int x0), .val (.int (x0 &&& (255 : Int32))), .val (.int (0 : Int32)), .val (.int (0 : Int32)), .val (.int (0 : Int32))] [(.int (0 : Int32))]))
          exact Ends.retN X12 hx Bd.notSynchronized Bd.returns (t := .boolean) (by simp) (hb hby at_67) (w := (0 : Int32)) rfl ⟨by rw [hv15], N12, e12⟩ (by decide) (by decide)
      · have hv16 := hv9.trans (if_neg hc10)
        refine Ends.by ?_ (fun _ k => XS.icmpNo X0.here hx rfl (hb hby at_29) rfl (XT.ii_gt_f hc10) k)
        show Ends p e below s _ _ _ (s₁.setTop (mkF m 32 #[.val (.int x0), .val (.int (x0 &&& (255 : Int32))), .val (.int (0 : Int32)), .unset, .unset] []))
        refine Ends.by ?_ (fun _ k => XS.iconst X0.here hx rfl (hb hby at_32) k)
        show Ends p e below s _ _ _ (s₁.setTop (mkF m 33 #[.val (.int x0), .val (.int (x0 &&& (255 : Int32))), .val (.int (0 : Int32)), .unset, .unset] [(.int (1 : Int32))]))
        refine Ends.by ?_ (fun _ k => XS.goto X0.here hx rfl (pc0 := 33) (pc' := 37) rfl (hb hby at_33) (by decide) (by decide) k)
        show Ends p e below s _ _ _ (s₁.setTop (mkF m 37 #[.val (.int x0), .val (.int (x0 &&& (255 : Int32))), .val (.int (0 : Int32)), .unset, .unset] [(.int (1 : Int32))]))
        refine Ends.by ?_ (fun _ k => XS.istoreN X0.here hx rfl (hb hby at_37) rfl (l' := #[.val (.int x0), .val (.int (x0 &&& (255 : Int32))), .val (.int (0 : Int32)), .val (.int (1 : Int32)), .unset]) rfl k)
        show Ends p e below s _ _ _ (s₁.setTop (mkF m 38 #[.val (.int x0), .val (.int (x0 &&& (255 : Int32))), .val (.int (0 : Int32)), .val (.int (1 : Int32)), .unset] []))
        refine Ends.by ?_ (fun _ k => XS.iloadN X0.here hx rfl (hb hby at_38) rfl k)
        show Ends p e below s _ _ _ (s₁.setTop (mkF m 39 #[.val (.int x0), .val (.int (x0 &&& (255 : Int32))), .val (.int (0 : Int32)), .val (.int (1 : Int32)), .unset] [(.int (0 : Int32))]))
        refine Ends.by ?_ (fun _ k => XS.ifNo X0.here hx rfl (hb hby at_39) rfl (XT.i0_ne_f (by decide)) k)
        show Ends p e below s _ _ _ (s₁.setTop (mkF m 42 #[.val (.int x0), .val (.int (x0 &&& (255 : Int32))), .val (.int (0 : Int32)), .val (.int (1 : Int32)), .unset] []))
        refine Ends.by ?_ (fun _ k => XS.iloadN X0.here hx rfl (hb hby at_42) rfl k)
        show Ends p e below s _ _ _ (s₁.setTop (mkF m 43 #[.val (.int x0), .val (.int (x0 &&& (255 : Int32))), .val (.int (0 : Int32)), .val (.int (1 : Int32)), .unset] [(.int (1 : Int32))]))
        refine Ends.by ?_ (fun _ k => XS.ifNo X0.here hx rfl (hb hby at_43) rfl (XT.i0_eq_f (by decide)) k)
        show Ends p e below s _ _ _ (s₁.setTop (mkF m 46 #[.val (.int x0), .val (.int (x0 &&& (255 : Int32))), .val (.int (0 : Int32)), .val (.int (1 : Int32)), .unset] []))
        refine Ends.by ?_ (fun _ k => XS.iconst X0.here hx rfl (hb hby at_46) k)
        show Ends p e below s _ _ _ (s₁.setTop (mkF m 47 #[.val (.int x0), .val (.int (x0 &&& (255 : Int32))), .val (.int (0 : Int32)), .val (.int (1 : Int32)), .unset] [(.int (1 : Int32))]))
        refine Ends.by ?_ (fun _ k => XS.goto X0.here hx rfl (pc0 := 47) (pc' := 51) rfl (hb hby at_47) (by decide) (by decide) k)
        show Ends p e below s _ _ _ (s₁.setTop (mkF m 51 #[.val (.int x0), .val (.int (x0 &&& (255 : Int32))), .val (.int (0 : Int32)), .val (.int (1 : Int32)), .unset] [(.int (1 : Int32))]))
        refine Ends.by ?_ (fun _ k => XS.istore X0.here hx rfl (hb hby at_51) rfl (l' := #[.val (.int x0), .val (.int (x0 &&& (255 : Int32))), .val (.int (0 : Int32)), .val (.int (1 : Int32)), .val (.int (1 : Int32))]) rfl k)
        show Ends p e below s _ _ _ (s₁.setTop (mkF m 53 #[.val (.int x0), .val (.int (x0 &&& (255 : Int32))), .val (.int (0 : Int32)), .val (.int (1 : Int32)), .val (.int (1 : Int32))] []))
        refine Ends.by ?_ (fun _ k => XS.iloadN X0.here hx rfl (hb hby at_53) rfl k)
        show Ends p e below s _ _ _ (s₁.setTop (mkF m 54 #[.val (.int x0), .val (.int (x0 &&& (255 : Int32))), .val (.int (0 : Int32)), .val (.int (1 : Int32)), .val (.int (1 : Int32))] [(.int (x0 &&& (255 : Int32)))]))
        obtain ⟨v17, _, ⟨T17, L17, k17, n17⟩, -, X17, ⟨Lc17, hQ17, l17, y17, z17⟩, st17⟩ := Jvm.LawKit.callS X0 hx (y := (⟨"quotewright/CaptureTime", "isRead", "(I)Z"⟩ : MethodName)) hown (mvT hZ (hw _ (List.mem_of_getElem? (i := 0) rfl))) (mvT hZ (hw _ (List.mem_of_getElem? (i := 1) rfl))) (mvT hZ (hw _ (List.mem_of_getElem? (i := 2) rfl))) (mvT hZ (hw _ (List.mem_of_getElem? (i := 3) rfl))) (by decide) (backOf (W := 0) (rm1 l Z a0 hw [] (x0 &&& (255 : Int32)) h0 n0 Z0) hZ (hw _ (List.mem_of_getElem? (i := 3) rfl)) (hw _ (List.mem_of_getElem? (i := 2) rfl)) (by decide) (by decide)) (g := (mkF m 54 #[.val (.int x0), .val (.int (x0 &&& (255 : Int32))), .val (.int (0 : Int32)), .val (.int (1 : Int32)), .val (.int (1 : Int32))] [(.int (x0 &&& (255 : Int32)))])) rfl (by rw [hml]; rfl) (argsL := [(.int (x0 &&& (255 : Int32)))]) (rest := []) (lenOf pd_0 rfl) rfl (by show 2 * 0 + _ ≤ _; exact Nat.le_of_eq rfl) (hb hby at_54) (fun _ _ => ⟨rfl, e0, (by decide : 0 + 0 ≤ _), (by decide : 0 + 0 ≤ _)⟩)
        dsimp only [Pt.U, Pt.locs, Pt.cells, Pt.slots] at X17 l17 y17 z17 st17 hQ17
        subst l17 y17 z17
        obtain ⟨rfl, N17q, e17⟩ := hQ17
        have N17 := Fr.app N0 N17q
        refine Ends.by ?_ st17
        show Ends p e below s _ _ _ (T17.setTop (mkF m 57 #[.val (.int x0), .val (.int (x0 &&& (255 : Int32))), .val (.int (0 : Int32)), .val (.int (1 : Int32)), .val (.int (1 : Int32))] [(.int (f1 (x0 &&& (255 : Int32))))]))
        refine Ends.by ?_ (fun _ k => XS.iload X17.here hx rfl (hb hby at_57) rfl k)
        show Ends p e below s _ _ _ (T17.setTop (mkF m 59 #[.val (.int x0), .val (.int (x0 &&& (255 : Int32))), .val (.int (0 : Int32)), .val (.int (1 : Int32)), .val (.int (1 : Int32))] [(.int (1 : Int32)), (.int (f1 (x0 &&& (255 : Int32))))]))
        by_cases hc18 : (f1 (x0 &&& (255 : Int32))) = (1 : Int32)
        · have hv19 := hv16.trans (if_pos hc18)
          refine Ends.by ?_ (fun _ k => XS.icmpNo X17.here hx rfl (hb hby at_59) rfl (XT.ii_ne_f hc18) k)
          show Ends p e below s _ _ _ (T17.setTop (mkF m 62 #[.val (.int x0), .val (.int (x0 &&& (255 : Int32))), .val (.int (0 : Int32)), .val (.int (1 : Int32)), .val (.int (1 : Int32))] []))
          refine Ends.by ?_ (fun _ k => XS.iconst X17.here hx rfl (hb hby at_62) k)
          show Ends p e below s _ _ _ (T17.setTop (mkF m 63 #[.val (.int x0), .val (.int (x0 &&& (255 : Int32))), .val (.int (0 : Int32)), .val (.int (1 : Int32)), .val (.int (1 : Int32))] [(.int (1 : Int32))]))
          refine Ends.by ?_ (fun _ k => XS.goto X17.here hx rfl (pc0 := 63) (pc' := 67) rfl (hb hby at_63) (by decide) (by decide) k)
          show Ends p e below s _ _ _ (T17.setTop (mkF m 67 #[.val (.int x0), .val (.int (x0 &&& (255 : Int32))), .val (.int (0 : Int32)), .val (.int (1 : Int32)), .val (.int (1 : Int32))] [(.int (1 : Int32))]))
          exact Ends.retN X17 hx Bd.notSynchronized Bd.returns (t := .boolean) (by simp) (hb hby at_67) (w := (1 : Int32)) rfl ⟨by rw [hv19], N17, e17⟩ (by decide) (by decide)
        · have hv20 := hv16.trans (if_neg hc18)
          refine Ends.by ?_ (fun _ k => XS.icmpYes X17.here hx rfl (pc0 := 59) (pc' := 66) rfl (hb hby at_59) rfl (XT.ii_ne_t hc18) (by decide) (by decide) k)
          show Ends p e below s _ _ _ (T17.setTop (mkF m 66 #[.val (.int x0), .val (.int (x0 &&& (255 : Int32))), .val (.int (0 : Int32)), .val (.int (1 : Int32)), .val (.int (1 : Int32))] []))
          refine Ends.by ?_ (fun _ k => XS.iconst X17.here hx rfl (hb hby at_66) k)
          show Ends p e below s _ _ _ (T17.setTop (mkF m 67 #[.val (.int x0), .val (.int (x0 &&& (255 : Int32))), .val (.int (0 : Int32)), .val (.int (1 : Int32)), .val (.int (1 : Int32))] [(.int (0 : Int32))]))
          exact Ends.retN X17 hx Bd.notSynchronized Bd.returns (t := .boolean) (by simp) (hb hby at_67) (w := (0 : Int32)) rfl ⟨by rw [hv20], N17, e17⟩ (by decide) (by decide)
  · have hv21 := hv0.trans (if_neg hc1)
    refine Ends.by ?_ (fun _ k => XS.icmpNo X0.here hx rfl (hb hby at_9) rfl (XT.ii_gt_f hc1) k)
    show Ends p e below s _ _ _ (s₁.setTop (mkF m 12 #[.val (.int x0), .val (.int (x0 &&& (255 : Int32))), .unset, .unset, .unset] []))
    refine Ends.by ?_ (fun _ k => XS.iconst X0.here hx rfl (hb hby at_12) k)
    show Ends p e below s _ _ _ (s₁.setTop (mkF m 13 #[.val (.int x0), .val (.int (x0 &&& (255 : Int32))), .unset, .unset, .unset] [(.int (1 : Int32))]))
    refine Ends.by ?_ (fun _ k => XS.goto X0.here hx rfl (pc0 := 13) (pc' := 17) rfl (hb hby at_13) (by decide) (by decide) k)
    show Ends p e below s _ _ _ (s₁.setTop (mkF m 17 #[.val (.int x0), .val (.int (x0 &&& (255 : Int32))), .unset, .unset, .unset] [(.int (1 : Int32))]))
    refine Ends.by ?_ (fun _ k => XS.istoreN X0.here hx rfl (hb hby at_17) rfl (l' := #[.val (.int x0), .val (.int (x0 &&& (255 : Int32))), .val (.int (1 : Int32)), .unset, .unset]) rfl k)
    show Ends p e below s _ _ _ (s₁.setTop (mkF m 18 #[.val (.int x0), .val (.int (x0 &&& (255 : Int32))), .val (.int (1 : Int32)), .unset, .unset] []))
    refine Ends.by ?_ (fun _ k => XS.iloadN X0.here hx rfl (hb hby at_18) rfl k)
    show Ends p e below s _ _ _ (s₁.setTop (mkF m 19 #[.val (.int x0), .val (.int (x0 &&& (255 : Int32))), .val (.int (1 : Int32)), .unset, .unset] [(.int (x0 &&& (255 : Int32)))]))
    refine Ends.by ?_ (fun _ k => XS.sipush X0.here hx rfl (hb hby at_19) k)
    show Ends p e below s _ _ _ (s₁.setTop (mkF m 22 #[.val (.int x0), .val (.int (x0 &&& (255 : Int32))), .val (.int (1 : Int32)), .unset, .unset] [(.int (128 : Int32)), (.int (x0 &&& (255 : Int32)))]))
    by_cases hc22 : (x0 &&& (255 : Int32)) < (128 : Int32)
    · have hv23 := hv21.trans (if_pos hc22)
      refine Ends.by ?_ (fun _ k => XS.icmpYes X0.here hx rfl (pc0 := 22) (pc' := 36) rfl (hb hby at_22) rfl (XT.ii_lt_t hc22) (by decide) (by decide) k)
      show Ends p e below s _ _ _ (s₁.setTop (mkF m 36 #[.val (.int x0), .val (.int (x0 &&& (255 : Int32))), .val (.int (1 : Int32)), .unset, .unset] []))
      refine Ends.by ?_ (fun _ k => XS.iconst X0.here hx rfl (hb hby at_36) k)
      show Ends p e below s _ _ _ (s₁.setTop (mkF m 37 #[.val (.int x0), .val (.int (x0 &&& (255 : Int32))), .val (.int (1 : Int32)), .unset, .unset] [(.int (0 : Int32))]))
      refine Ends.by ?_ (fun _ k => XS.istoreN X0.here hx rfl (hb hby at_37) rfl (l' := #[.val (.int x0), .val (.int (x0 &&& (255 : Int32))), .val (.int (1 : Int32)), .val (.int (0 : Int32)), .unset]) rfl k)
      show Ends p e below s _ _ _ (s₁.setTop (mkF m 38 #[.val (.int x0), .val (.int (x0 &&& (255 : Int32))), .val (.int (1 : Int32)), .val (.int (0 : Int32)), .unset] []))
      refine Ends.by ?_ (fun _ k => XS.iloadN X0.here hx rfl (hb hby at_38) rfl k)
      show Ends p e below s _ _ _ (s₁.setTop (mkF m 39 #[.val (.int x0), .val (.int (x0 &&& (255 : Int32))), .val (.int (1 : Int32)), .val (.int (0 : Int32)), .unset] [(.int (1 : Int32))]))
      refine Ends.by ?_ (fun _ k => XS.ifYes X0.here hx rfl (pc0 := 39) (pc' := 46) rfl (hb hby at_39) rfl (XT.i0_ne_t (by decide)) (by decide) (by decide) k)
      show Ends p e below s _ _ _ (s₁.setTop (mkF m 46 #[.val (.int x0), .val (.int (x0 &&& (255 : Int32))), .val (.int (1 : Int32)), .val (.int (0 : Int32)), .unset] []))
      refine Ends.by ?_ (fun _ k => XS.iconst X0.here hx rfl (hb hby at_46) k)
      show Ends p e below s _ _ _ (s₁.setTop (mkF m 47 #[.val (.int x0), .val (.int (x0 &&& (255 : Int32))), .val (.int (1 : Int32)), .val (.int (0 : Int32)), .unset] [(.int (1 : Int32))]))
      refine Ends.by ?_ (fun _ k => XS.goto X0.here hx rfl (pc0 := 47) (pc' := 51) rfl (hb hby at_47) (by decide) (by decide) k)
      show Ends p e below s _ _ _ (s₁.setTop (mkF m 51 #[.val (.int x0), .val (.int (x0 &&& (255 : Int32))), .val (.int (1 : Int32)), .val (.int (0 : Int32)), .unset] [(.int (1 : Int32))]))
      refine Ends.by ?_ (fun _ k => XS.istore X0.here hx rfl (hb hby at_51) rfl (l' := #[.val (.int x0), .val (.int (x0 &&& (255 : Int32))), .val (.int (1 : Int32)), .val (.int (0 : Int32)), .val (.int (1 : Int32))]) rfl k)
      show Ends p e below s _ _ _ (s₁.setTop (mkF m 53 #[.val (.int x0), .val (.int (x0 &&& (255 : Int32))), .val (.int (1 : Int32)), .val (.int (0 : Int32)), .val (.int (1 : Int32))] []))
      refine Ends.by ?_ (fun _ k => XS.iloadN X0.here hx rfl (hb hby at_53) rfl k)
      show Ends p e below s _ _ _ (s₁.setTop (mkF m 54 #[.val (.int x0), .val (.int (x0 &&& (255 : Int32))), .val (.int (1 : Int32)), .val (.int (0 : Int32)), .val (.int (1 : Int32))] [(.int (x0 &&& (255 : Int32)))]))
      obtain ⟨v24, _, ⟨T24, L24, k24, n24⟩, -, X24, ⟨Lc24, hQ24, l24, y24, z24⟩, st24⟩ := Jvm.LawKit.callS X0 hx (y := (⟨"quotewright/CaptureTime", "isRead", "(I)Z"⟩ : MethodName)) hown (mvT hZ (hw _ (List.mem_of_getElem? (i := 0) rfl))) (mvT hZ (hw _ (List.mem_of_getElem? (i := 1) rfl))) (mvT hZ (hw _ (List.mem_of_getElem? (i := 2) rfl))) (mvT hZ (hw _ (List.mem_of_getElem? (i := 3) rfl))) (by decide) (backOf (W := 0) (rm1 l Z a0 hw [] (x0 &&& (255 : Int32)) h0 n0 Z0) hZ (hw _ (List.mem_of_getElem? (i := 3) rfl)) (hw _ (List.mem_of_getElem? (i := 2) rfl)) (by decide) (by decide)) (g := (mkF m 54 #[.val (.int x0), .val (.int (x0 &&& (255 : Int32))), .val (.int (1 : Int32)), .val (.int (0 : Int32)), .val (.int (1 : Int32))] [(.int (x0 &&& (255 : Int32)))])) rfl (by rw [hml]; rfl) (argsL := [(.int (x0 &&& (255 : Int32)))]) (rest := []) (lenOf pd_0 rfl) rfl (by show 2 * 0 + _ ≤ _; exact Nat.le_of_eq rfl) (hb hby at_54) (fun _ _ => ⟨rfl, e0, (by decide : 0 + 0 ≤ _), (by decide : 0 + 0 ≤ _)⟩)
      dsimp only [Pt.U, Pt.locs, Pt.cells, Pt.slots] at X24 l24 y24 z24 st24 hQ24
      subst l24 y24 z24
      obtain ⟨rfl, N24q, e24⟩ := hQ24
      have N24 := Fr.app N0 N24q
      refine Ends.by ?_ st24
      show Ends p e below s _ _ _ (T24.setTop (mkF m 57 #[.val (.int x0), .val (.int (x0 &&& (255 : Int32))), .val (.int (1 : Int32)), .val (.int (0 : Int32)), .val (.int (1 : Int32))] [(.int (f1 (x0 &&& (255 : Int32))))]))
      refine Ends.by ?_ (fun _ k => XS.iload X24.here hx rfl (hb hby at_57) rfl k)
      show Ends p e below s _ _ _ (T24.setTop (mkF m 59 #[.val (.int x0), .val (.int (x0 &&& (255 : Int32))), .val (.int (1 : Int32)), .val (.int (0 : Int32)), .val (.int (1 : Int32))] [(.int (1 : Int32)), (.int (f1 (x0 &&& (255 : Int32))))]))
      by_cases hc25 : (f1 (x0 &&& (255 : Int32))) = (1 : Int32)
      · have hv26 := hv23.trans (if_pos hc25)
        refine Ends.by ?_ (fun _ k => XS.icmpNo X24.here hx rfl (hb hby at_59) rfl (XT.ii_ne_f hc25) k)
        show Ends p e below s _ _ _ (T24.setTop (mkF m 62 #[.val (.int x0), .val (.int (x0 &&& (255 : Int32))), .val (.int (1 : Int32)), .val (.int (0 : Int32)), .val (.int (1 : Int32))] []))
        refine Ends.by ?_ (fun _ k => XS.iconst X24.here hx rfl (hb hby at_62) k)
        show Ends p e below s _ _ _ (T24.setTop (mkF m 63 #[.val (.int x0), .val (.int (x0 &&& (255 : Int32))), .val (.int (1 : Int32)), .val (.int (0 : Int32)), .val (.int (1 : Int32))] [(.int (1 : Int32))]))
        refine Ends.by ?_ (fun _ k => XS.goto X24.here hx rfl (pc0 := 63) (pc' := 67) rfl (hb hby at_63) (by decide) (by decide) k)
        show Ends p e below s _ _ _ (T24.setTop (mkF m 67 #[.val (.int x0), .val (.int (x0 &&& (255 : Int32))), .val (.int (1 : Int32)), .val (.int (0 : Int32)), .val (.int (1 : Int32))] [(.int (1 : Int32))]))
        exact Ends.retN X24 hx Bd.notSynchronized Bd.returns (t := .boolean) (by simp) (hb hby at_67) (w := (1 : Int32)) rfl ⟨by rw [hv26], N24, e24⟩ (by decide) (by decide)
      · have hv27 := hv23.trans (if_neg hc25)
        refine Ends.by ?_ (fun _ k => XS.icmpYes X24.here hx rfl (pc0 := 59) (pc' := 66) rfl (hb hby at_59) rfl (XT.ii_ne_t hc25) (by decide) (by decide) k)
        show Ends p e below s _ _ _ (T24.setTop (mkF m 66 #[.val (.int x0), .val (.int (x0 &&& (255 : Int32))), .val (.int (1 : Int32)), .val (.int (0 : Int32)), .val (.int (1 : Int32))] []))
        refine Ends.by ?_ (fun _ k => XS.iconst X24.here hx rfl (hb hby at_66) k)
        show Ends p e below s _ _ _ (T24.setTop (mkF m 67 #[.val (.int x0), .val (.int (x0 &&& (255 : Int32))), .val (.int (1 : Int32)), .val (.int (0 : Int32)), .val (.int (1 : Int32))] [(.int (0 : Int32))]))
        exact Ends.retN X24 hx Bd.notSynchronized Bd.returns (t := .boolean) (by simp) (hb hby at_67) (w := (0 : Int32)) rfl ⟨by rw [hv27], N24, e24⟩ (by decide) (by decide)
    · have hv28 := hv21.trans (if_neg hc22)
      refine Ends.by ?_ (fun _ k => XS.icmpNo X0.here hx rfl (hb hby at_22) rfl (XT.ii_lt_f hc22) k)
      show Ends p e below s _ _ _ (s₁.setTop (mkF m 25 #[.val (.int x0), .val (.int (x0 &&& (255 : Int32))), .val (.int (1 : Int32)), .unset, .unset] []))
      refine Ends.by ?_ (fun _ k => XS.iloadN X0.here hx rfl (hb hby at_25) rfl k)
      show Ends p e below s _ _ _ (s₁.setTop (mkF m 26 #[.val (.int x0), .val (.int (x0 &&& (255 : Int32))), .val (.int (1 : Int32)), .unset, .unset] [(.int (x0 &&& (255 : Int32)))]))
      refine Ends.by ?_ (fun _ k => XS.sipush X0.here hx rfl (hb hby at_26) k)
      show Ends p e below s _ _ _ (s₁.setTop (mkF m 29 #[.val (.int x0), .val (.int (x0 &&& (255 : Int32))), .val (.int (1 : Int32)), .unset, .unset] [(.int (191 : Int32)), (.int (x0 &&& (255 : Int32)))]))
      by_cases hc29 : (191 : Int32) < (x0 &&& (255 : Int32))
      · have hv30 := hv28.trans (if_pos hc29)
        refine Ends.by ?_ (fun _ k => XS.icmpYes X0.here hx rfl (pc0 := 29) (pc' := 36) rfl (hb hby at_29) rfl (XT.ii_gt_t hc29) (by decide) (by decide) k)
        show Ends p e below s _ _ _ (s₁.setTop (mkF m 36 #[.val (.int x0), .val (.int (x0 &&& (255 : Int32))), .val (.int (1 : Int32)), .unset, .unset] []))
        refine Ends.by ?_ (fun _ k => XS.iconst X0.here hx rfl (hb hby at_36) k)
        show Ends p e below s _ _ _ (s₁.setTop (mkF m 37 #[.val (.int x0), .val (.int (x0 &&& (255 : Int32))), .val (.int (1 : Int32)), .unset, .unset] [(.int (0 : Int32))]))
        refine Ends.by ?_ (fun _ k => XS.istoreN X0.here hx rfl (hb hby at_37) rfl (l' := #[.val (.int x0), .val (.int (x0 &&& (255 : Int32))), .val (.int (1 : Int32)), .val (.int (0 : Int32)), .unset]) rfl k)
        show Ends p e below s _ _ _ (s₁.setTop (mkF m 38 #[.val (.int x0), .val (.int (x0 &&& (255 : Int32))), .val (.int (1 : Int32)), .val (.int (0 : Int32)), .unset] []))
        refine Ends.by ?_ (fun _ k => XS.iloadN X0.here hx rfl (hb hby at_38) rfl k)
        show Ends p e below s _ _ _ (s₁.setTop (mkF m 39 #[.val (.int x0), .val (.int (x0 &&& (255 : Int32))), .val (.int (1 : Int32)), .val (.int (0 : Int32)), .unset] [(.int (1 : Int32))]))
        refine Ends.by ?_ (fun _ k => XS.ifYes X0.here hx rfl (pc0 := 39) (pc' := 46) rfl (hb hby at_39) rfl (XT.i0_ne_t (by decide)) (by decide) (by decide) k)
        show Ends p e below s _ _ _ (s₁.setTop (mkF m 46 #[.val (.int x0), .val (.int (x0 &&& (255 : Int32))), .val (.int (1 : Int32)), .val (.int (0 : Int32)), .unset] []))
        refine Ends.by ?_ (fun _ k => XS.iconst X0.here hx rfl (hb hby at_46) k)
        show Ends p e below s _ _ _ (s₁.setTop (mkF m 47 #[.val (.int x0), .val (.int (x0 &&& (255 : Int32))), .val (.int (1 : Int32)), .val (.int (0 : Int32)), .unset] [(.int (1 : Int32))]))
        refine Ends.by ?_ (fun _ k => XS.goto X0.here hx rfl (pc0 := 47) (pc' := 51) rfl (hb hby at_47) (by decide) (by decide) k)
        show Ends p e below s _ _ _ (s₁.setTop (mkF m 51 #[.val (.int x0), .val (.int (x0 &&& (255 : Int32))), .val (.int (1 : Int32)), .val (.int (0 : Int32)), .unset] [(.int (1 : Int32))]))
        refine Ends.by ?_ (fun _ k => XS.istore X0.here hx rfl (hb hby at_51) rfl (l' := #[.val (.int x0), .val (.int (x0 &&& (255 : Int32))), .val (.int (1 : Int32)), .val (.int (0 : Int32)), .val (.int (1 : Int32))]) rfl k)
        show Ends p e below s _ _ _ (s₁.setTop (mkF m 53 #[.val (.int x0), .val (.int (x0 &&& (255 : Int32))), .val (.int (1 : Int32)), .val (.int (0 : Int32)), .val (.int (1 : Int32))] []))
        refine Ends.by ?_ (fun _ k => XS.iloadN X0.here hx rfl (hb hby at_53) rfl k)
        show Ends p e below s _ _ _ (s₁.setTop (mkF m 54 #[.val (.int x0), .val (.int (x0 &&& (255 : Int32))), .val (.int (1 : Int32)), .val (.int (0 : Int32)), .val (.int (1 : Int32))] [(.int (x0 &&& (255 : Int32)))]))
        obtain ⟨v31, _, ⟨T31, L31, k31, n31⟩, -, X31, ⟨Lc31, hQ31, l31, y31, z31⟩, st31⟩ := Jvm.LawKit.callS X0 hx (y := (⟨"quotewright/CaptureTime", "isRead", "(I)Z"⟩ : MethodName)) hown (mvT hZ (hw _ (List.mem_of_getElem? (i := 0) rfl))) (mvT hZ (hw _ (List.mem_of_getElem? (i := 1) rfl))) (mvT hZ (hw _ (List.mem_of_getElem? (i := 2) rfl))) (mvT hZ (hw _ (List.mem_of_getElem? (i := 3) rfl))) (by decide) (backOf (W := 0) (rm1 l Z a0 hw [] (x0 &&& (255 : Int32)) h0 n0 Z0) hZ (hw _ (List.mem_of_getElem? (i := 3) rfl)) (hw _ (List.mem_of_getElem? (i := 2) rfl)) (by decide) (by decide)) (g := (mkF m 54 #[.val (.int x0), .val (.int (x0 &&& (255 : Int32))), .val (.int (1 : Int32)), .val (.int (0 : Int32)), .val (.int (1 : Int32))] [(.int (x0 &&& (255 : Int32)))])) rfl (by rw [hml]; rfl) (argsL := [(.int (x0 &&& (255 : Int32)))]) (rest := []) (lenOf pd_0 rfl) rfl (by show 2 * 0 + _ ≤ _; exact Nat.le_of_eq rfl) (hb hby at_54) (fun _ _ => ⟨rfl, e0, (by decide : 0 + 0 ≤ _), (by decide : 0 + 0 ≤ _)⟩)
        dsimp only [Pt.U, Pt.locs, Pt.cells, Pt.slots] at X31 l31 y31 z31 st31 hQ31
        subst l31 y31 z31
        obtain ⟨rfl, N31q, e31⟩ := hQ31
        have N31 := Fr.app N0 N31q
        refine Ends.by ?_ st31
        show Ends p e below s _ _ _ (T31.setTop (mkF m 57 #[.val (.int x0), .val (.int (x0 &&& (255 : Int32))), .val (.int (1 : Int32)), .val (.int (0 : Int32)), .val (.int (1 : Int32))] [(.int (f1 (x0 &&& (255 : Int32))))]))
        refine Ends.by ?_ (fun _ k => XS.iload X31.here hx rfl (hb hby at_57) rfl k)
        show Ends p e below s _ _ _ (T31.setTop (mkF m 59 #[.val (.int x0), .val (.int (x0 &&& (255 : Int32))), .val (.int (1 : Int32)), .val (.int (0 : Int32)), .val (.int (1 : Int32))] [(.int (1 : Int32)), (.int (f1 (x0 &&& (255 : Int32))))]))
        by_cases hc32 : (f1 (x0 &&& (255 : Int32))) = (1 : Int32)
        · have hv33 := hv30.trans (if_pos hc32)
          refine Ends.by ?_ (fun _ k => XS.icmpNo X31.here hx rfl (hb hby at_59) rfl (XT.ii_ne_f hc32) k)
          show Ends p e below s _ _ _ (T31.setTop (mkF m 62 #[.val (.int x0), .val (.int (x0 &&& (255 : Int32))), .val (.int (1 : Int32)), .val (.int (0 : Int32)), .val (.int (1 : Int32))] []))
          refine Ends.by ?_ (fun _ k => XS.iconst X31.here hx rfl (hb hby at_62) k)
          show Ends p e below s _ _ _ (T31.setTop (mkF m 63 #[.val (.int x0), .val (.int (x0 &&& (255 : Int32))), .val (.int (1 : Int32)), .val (.int (0 : Int32)), .val (.int (1 : Int32))] [(.int (1 : Int32))]))
          refine Ends.by ?_ (fun _ k => XS.goto X31.here hx rfl (pc0 := 63) (pc' := 67) rfl (hb hby at_63) (by decide) (by decide) k)
          show Ends p e below s _ _ _ (T31.setTop (mkF m 67 #[.val (.int x0), .val (.int (x0 &&& (255 : Int32))), .val (.int (1 : Int32)), .val (.int (0 : Int32)), .val (.int (1 : Int32))] [(.int (1 : Int32))]))
          exact Ends.retN X31 hx Bd.notSynchronized Bd.returns (t := .boolean) (by simp) (hb hby at_67) (w := (1 : Int32)) rfl ⟨by rw [hv33], N31, e31⟩ (by decide) (by decide)
        · have hv34 := hv30.trans (if_neg hc32)
          refine Ends.by ?_ (fun _ k => XS.icmpYes X31.here hx rfl (pc0 := 59) (pc' := 66) rfl (hb hby at_59) rfl (XT.ii_ne_t hc32) (by decide) (by decide) k)
          show Ends p e below s _ _ _ (T31.setTop (mkF m 66 #[.val (.int x0), .val (.int (x0 &&& (255 : Int32))), .val (.int (1 : Int32)), .val (.int (0 : Int32)), .val (.int (1 : Int32))] []))
          refine Ends.by ?_ (fun _ k => XS.iconst X31.here hx rfl (hb hby at_66) k)
          show Ends p e below s _ _ _ (T31.setTop (mkF m 67 #[.val (.int x0), .val (.int (x0 &&& (255 : Int32))), .val (.int (1 : Int32)), .val (.int (0 : Int32)), .val (.int (1 : Int32))] [(.int (0 : Int32))]))
          exact Ends.retN X31 hx Bd.notSynchronized Bd.returns (t := .boolean) (by simp) (hb hby at_67) (w := (0 : Int32)) rfl ⟨by rw [hv34], N31, e31⟩ (by decide) (by decide)
      · have hv35 := hv28.trans (if_neg hc29)
        refine Ends.by ?_ (fun _ k => XS.icmpNo X0.here hx rfl (hb hby at_29) rfl (XT.ii_gt_f hc29) k)
        show Ends p e below s _ _ _ (s₁.setTop (mkF m 32 #[.val (.int x0), .val (.int (x0 &&& (255 : Int32))), .val (.int (1 : Int32)), .unset, .unset] []))
        refine Ends.by ?_ (fun _ k => XS.iconst X0.here hx rfl (hb hby at_32) k)
        show Ends p e below s _ _ _ (s₁.setTop (mkF m 33 #[.val (.int x0), .val (.int (x0 &&& (255 : Int32))), .val (.int (1 : Int32)), .unset, .unset] [(.int (1 : Int32))]))
        refine Ends.by ?_ (fun _ k => XS.goto X0.here hx rfl (pc0 := 33) (pc' := 37) rfl (hb hby at_33) (by decide) (by decide) k)
        show Ends p e below s _ _ _ (s₁.setTop (mkF m 37 #[.val (.int x0), .val (.int (x0 &&& (255 : Int32))), .val (.int (1 : Int32)), .unset, .unset] [(.int (1 : Int32))]))
        refine Ends.by ?_ (fun _ k => XS.istoreN X0.here hx rfl (hb hby at_37) rfl (l' := #[.val (.int x0), .val (.int (x0 &&& (255 : Int32))), .val (.int (1 : Int32)), .val (.int (1 : Int32)), .unset]) rfl k)
        show Ends p e below s _ _ _ (s₁.setTop (mkF m 38 #[.val (.int x0), .val (.int (x0 &&& (255 : Int32))), .val (.int (1 : Int32)), .val (.int (1 : Int32)), .unset] []))
        refine Ends.by ?_ (fun _ k => XS.iloadN X0.here hx rfl (hb hby at_38) rfl k)
        show Ends p e below s _ _ _ (s₁.setTop (mkF m 39 #[.val (.int x0), .val (.int (x0 &&& (255 : Int32))), .val (.int (1 : Int32)), .val (.int (1 : Int32)), .unset] [(.int (1 : Int32))]))
        refine Ends.by ?_ (fun _ k => XS.ifYes X0.here hx rfl (pc0 := 39) (pc' := 46) rfl (hb hby at_39) rfl (XT.i0_ne_t (by decide)) (by decide) (by decide) k)
        show Ends p e below s _ _ _ (s₁.setTop (mkF m 46 #[.val (.int x0), .val (.int (x0 &&& (255 : Int32))), .val (.int (1 : Int32)), .val (.int (1 : Int32)), .unset] []))
        refine Ends.by ?_ (fun _ k => XS.iconst X0.here hx rfl (hb hby at_46) k)
        show Ends p e below s _ _ _ (s₁.setTop (mkF m 47 #[.val (.int x0), .val (.int (x0 &&& (255 : Int32))), .val (.int (1 : Int32)), .val (.int (1 : Int32)), .unset] [(.int (1 : Int32))]))
        refine Ends.by ?_ (fun _ k => XS.goto X0.here hx rfl (pc0 := 47) (pc' := 51) rfl (hb hby at_47) (by decide) (by decide) k)
        show Ends p e below s _ _ _ (s₁.setTop (mkF m 51 #[.val (.int x0), .val (.int (x0 &&& (255 : Int32))), .val (.int (1 : Int32)), .val (.int (1 : Int32)), .unset] [(.int (1 : Int32))]))
        refine Ends.by ?_ (fun _ k => XS.istore X0.here hx rfl (hb hby at_51) rfl (l' := #[.val (.int x0), .val (.int (x0 &&& (255 : Int32))), .val (.int (1 : Int32)), .val (.int (1 : Int32)), .val (.int (1 : Int32))]) rfl k)
        show Ends p e below s _ _ _ (s₁.setTop (mkF m 53 #[.val (.int x0), .val (.int (x0 &&& (255 : Int32))), .val (.int (1 : Int32)), .val (.int (1 : Int32)), .val (.int (1 : Int32))] []))
        refine Ends.by ?_ (fun _ k => XS.iloadN X0.here hx rfl (hb hby at_53) rfl k)
        show Ends p e below s _ _ _ (s₁.setTop (mkF m 54 #[.val (.int x0), .val (.int (x0 &&& (255 : Int32))), .val (.int (1 : Int32)), .val (.int (1 : Int32)), .val (.int (1 : Int32))] [(.int (x0 &&& (255 : Int32)))]))
        obtain ⟨v36, _, ⟨T36, L36, k36, n36⟩, -, X36, ⟨Lc36, hQ36, l36, y36, z36⟩, st36⟩ := Jvm.LawKit.callS X0 hx (y := (⟨"quotewright/CaptureTime", "isRead", "(I)Z"⟩ : MethodName)) hown (mvT hZ (hw _ (List.mem_of_getElem? (i := 0) rfl))) (mvT hZ (hw _ (List.mem_of_getElem? (i := 1) rfl))) (mvT hZ (hw _ (List.mem_of_getElem? (i := 2) rfl))) (mvT hZ (hw _ (List.mem_of_getElem? (i := 3) rfl))) (by decide) (backOf (W := 0) (rm1 l Z a0 hw [] (x0 &&& (255 : Int32)) h0 n0 Z0) hZ (hw _ (List.mem_of_getElem? (i := 3) rfl)) (hw _ (List.mem_of_getElem? (i := 2) rfl)) (by decide) (by decide)) (g := (mkF m 54 #[.val (.int x0), .val (.int (x0 &&& (255 : Int32))), .val (.int (1 : Int32)), .val (.int (1 : Int32)), .val (.int (1 : Int32))] [(.int (x0 &&& (255 : Int32)))])) rfl (by rw [hml]; rfl) (argsL := [(.int (x0 &&& (255 : Int32)))]) (rest := []) (lenOf pd_0 rfl) rfl (by show 2 * 0 + _ ≤ _; exact Nat.le_of_eq rfl) (hb hby at_54) (fun _ _ => ⟨rfl, e0, (by decide : 0 + 0 ≤ _), (by decide : 0 + 0 ≤ _)⟩)
        dsimp only [Pt.U, Pt.locs, Pt.cells, Pt.slots] at X36 l36 y36 z36 st36 hQ36
        subst l36 y36 z36
        obtain ⟨rfl, N36q, e36⟩ := hQ36
        have N36 := Fr.app N0 N36q
        refine Ends.by ?_ st36
        show Ends p e below s _ _ _ (T36.setTop (mkF m 57 #[.val (.int x0), .val (.int (x0 &&& (255 : Int32))), .val (.int (1 : Int32)), .val (.int (1 : Int32)), .val (.int (1 : Int32))] [(.int (f1 (x0 &&& (255 : Int32))))]))
        refine Ends.by ?_ (fun _ k => XS.iload X36.here hx rfl (hb hby at_57) rfl k)
        show Ends p e below s _ _ _ (T36.setTop (mkF m 59 #[.val (.int x0), .val (.int (x0 &&& (255 : Int32))), .val (.int (1 : Int32)), .val (.int (1 : Int32)), .val (.int (1 : Int32))] [(.int (1 : Int32)), (.int (f1 (x0 &&& (255 : Int32))))]))
        by_cases hc37 : (f1 (x0 &&& (255 : Int32))) = (1 : Int32)
        · have hv38 := hv35.trans (if_pos hc37)
          refine Ends.by ?_ (fun _ k => XS.icmpNo X36.here hx rfl (hb hby at_59) rfl (XT.ii_ne_f hc37) k)
          show Ends p e below s _ _ _ (T36.setTop (mkF m 62 #[.val (.int x0), .val (.int (x0 &&& (255 : Int32))), .val (.int (1 : Int32)), .val (.int (1 : Int32)), .val (.int (1 : Int32))] []))
          refine Ends.by ?_ (fun _ k => XS.iconst X36.here hx rfl (hb hby at_62) k)
          show Ends p e below s _ _ _ (T36.setTop (mkF m 63 #[.val (.int x0), .val (.int (x0 &&& (255 : Int32))), .val (.int (1 : Int32)), .val (.int (1 : Int32)), .val (.int (1 : Int32))] [(.int (1 : Int32))]))
          refine Ends.by ?_ (fun _ k => XS.goto X36.here hx rfl (pc0 := 63) (pc' := 67) rfl (hb hby at_63) (by decide) (by decide) k)
          show Ends p e below s _ _ _ (T36.setTop (mkF m 67 #[.val (.int x0), .val (.int (x0 &&& (255 : Int32))), .val (.int (1 : Int32)), .val (.int (1 : Int32)), .val (.int (1 : Int32))] [(.int (1 : Int32))]))
          exact Ends.retN X36 hx Bd.notSynchronized Bd.returns (t := .boolean) (by simp) (hb hby at_67) (w := (1 : Int32)) rfl ⟨by rw [hv38], N36, e36⟩ (by decide) (by decide)
        · have hv39 := hv35.trans (if_neg hc37)
          refine Ends.by ?_ (fun _ k => XS.icmpYes X36.here hx rfl (pc0 := 59) (pc' := 66) rfl (hb hby at_59) rfl (XT.ii_ne_t hc37) (by decide) (by decide) k)
          show Ends p e below s _ _ _ (T36.setTop (mkF m 66 #[.val (.int x0), .val (.int (x0 &&& (255 : Int32))), .val (.int (1 : Int32)), .val (.int (1 : Int32)), .val (.int (1 : Int32))] []))
          refine Ends.by ?_ (fun _ k => XS.iconst X36.here hx rfl (hb hby at_66) k)
          show Ends p e below s _ _ _ (T36.setTop (mkF m 67 #[.val (.int x0), .val (.int (x0 &&& (255 : Int32))), .val (.int (1 : Int32)), .val (.int (1 : Int32)), .val (.int (1 : Int32))] [(.int (0 : Int32))]))
          exact Ends.retN X36 hx Bd.notSynchronized Bd.returns (t := .boolean) (by simp) (hb hby at_67) (w := (0 : Int32)) rfl ⟨by rw [hv39], N36, e36⟩ (by decide) (by decide)

theorem own_mask (x : Int32) : ∃ n : Nat, n < 256 ∧ x &&& (255 : Int32) = Int32.ofNat n := by
  have h := c_mask x 255 8 (by decide) (by decide)
  refine ⟨((x &&& (255 : Int32)).toInt).toNat, by omega, ?_⟩
  apply Int32.toInt_inj.mp
  rw [Int32.toInt_ofNat_small (by omega)]
  omega
theorem own_law (x : Int32) : f0 x = 1 := by
  obtain ⟨n, hn, e⟩ := own_mask x
  unfold f0
  rw [e]
  clear e
  revert n
  decide +kernel
set_option maxRecDepth 65536 in
set_option maxHeartbeats 40000000 in
theorem comes_1 {Post : Tables → Env → Array Value → State → Outcome → State → Prop} (hpost : ∀ tb e args s v u, (limb_1_1.after args s (.returned v) u = true ∧ limb_1_2.after args s (.returned v) u = true ∧ True) → FrameEnd s (.returned v) u (Jvm.fieldLocs frame_1_writes args s ++ Jvm.arrayLocs frame_1_arrays args s ++ Jvm.staticLocs frame_1_statics s) 0 0 → Post tb e args s (.returned v) u) :
    ArmFor flags0 classFile x code maxLocals ret World_1 tables_1 room_1 Calls_1 rest_1 Pre_1 Post := by
  intro l hfl _ _ p e ha hc hk s m args below hf hA hF happ hP
  obtain ⟨hcalls, hrest, hpre⟩ := hP
  obtain ⟨-, -, -, hnamed, -, -, -, hat⟩ := (Spec.applies_iff hf).mp happ
  obtain ⟨hg, hn⟩ := and_e (Cond.before_iff.mp (show (Jvm.Cond.and given_1 narrow_1).before args s = true from hpre))
  obtain ⟨g1, g2⟩ := and_e hg
  obtain ⟨w0, rfl⟩ : ∃ w0 : Value, args = #[w0] := by
    have hs : args.size = 1 := by simpa [Cond.value, given_1] using g1
    obtain ⟨L⟩ := args
    match L, hs with
    | [w0], _ => exact ⟨w0, rfl⟩
  have hw := fun d (hd : d ∈ tables_1) => atoms_spec (ws := Jvm.Cond.code x code maxLocals ret :: tables_1) hat d (List.mem_cons_of_mem _ hd)
  obtain ⟨i0, ei0⟩ := is_v g2
  obtain rfl : w0 = (.int i0) := Option.some.inj ei0
  obtain ⟨n, o, h1, h2, h3, v, L, rfl, hQ, hq⟩ := rm0 l s _ hw tables_1 i0 s.heap s.heap.size (Nat.le_refl _) p e ha hc hk s m _ below hf ((Spec.applies_iff_loose hf).mp happ).1 ⟨rfl, State.Warmed39.refl s, rfl⟩ trivial
  rw [own_law] at hQ
  obtain ⟨rfl, N, -⟩ := hQ
  refine ⟨n, _, h1, h2, h3, hpost _ _ _ _ _ _ ⟨Cond.after_iff.mpr rfl, Cond.after_iff.mpr (eq_i res_at (Term.int_eval (1)) rfl), trivial⟩ ⟨hq.1, hq.2.1, (hq.2.2.sift fun y hy => Or.inr (N y hy)).mono (by decide) (by decide)⟩⟩
theorem main_1_1 : Claimed_1_1 := comes_1 fun _ _ _ _ _ _ h hF => ⟨h.1, hF⟩
theorem main_1_2 : Claimed_1_2 := comes_1 fun _ _ _ _ _ _ h hF => ⟨h.2.1, hF⟩
end Jvm.Pilot.@@N@@
namespace Jvm.Pilot.@@N@@
open Jvm Jvm.ClassFile Sem Op Lib Jvm.Free Jvm.Stand Jvm.Pilot.@@N@@.Jvm.D
/-! MADE BY PROGRAM (witnessworld.py) out of the Statement's table words and the real class files: 7 classes; the members and pool entries that the words name. The judged class is class 1, her method 1. -/
namespace start1
open Jvm.ClassFile
def u (s : String) : CpInfo := .utf8 (stringToUtf16 s)
/-- a pool by its gaps: so many unusable entries, then the entry; so many at the end -/
def gap : Nat → List CpInfo → List CpInfo
  | 0, r => r
  | n + 1, r => .unusable :: gap n r
def poolList (es : List (Nat × CpInfo)) (last : Nat) : List CpInfo := es.foldr (fun e r => gap e.1 (e.2 :: r)) (gap last [])
def pool (es : List (Nat × CpInfo)) (last : Nat) : Array CpInfo := ⟨poolList es last⟩
def fileOf (pool : Array CpInfo) (this : Nat) (attrs : Array Attribute := #[]) (ms : Array MethodInfo := #[]) (fl : Nat := 33) (sup : Nat := 0) (ifs : Array Nat := #[]) (fds : Array FieldInfo := #[]) : ClassFile where
  minorVersion := 0
  majorVersion := 65
  constantPool := pool
  accessFlags := fl
  thisClass := this
  superClass := sup
  interfaces := ifs
  fields := fds
  methods := ms
  attributes := attrs
def plain (name : String) (sup : Option ClassId) : Class where
  name := name
  kind := .ordinary
  loader := none
  accessFlags := 33
  super := sup
  interfaces := #[]
  cf := none
  fields := #[]
  methods := #[]
  instanceTypes := #[]
  staticTypes := #[]
  resolved := #[]
  callSites := []
  init := .initialized
  statics := none
  mirror := none

def pool0 : Array CpInfo := pool [(5, u "<init>"), (0, u "()V"), (1, .class_ 10), (1, u "java/lang/Object")] 113

def k0m0 : Method := { name := "<init>", desc := "()V", sig := { parameters := [], returnType := none }, accessFlags := 1, code := none }
/-- java/lang/Object -/
def k0 : Class := { plain "java/lang/Object" none with
  accessFlags := 33
  interfaces := #[]
  cf := some (fileOf pool0 8 #[] #[{ accessFlags := 1, nameIndex := 5, descriptorIndex := 6, attributes := #[] }] 33 0 #[] #[])
  fields := #[]
  methods := #[k0m0]
  instanceTypes := #[]
  staticTypes := #[]
  resolved := Array.replicate 124 none
  statics := none }

def pool1 : Array CpInfo := pool [(2, .class_ 4), (1, u "java/lang/Object"), (0, u "<init>"), (0, u "()V"), (0, .methodref 8 9), (0, .class_ 10), (0, .nameAndType 11 12), (0, u "quotewright/CaptureTime"), (0, u "isRead"), (0, u "(I)Z"), (0, .class_ 14), (0, u "quotewright/CaptureTimeIsReadPinLaw"), (2, u "law")] 3

def k1m0 : Method := { name := "<init>", desc := "()V", sig := { parameters := [], returnType := none }, accessFlags := 2, code := none }
def k1c1 : Code := { maxStack := 2, maxLocals := 5, code := code, exceptionTable := #[], attributes := #[] }
def k1m1 : Method := { name := "law", desc := "(I)Z", sig := { parameters := [.int], returnType := some .boolean }, accessFlags := 9, code := some k1c1 }
/-- quotewright/CaptureTimeIsReadPinLaw -/
def k1 : Class := { plain "quotewright/CaptureTimeIsReadPinLaw" (some 0) with
  accessFlags := 49
  interfaces := #[]
  cf := some (fileOf pool1 13 #[] #[{ accessFlags := 2, nameIndex := 5, descriptorIndex := 6, attributes := #[] }, { accessFlags := 9, nameIndex := 17, descriptorIndex := 12, attributes := #[] }] 49 2 #[] #[])
  fields := #[]
  methods := #[k1m0, k1m1]
  instanceTypes := #[]
  staticTypes := #[]
  resolved := Array.replicate 21 none
  statics := none }

def pool2 : Array CpInfo := pool [(2, .class_ 4), (1, u "java/lang/Object"), (0, u "<init>"), (0, u "()V"), (1, .class_ 10), (1, u "quotewright/CaptureTime"), (0, u "POWERS_OF_TEN"), (0, u "[J"), (38, u "epochSecond"), (0, u "J"), (2, u "nanoOfSecond"), (0, u "I"), (2, u "fractionDigits"), (13, u "MICROSECONDS"), (2, u "NANOSECONDS"), (1, u "BINARY"), (1, u "FINEST_DECIMAL"), (1, u "FINEST_BINARY"), (1, u "FIRST_SECOND"), (0, u "LAST_SECOND"), (4, u "isRead"), (0, u "(I)Z")] 28

def k2m0 : Method := { name := "<init>", desc := "()V", sig := { parameters := [], returnType := none }, accessFlags := 0, code := none }
def k2c1 : Code := { maxStack := 2, maxLocals := 1, code := prog_6_method_3_code, exceptionTable := #[], attributes := #[] }
def k2m1 : Method := { name := "isRead", desc := "(I)Z", sig := { parameters := [.int], returnType := some .boolean }, accessFlags := 8, code := some k2c1 }
/-- quotewright/CaptureTime -/
def k2 : Class := { plain "quotewright/CaptureTime" (some 0) with
  accessFlags := 48
  interfaces := #[]
  cf := some (fileOf pool2 8 #[] #[{ accessFlags := 0, nameIndex := 5, descriptorIndex := 6, attributes := #[] }, { accessFlags := 8, nameIndex := 90, descriptorIndex := 91, attributes := #[] }] 48 2 #[] #[{ accessFlags := 24, nameIndex := 73, descriptorIndex := 56, attributes := #[] }, { accessFlags := 24, nameIndex := 76, descriptorIndex := 56, attributes := #[] }, { accessFlags := 26, nameIndex := 78, descriptorIndex := 56, attributes := #[] }, { accessFlags := 26, nameIndex := 80, descriptorIndex := 56, attributes := #[] }, { accessFlags := 26, nameIndex := 82, descriptorIndex := 56, attributes := #[] }, { accessFlags := 26, nameIndex := 84, descriptorIndex := 52, attributes := #[] }, { accessFlags := 26, nameIndex := 85, descriptorIndex := 52, attributes := #[] }, { accessFlags := 26, nameIndex := 11, descriptorIndex := 12, attributes := #[] }, { accessFlags := 2, nameIndex := 51, descriptorIndex := 52, attributes := #[] }, { accessFlags := 2, nameIndex := 55, descriptorIndex := 56, attributes := #[] }, { accessFlags := 2, nameIndex := 59, descriptorIndex := 56, attributes := #[] }])
  fields := #[{ name := "MICROSECONDS", type := .int, accessFlags := 24, slot := 0, constantValue := 0 }, { name := "NANOSECONDS", type := .int, accessFlags := 24, slot := 1, constantValue := 0 }, { name := "BINARY", type := .int, accessFlags := 26, slot := 2, constantValue := 0 }, { name := "FINEST_DECIMAL", type := .int, accessFlags := 26, slot := 3, constantValue := 0 }, { name := "FINEST_BINARY", type := .int, accessFlags := 26, slot := 4, constantValue := 0 }, { name := "FIRST_SECOND", type := .long, accessFlags := 26, slot := 5, constantValue := 0 }, { name := "LAST_SECOND", type := .long, accessFlags := 26, slot := 6, constantValue := 0 }, { name := "POWERS_OF_TEN", type := (.array .long), accessFlags := 26, slot := 7, constantValue := 0 }, { name := "epochSecond", type := .long, accessFlags := 2, slot := 0, constantValue := 0 }, { name := "nanoOfSecond", type := .int, accessFlags := 2, slot := 1, constantValue := 0 }, { name := "fractionDigits", type := .int, accessFlags := 2, slot := 2, constantValue := 0 }]
  methods := #[k2m0, k2m1]
  instanceTypes := #[.long, .int, .int]
  staticTypes := #[.int, .int, .int, .int, .int, .long, .long, (.array .long)]
  resolved := Array.replicate 120 none
  statics := none }

def pool3 : Array CpInfo := pool [(1, u "java/lang/Cloneable"), (0, .class_ 1), (0, u "java/lang/Object"), (0, .class_ 3)] 3

/-- java/lang/Cloneable -/
def k3 : Class := { plain "java/lang/Cloneable" (some 0) with
  accessFlags := 1537
  interfaces := #[]
  cf := some (fileOf pool3 2 #[] #[] 1537 4 #[] #[])
  fields := #[]
  methods := #[]
  instanceTypes := #[]
  staticTypes := #[]
  resolved := Array.replicate 8 none
  statics := none }

def pool4 : Array CpInfo := pool [(1, u "java/io/Serializable"), (0, .class_ 1), (0, u "java/lang/Object"), (0, .class_ 3)] 3

/-- java/io/Serializable -/
def k4 : Class := { plain "java/io/Serializable" (some 0) with
  accessFlags := 1537
  interfaces := #[]
  cf := some (fileOf pool4 2 #[] #[] 1537 4 #[] #[])
  fields := #[]
  methods := #[]
  instanceTypes := #[]
  staticTypes := #[]
  resolved := Array.replicate 8 none
  statics := none }

/-- the primitive byte -/
def k5 : Class := { plain "byte" none with kind := .primitive 'B', accessFlags := 0x411 }
/-- [B -/
def k6 : Class := { plain "[B" (some 0) with kind := .array 5 .byte, interfaces := #[3, 4], accessFlags := 1041 }

def heap : Heap := #[]
def classes : Array Class := #[k0, k1, k2, k3, k4, k5, k6]
def interned : List (Array UInt16 × Addr) := []
def slotsUsed : Nat := 0
def theMethod : MethodId := ⟨1, 1⟩
def args0 : Array Value := #[.int 5]
def aboutOver (below : List Frame) : State where
  vm := { classes := classes, interned := interned.toArray }
  heap := heap
  slotsUsed := slotsUsed
  threads := #[{ frames := .invoking theMethod args0 :: below }]
def below0 : List Frame := [.native { method := ⟨0, 0⟩, args := #[] }]
def about1 : State := aboutOver below0
def p0 : Program := .bare "" "" ""
def e0 : Env := launch0.env 0 0 0
theorem w_frames : about1.frames = Frame.invoking theMethod args0 :: below0 := rfl
set_option maxRecDepth 65536 in
theorem w_args : argsFit about1.vm theMethod args0 = true := by decide +kernel
set_option maxRecDepth 65536 in
theorem w_heap : heapFits about1 = true := by decide +kernel
set_option maxRecDepth 65536 in
theorem w_runnable : about1.curStatus? = some .runnable := by decide +kernel
set_option maxRecDepth 65536 in
theorem w_alone : about1.alone = true := by decide +kernel
set_option maxRecDepth 65536 in
theorem w_named : about1.methodNamed? x = some theMethod := by decide +kernel
set_option maxRecDepth 65536 in
theorem w_hears : about1.hears theMethod below0 = true := by decide +kernel
set_option maxRecDepth 65536 in
theorem w_ripe : about1.ripe theMethod args0 below0 = true := by decide +kernel
theorem w_running : about1.status = .running := rfl
set_option maxRecDepth 65536 in
theorem w_room : about1.hasRoom e0.platform room_1 = true :=
  launch0.hasRoom_least _ room_1 (by decide +kernel) (by decide +kernel) (by decide +kernel) (by decide +kernel) (by decide +kernel) (by decide +kernel)
theorem allAtoms_all (ts : List Jvm.Cond) (a : Array Jvm.Value) (st : Jvm.State) : (allAtoms ts).before a st = ts.all (fun c => c.before a st) := by
  induction ts with
  | nil => rfl
  | cons c t ih =>
    show (Jvm.Cond.and c (allAtoms t)).before a st = _
    rw [Jvm.Cond.before_and, ih, List.all_cons]
def words1 : List Jvm.Cond := Jvm.Cond.code x code maxLocals ret :: tables_1
/-- a 'code' word, met by the world's own term for the bytes: nothing is compared byte by byte -/
theorem code_word {y : MethodName} {bytes : ByteArray} {mx : Nat} {rt : Option FieldType} {a : Array Value} {s : State} {m : MethodId} {meth : Method} {c : Code} (h1 : s.methodNamed? y = some m) (h2 : s.vm.method? m = some meth) (h3 : meth.code = some c) (h4 : c.code = bytes)
    (h5 : (c.maxLocals == mx && c.exceptionTable.isEmpty && decide (c.maxStack ≤ mostOperands) && decide (meth.sig.returnType = rt) && !meth.locks && decide (parseMethodDescriptor y.desc = some meth.sig)) = true) : (Jvm.Cond.code y bytes mx rt).before a s = true := by
  simp only [Bool.and_eq_true, beq_iff_eq, Bool.not_eq_true', decide_eq_true_eq] at h5
  obtain ⟨⟨⟨⟨⟨g1, g2⟩, g3⟩, g4⟩, g5⟩, g6⟩ := h5
  simp [Cond.before, Cond.holds, Cond.value, h1, h2, h3, h4, g1, g2, g3, g4, g5, g6]
def isCode : Jvm.Cond → Bool
  | .code _ _ _ _ => true
  | _ => false
theorem all_split {L : List Jvm.Cond} {P : Jvm.Cond → Bool} (h1 : L.all (fun c => isCode c || P c) = true) (h2 : ∀ c ∈ L.filter isCode, P c = true) : L.all P = true := by
  refine List.all_eq_true.mpr fun c hc => ?_
  have h := List.all_eq_true.mp h1 c hc
  rcases Bool.eq_false_or_eq_true (isCode c) with hi | hi
  · exact h2 c (List.mem_filter.mpr ⟨hc, hi⟩)
  · simpa [hi] using h
set_option maxRecDepth 65536 in
theorem w_c0 : (Jvm.Cond.code x code maxLocals ret).before args0 about1 = true := code_word (m := ⟨1, 1⟩) (meth := k1m1) (c := k1c1) (by decide +kernel) rfl rfl rfl (by decide +kernel)
set_option maxRecDepth 65536 in
theorem w_c1 : (Jvm.Cond.code ({ cls := "quotewright/CaptureTime", name := "isRead", desc := "(I)Z" } : Jvm.MethodName) prog_6_method_3_code (1 : Nat) (Option.some Jvm.ClassFile.FieldType.boolean)).before args0 about1 = true := code_word (m := ⟨2, 1⟩) (meth := k2m1) (c := k2c1) (by decide +kernel) rfl rfl rfl (by decide +kernel)
def codes1 : List Jvm.Cond := [Jvm.Cond.code x code maxLocals ret, Jvm.Cond.code ({ cls := "quotewright/CaptureTime", name := "isRead", desc := "(I)Z" } : Jvm.MethodName) prog_6_method_3_code (1 : Nat) (Option.some Jvm.ClassFile.FieldType.boolean)]
set_option maxRecDepth 65536 in
theorem codes_eq : words1.filter isCode = codes1 := rfl
theorem w_codes : ∀ c ∈ words1.filter isCode, c.before args0 about1 = true := by
  rw [codes_eq]
  intro c hc
  simp only [codes1, List.mem_cons, List.not_mem_nil, or_false] at hc
  rcases hc with rfl | rfl
  · exact w_c0
  · exact w_c1
set_option maxRecDepth 65536 in
theorem w_t1 : words1.all (fun c => isCode c || c.before args0 about1) = true := by decide +kernel
theorem w_tables : (allAtoms (Jvm.Cond.code x code maxLocals ret :: tables_1)).before args0 about1 = true := by
  rw [allAtoms_all]
  show words1.all (fun c => c.before args0 about1) = true
  refine all_split ?_ w_codes
  rw [w_t1]
set_option maxRecDepth 65536 in
theorem w_case : (Jvm.Cond.and given_1 narrow_1).before args0 about1 = true := by decide +kernel
theorem w_applies : (headSpec (Jvm.Cond.code x code maxLocals ret :: tables_1) room_1).applies x e0.platform about1 = true :=
  (Spec.applies_iff w_frames).mpr ⟨w_running, w_runnable, w_alone, w_named, w_hears, w_ripe, w_room, w_tables⟩
theorem atStart : AtStart classFile x code maxLocals ret World_1 tables_1 room_1 Calls_1 rest_1 Pre_1 launch0 p0 e0 about1 theMethod args0 below0 :=
  ⟨lists_1, trivial, launch0.admits_env _ _ _, launch0.least_env, fairChoices_fair.cas, fairChoices_fair.clock, w_frames, w_args, w_heap, w_applies, trivial, trivial, w_case⟩
end start1
theorem witness_1 : WitnessClaimed_1 := ⟨start1.p0, start1.e0, start1.about1, start1.theMethod, start1.args0, start1.below0, start1.atStart⟩
end Jvm.Pilot.@@N@@
