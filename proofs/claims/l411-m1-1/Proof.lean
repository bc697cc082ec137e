import JvmDerived
import JvmDerived.Pilot.@@N@@Statement
import JvmDerived.Pilot.@@N@@Code
set_option linter.unusedVariables false
set_option linter.unusedSimpArgs false
namespace Jvm.Pilot.@@N@@
open Jvm Jvm.ClassFile Sem Op Lib Jvm.Free Jvm.Stand Jvm.LawKit Jvm.RoadKit Bundle Jvm.Pilot.@@N@@.Jvm.D
section Own
variable {p : Program} {l : Launch} {e : Env} {R : Room} {s : State} {m : MethodId} {args : Array Value} {below : List Frame} {meth : Method} {c : Code} {T : State} {locs : List Loc} {cells slots : Nat}
/-- from u the walk comes to its return, with what Q says of value, heap and the places written -/
def Ends (p : Program) (e : Env) (below : List Frame) (s : State) (Q : Option Value → Heap → List Loc → Prop) (kc ks : Nat) (u : State) : Prop :=
  ∃ s₂ o, Steps p.tables e below u s₂ ∧ s₂.status = .running ∧ Ended s₂ below o ∧ ∃ v L, o = .returned v ∧ Q v s₂.heap L ∧ FrameEnd s o s₂ L kc ks
variable {Q : Option Value → Heap → List Loc → Prop} {kc ks : Nat} {u u' : State}
theorem Ends.by (k : Ends p e below s Q kc ks u') (h : ∀ t, Steps p.tables e below u' t → Steps p.tables e below u t) : Ends p e below s Q kc ks u := by
  obtain ⟨s₂, o, h1, r⟩ := k
  exact ⟨s₂, o, h _ h1, r⟩
theorem Ends.go (h : Steps p.tables e below u u') (k : Ends p e below s Q kc ks u') : Ends p e below s Q kc ks u := k.by fun _ q => h.trans q
theorem Ends.retN (X : Stand p l e R s m args below meth c T locs cells slots) (hx : p.tables.exec = Jvm.exec) (hlk : meth.locks = false) {t : FieldType} (hret : meth.sig.returnType = some t) (ht : t = .boolean ∨ t = .byte ∨ t = .char ∨ t = .short) {pc : Nat} {Ls : Array Slot} {z w : Int32} {rest : List Value}
    (hd : decode c.code pc = .ok (.ireturn, 1)) (hz : nar t z = w) (hQ : Q (some (.int w)) T.heap locs) (hc : cells ≤ kc) (hs : slots ≤ ks) : Ends p e below s Q kc ks (T.setTop (mkF m pc Ls (.int z :: rest))) := by
  subst hz
  obtain ⟨fs, hr, hrun, hended, hW, hsame⟩ := X.leave (v := some (.int (nar t z))) (fun h => by rw [hret] at h; cases h) hlk
  exact ⟨_, _, Jvm.RoadKit.retN X hx hret ht hd hr, hrun, hended, _, _, rfl, hQ, ⟨_, rfl⟩, hW, hsame.mono hc hs⟩
theorem Ends.retI (X : Stand p l e R s m args below meth c T locs cells slots) (hx : p.tables.exec = Jvm.exec) (hlk : meth.locks = false) (hret : meth.sig.returnType = some .int) {pc : Nat} {Ls : Array Slot} {z : Int32} {rest : List Value}
    (hd : decode c.code pc = .ok (.ireturn, 1)) (hQ : Q (some (.int z)) T.heap locs) (hc : cells ≤ kc) (hs : slots ≤ ks) : Ends p e below s Q kc ks (T.setTop (mkF m pc Ls (.int z :: rest))) := by
  obtain ⟨fs, hr, hrun, hended, hW, hsame⟩ := X.leave (v := some (.int z)) (fun h => by rw [hret] at h; cases h) hlk
  exact ⟨_, _, Jvm.RoadKit.retOut X hx hret rfl (Or.inl ⟨rfl, by simp, z, rfl⟩) hd hr, hrun, hended, _, _, rfl, hQ, ⟨_, rfl⟩, hW, hsame.mono hc hs⟩
theorem Ends.retJ (X : Stand p l e R s m args below meth c T locs cells slots) (hx : p.tables.exec = Jvm.exec) (hlk : meth.locks = false) (hret : meth.sig.returnType = some .long) {pc : Nat} {Ls : Array Slot} {z : Int64} {rest : List Value}
    (hd : decode c.code pc = .ok (.lreturn, 1)) (hQ : Q (some (.long z)) T.heap locs) (hc : cells ≤ kc) (hs : slots ≤ ks) : Ends p e below s Q kc ks (T.setTop (mkF m pc Ls (.long z :: rest))) := by
  obtain ⟨fs, hr, hrun, hended, hW, hsame⟩ := X.leave (v := some (.long z)) (fun h => by rw [hret] at h; cases h) hlk
  exact ⟨_, _, Jvm.RoadKit.retOut X hx hret rfl (Or.inr (Or.inl ⟨rfl, rfl, z, rfl⟩)) hd hr, hrun, hended, _, _, rfl, hQ, ⟨_, rfl⟩, hW, hsame.mono hc hs⟩
theorem Ends.retA (X : Stand p l e R s m args below meth c T locs cells slots) (hx : p.tables.exec = Jvm.exec) (hlk : meth.locks = false) {t : FieldType} (hret : meth.sig.returnType = some t) (ht : t.isReference = true) (hn : ∀ a, narrow t (.ref a) = .ref a) {pc : Nat} {Ls : Array Slot} {a : Addr} {rest : List Value}
    (hd : decode c.code pc = .ok (.areturn, 1)) (hQ : Q (some (.ref a)) T.heap locs) (hc : cells ≤ kc) (hs : slots ≤ ks) : Ends p e below s Q kc ks (T.setTop (mkF m pc Ls (.ref a :: rest))) := by
  obtain ⟨fs, hr, hrun, hended, hW, hsame⟩ := X.leave (v := some (.ref a)) (fun h => by rw [hret] at h; cases h) hlk
  exact ⟨_, _, Jvm.RoadKit.retOut X hx hret (hn a) (Or.inr (Or.inr (Or.inr (Or.inr ⟨rfl, ht, rfl⟩)))) hd hr, hrun, hended, _, _, rfl, hQ, ⟨_, rfl⟩, hW, hsame.mono hc hs⟩
theorem Ends.retV (X : Stand p l e R s m args below meth c T locs cells slots) (hx : p.tables.exec = Jvm.exec) (hlk : meth.locks = false) (hret : meth.sig.returnType = none) {pc : Nat} {Ls : Array Slot}
    (hd : decode c.code pc = .ok (.return_, 1)) (hQ : Q none T.heap locs) (hc : cells ≤ kc) (hs : slots ≤ ks) : Ends p e below s Q kc ks (T.setTop (mkF m pc Ls [])) := by
  obtain ⟨fs, hr, hrun, hended, hW, hsame⟩ := X.leave (v := none) (fun _ => rfl) hlk
  exact ⟨_, _, X.returnOut hx hret hd hr, hrun, hended, _, _, rfl, hQ, ⟨_, rfl⟩, hW, hsame.mono hc hs⟩
theorem lremM {g : JFrame} {target : State} (X : Stand p l e R s m args below meth c T locs cells slots) (hx : p.tables.exec = Jvm.exec) (hg : g.method = m) {x y : Int64} {rest : List Value} (hd : decode c.code g.pc = .ok (.lrem, 1)) (hs : g.stack = .long y :: .long x :: rest) (hy : y ≠ 0)
    (hr : Steps p.tables e below (T.setTop { g with pc := g.pc + 1, stack := .long (x % y) :: rest }) target) : Steps p.tables e below (T.setTop g) target :=
  XS.lrem X.here hx hg hd hs hy (by rw [lrem_mod x y]; exact hr)
/-- a method that writes nothing: what it returns, the heap as it was -/
def QP (V : Option Value) (h0 : Heap) (n0 : Nat) (v : Option Value) (h : Heap) (L : List Loc) : Prop := v = V ∧ Fr n0 L ∧ h = h0
/-- a law: it returns 1; nothing old is written -/
def QL (n0 : Nat) (v : Option Value) (_ : Heap) (L : List Loc) : Prop := v = some (.int 1) ∧ Fr n0 L
end Own
theorem d1_195 : decode prog_272_method_5_code 195 = .ok (.iconst 0, 1) := by decide +kernel
theorem d1_196 : decode prog_272_method_5_code 196 = .ok (.ireturn, 1) := by decide +kernel
theorem d1_191 : decode prog_272_method_5_code 191 = .ok (.iconst 1, 1) := by decide +kernel
theorem d1_192 : decode prog_272_method_5_code 192 = .ok (.goto 4, 3) := by decide +kernel
theorem d1_179 : decode prog_272_method_5_code 179 = .ok (.iload_n 0, 1) := by decide +kernel
theorem d1_180 : decode prog_272_method_5_code 180 = .ok (.ldc 28, 2) := by decide +kernel
theorem d1_182 : decode prog_272_method_5_code 182 = .ok (.if_icmp .lt 13, 3) := by decide +kernel
theorem d1_185 : decode prog_272_method_5_code 185 = .ok (.iload_n 0, 1) := by decide +kernel
theorem d1_186 : decode prog_272_method_5_code 186 = .ok (.ldc 29, 2) := by decide +kernel
theorem d1_188 : decode prog_272_method_5_code 188 = .ok (.if_icmp .gt 7, 3) := by decide +kernel
theorem d1_167 : decode prog_272_method_5_code 167 = .ok (.iload_n 0, 1) := by decide +kernel
theorem d1_168 : decode prog_272_method_5_code 168 = .ok (.ldc 26, 2) := by decide +kernel
theorem d1_170 : decode prog_272_method_5_code 170 = .ok (.if_icmp .lt 9, 3) := by decide +kernel
theorem d1_173 : decode prog_272_method_5_code 173 = .ok (.iload_n 0, 1) := by decide +kernel
theorem d1_174 : decode prog_272_method_5_code 174 = .ok (.ldc 27, 2) := by decide +kernel
theorem d1_176 : decode prog_272_method_5_code 176 = .ok (.if_icmp .le 15, 3) := by decide +kernel
theorem d1_155 : decode prog_272_method_5_code 155 = .ok (.iload_n 0, 1) := by decide +kernel
theorem d1_156 : decode prog_272_method_5_code 156 = .ok (.ldc 24, 2) := by decide +kernel
theorem d1_158 : decode prog_272_method_5_code 158 = .ok (.if_icmp .lt 9, 3) := by decide +kernel
theorem d1_161 : decode prog_272_method_5_code 161 = .ok (.iload_n 0, 1) := by decide +kernel
theorem d1_162 : decode prog_272_method_5_code 162 = .ok (.ldc 25, 2) := by decide +kernel
theorem d1_164 : decode prog_272_method_5_code 164 = .ok (.if_icmp .le 27, 3) := by decide +kernel
theorem d1_142 : decode prog_272_method_5_code 142 = .ok (.iload_n 0, 1) := by decide +kernel
theorem d1_143 : decode prog_272_method_5_code 143 = .ok (.sipush 12289, 3) := by decide +kernel
theorem d1_146 : decode prog_272_method_5_code 146 = .ok (.if_icmp .lt 9, 3) := by decide +kernel
theorem d1_149 : decode prog_272_method_5_code 149 = .ok (.iload_n 0, 1) := by decide +kernel
theorem d1_150 : decode prog_272_method_5_code 150 = .ok (.ldc 23, 2) := by decide +kernel
theorem d1_152 : decode prog_272_method_5_code 152 = .ok (.if_icmp .le 39, 3) := by decide +kernel
theorem d1_128 : decode prog_272_method_5_code 128 = .ok (.iload_n 0, 1) := by decide +kernel
theorem d1_129 : decode prog_272_method_5_code 129 = .ok (.sipush 11264, 3) := by decide +kernel
theorem d1_132 : decode prog_272_method_5_code 132 = .ok (.if_icmp .lt 10, 3) := by decide +kernel
theorem d1_135 : decode prog_272_method_5_code 135 = .ok (.iload_n 0, 1) := by decide +kernel
theorem d1_136 : decode prog_272_method_5_code 136 = .ok (.sipush 12271, 3) := by decide +kernel
theorem d1_139 : decode prog_272_method_5_code 139 = .ok (.if_icmp .le 52, 3) := by decide +kernel
theorem d1_114 : decode prog_272_method_5_code 114 = .ok (.iload_n 0, 1) := by decide +kernel
theorem d1_115 : decode prog_272_method_5_code 115 = .ok (.sipush 8304, 3) := by decide +kernel
theorem d1_118 : decode prog_272_method_5_code 118 = .ok (.if_icmp .lt 10, 3) := by decide +kernel
theorem d1_121 : decode prog_272_method_5_code 121 = .ok (.iload_n 0, 1) := by decide +kernel
theorem d1_122 : decode prog_272_method_5_code 122 = .ok (.sipush 8591, 3) := by decide +kernel
theorem d1_125 : decode prog_272_method_5_code 125 = .ok (.if_icmp .le 66, 3) := by decide +kernel
theorem d1_100 : decode prog_272_method_5_code 100 = .ok (.iload_n 0, 1) := by decide +kernel
theorem d1_101 : decode prog_272_method_5_code 101 = .ok (.sipush 8204, 3) := by decide +kernel
theorem d1_104 : decode prog_272_method_5_code 104 = .ok (.if_icmp .lt 10, 3) := by decide +kernel
theorem d1_107 : decode prog_272_method_5_code 107 = .ok (.iload_n 0, 1) := by decide +kernel
theorem d1_108 : decode prog_272_method_5_code 108 = .ok (.sipush 8205, 3) := by decide +kernel
theorem d1_111 : decode prog_272_method_5_code 111 = .ok (.if_icmp .le 80, 3) := by decide +kernel
theorem d1_86 : decode prog_272_method_5_code 86 = .ok (.iload_n 0, 1) := by decide +kernel
theorem d1_87 : decode prog_272_method_5_code 87 = .ok (.sipush 895, 3) := by decide +kernel
theorem d1_90 : decode prog_272_method_5_code 90 = .ok (.if_icmp .lt 10, 3) := by decide +kernel
theorem d1_93 : decode prog_272_method_5_code 93 = .ok (.iload_n 0, 1) := by decide +kernel
theorem d1_94 : decode prog_272_method_5_code 94 = .ok (.sipush 8191, 3) := by decide +kernel
theorem d1_97 : decode prog_272_method_5_code 97 = .ok (.if_icmp .le 94, 3) := by decide +kernel
theorem d1_72 : decode prog_272_method_5_code 72 = .ok (.iload_n 0, 1) := by decide +kernel
theorem d1_73 : decode prog_272_method_5_code 73 = .ok (.sipush 880, 3) := by decide +kernel
theorem d1_76 : decode prog_272_method_5_code 76 = .ok (.if_icmp .lt 10, 3) := by decide +kernel
theorem d1_79 : decode prog_272_method_5_code 79 = .ok (.iload_n 0, 1) := by decide +kernel
theorem d1_80 : decode prog_272_method_5_code 80 = .ok (.sipush 893, 3) := by decide +kernel
theorem d1_83 : decode prog_272_method_5_code 83 = .ok (.if_icmp .le 108, 3) := by decide +kernel
theorem d1_58 : decode prog_272_method_5_code 58 = .ok (.iload_n 0, 1) := by decide +kernel
theorem d1_59 : decode prog_272_method_5_code 59 = .ok (.sipush 248, 3) := by decide +kernel
theorem d1_62 : decode prog_272_method_5_code 62 = .ok (.if_icmp .lt 10, 3) := by decide +kernel
theorem d1_65 : decode prog_272_method_5_code 65 = .ok (.iload_n 0, 1) := by decide +kernel
theorem d1_66 : decode prog_272_method_5_code 66 = .ok (.sipush 767, 3) := by decide +kernel
theorem d1_69 : decode prog_272_method_5_code 69 = .ok (.if_icmp .le 122, 3) := by decide +kernel
theorem d1_44 : decode prog_272_method_5_code 44 = .ok (.iload_n 0, 1) := by decide +kernel
theorem d1_45 : decode prog_272_method_5_code 45 = .ok (.sipush 216, 3) := by decide +kernel
theorem d1_48 : decode prog_272_method_5_code 48 = .ok (.if_icmp .lt 10, 3) := by decide +kernel
theorem d1_51 : decode prog_272_method_5_code 51 = .ok (.iload_n 0, 1) := by decide +kernel
theorem d1_52 : decode prog_272_method_5_code 52 = .ok (.sipush 246, 3) := by decide +kernel
theorem d1_55 : decode prog_272_method_5_code 55 = .ok (.if_icmp .le 136, 3) := by decide +kernel
theorem d1_24 : decode prog_272_method_5_code 24 = .ok (.iload_n 0, 1) := by decide +kernel
theorem d1_25 : decode prog_272_method_5_code 25 = .ok (.bipush 95, 2) := by decide +kernel
theorem d1_27 : decode prog_272_method_5_code 27 = .ok (.if_icmp .eq 164, 3) := by decide +kernel
theorem d1_30 : decode prog_272_method_5_code 30 = .ok (.iload_n 0, 1) := by decide +kernel
theorem d1_31 : decode prog_272_method_5_code 31 = .ok (.sipush 192, 3) := by decide +kernel
theorem d1_34 : decode prog_272_method_5_code 34 = .ok (.if_icmp .lt 10, 3) := by decide +kernel
theorem d1_37 : decode prog_272_method_5_code 37 = .ok (.iload_n 0, 1) := by decide +kernel
theorem d1_38 : decode prog_272_method_5_code 38 = .ok (.sipush 214, 3) := by decide +kernel
theorem d1_41 : decode prog_272_method_5_code 41 = .ok (.if_icmp .le 150, 3) := by decide +kernel
theorem d1_12 : decode prog_272_method_5_code 12 = .ok (.iload_n 0, 1) := by decide +kernel
theorem d1_13 : decode prog_272_method_5_code 13 = .ok (.bipush 65, 2) := by decide +kernel
theorem d1_15 : decode prog_272_method_5_code 15 = .ok (.if_icmp .lt 9, 3) := by decide +kernel
theorem d1_18 : decode prog_272_method_5_code 18 = .ok (.iload_n 0, 1) := by decide +kernel
theorem d1_19 : decode prog_272_method_5_code 19 = .ok (.bipush 90, 2) := by decide +kernel
theorem d1_21 : decode prog_272_method_5_code 21 = .ok (.if_icmp .le 170, 3) := by decide +kernel
theorem d1_0 : decode prog_272_method_5_code 0 = .ok (.iload_n 0, 1) := by decide +kernel
theorem d1_1 : decode prog_272_method_5_code 1 = .ok (.bipush 97, 2) := by decide +kernel
theorem d1_3 : decode prog_272_method_5_code 3 = .ok (.if_icmp .lt 9, 3) := by decide +kernel
theorem d1_6 : decode prog_272_method_5_code 6 = .ok (.iload_n 0, 1) := by decide +kernel
theorem d1_7 : decode prog_272_method_5_code 7 = .ok (.bipush 122, 2) := by decide +kernel
theorem d1_9 : decode prog_272_method_5_code 9 = .ok (.if_icmp .le 182, 3) := by decide +kernel
def f1_195 (x0 : Int32) : Int32 := (0 : Int32)
def f1_191 (x0 : Int32) : Int32 := (1 : Int32)
def f1_179 (x0 : Int32) : Int32 := (if x0 < (65536 : Int32) then (f1_195 x0) else (if (983039 : Int32) < x0 then (f1_195 x0) else (f1_191 x0)))
def f1_167 (x0 : Int32) : Int32 := (if x0 < (65008 : Int32) then (f1_179 x0) else (if (65533 : Int32) < x0 then (f1_179 x0) else (f1_191 x0)))
def f1_155 (x0 : Int32) : Int32 := (if x0 < (63744 : Int32) then (f1_167 x0) else (if (64975 : Int32) < x0 then (f1_167 x0) else (f1_191 x0)))
def f1_142 (x0 : Int32) : Int32 := (if x0 < (12289 : Int32) then (f1_155 x0) else (if (55295 : Int32) < x0 then (f1_155 x0) else (f1_191 x0)))
def f1_128 (x0 : Int32) : Int32 := (if x0 < (11264 : Int32) then (f1_142 x0) else (if (12271 : Int32) < x0 then (f1_142 x0) else (f1_191 x0)))
def f1_114 (x0 : Int32) : Int32 := (if x0 < (8304 : Int32) then (f1_128 x0) else (if (8591 : Int32) < x0 then (f1_128 x0) else (f1_191 x0)))
def f1_100 (x0 : Int32) : Int32 := (if x0 < (8204 : Int32) then (f1_114 x0) else (if (8205 : Int32) < x0 then (f1_114 x0) else (f1_191 x0)))
def f1_86 (x0 : Int32) : Int32 := (if x0 < (895 : Int32) then (f1_100 x0) else (if (8191 : Int32) < x0 then (f1_100 x0) else (f1_191 x0)))
def f1_72 (x0 : Int32) : Int32 := (if x0 < (880 : Int32) then (f1_86 x0) else (if (893 : Int32) < x0 then (f1_86 x0) else (f1_191 x0)))
def f1_58 (x0 : Int32) : Int32 := (if x0 < (248 : Int32) then (f1_72 x0) else (if (767 : Int32) < x0 then (f1_72 x0) else (f1_191 x0)))
def f1_44 (x0 : Int32) : Int32 := (if x0 < (216 : Int32) then (f1_58 x0) else (if (246 : Int32) < x0 then (f1_58 x0) else (f1_191 x0)))
def f1_24 (x0 : Int32) : Int32 := (if x0 = (95 : Int32) then (f1_191 x0) else (if x0 < (192 : Int32) then (f1_44 x0) else (if (214 : Int32) < x0 then (f1_44 x0) else (f1_191 x0))))
def f1_12 (x0 : Int32) : Int32 := (if x0 < (65 : Int32) then (f1_24 x0) else (if (90 : Int32) < x0 then (f1_24 x0) else (f1_191 x0)))
def f1 (x0 : Int32) : Int32 := (if x0 < (97 : Int32) then (f1_12 x0) else (if (122 : Int32) < x0 then (f1_12 x0) else (f1_191 x0)))
theorem ef_rm1 (m : MethodId) (x0 : Int32) : entryFrame m #[(.int x0)] 1 = mkF m 0 #[.val (.int x0)] [] := by first | (simp [entryFrame, mkF, argsToLocals, Value.category]; done) | rfl
theorem pn_0 : plainName "com/example/hardy_stream/hardystream/xml/XmlChars" = true := by first | (simp [plainName, overriddenIn]; done) | decide +kernel
set_option maxRecDepth 65536 in
set_option maxHeartbeats 40000000 in
theorem rm1 (l : Launch) (Z : State) (a0 : Array Value) (hw : ∀ d ∈ tables_1, d.before a0 Z = true) (ws : List Jvm.Cond) (x0 : Int32) (h0 : Heap) (n0 : Nat) (Z0 : n0 ≤ h0.size) :
    MetFree l (⟨"com/example/hardy_stream/hardystream/xml/XmlChars", "isNameStartChar", "(I)Z"⟩ : MethodName) (head1 (Jvm.Cond.code (⟨"com/example/hardy_stream/hardystream/xml/XmlChars", "isNameStartChar", "(I)Z"⟩ : MethodName) prog_272_method_5_code 1 (some .boolean) :: ws) ({ frames := 0, cells := 0, slots := 0, locals := 0 } : Room)) (fun a U => a = #[(.int x0)] ∧ Z.Warmed39 U.vm ∧ U.heap = h0) (fun _ _ _ _ _ => True) (fun _ U o U' => ∃ v L, o = .returned v ∧ (QP (some (.int (f1 x0))) h0 n0) v U'.heap L ∧ FrameEnd U o U' L ({ frames := 0, cells := 0, slots := 0, locals := 0 } : Room).cells ({ frames := 0, cells := 0, slots := 0, locals := 0 } : Room).slots) := by
  refine MetFree.of_bodySF (plainFor_of_name pn_0) hisR ?_
  intro p e s m args below meth c s₁ Bd hml0 hP hK
  obtain ⟨rfl, hZ, hh⟩ := hP
  have hx := Bd.exec
  have hby := Bd.bytes
  have hml : c.maxLocals = 1 := hml0
  have hown : s.vm.findClass "com/example/hardy_stream/hardystream/xml/XmlChars" = some m.cls := findClass_of_methodNamed Bd.named
  have hnm := (name_of_methodNamed Bd.named Bd.method).1
  have X0 : Stand p l e ({ frames := 0, cells := 0, slots := 0, locals := 0 } : Room) s m #[(.int x0)] below meth c s₁ [] 0 0 := Stand.of_body Bd
  have e0 : s₁.heap = h0 := by rw [← hh, Bd.state]; rfl
  have N0 := Fr.nil n0
  show Ends p e below s (QP (some (.int (f1 x0))) h0 n0) ({ frames := 0, cells := 0, slots := 0, locals := 0 } : Room).cells ({ frames := 0, cells := 0, slots := 0, locals := 0 } : Room).slots (s₁.setTop (entryFrame m #[(.int x0)] 1))
  rw [ef_rm1 m x0]
  have hv0 : f1 x0 = f1 x0 := rfl
  show Ends p e below s _ _ _ (s₁.setTop (mkF m 0 #[.val (.int x0)] []))
  have j195 : ∀ (T : State) (locs : List Loc) (X : Stand p l e ({ frames := 0, cells := 0, slots := 0, locals := 0 } : Room) s m #[(.int x0)] below meth c T locs 0 0) (eT : T.heap = h0) (N : Fr n0 locs) (hv1 : f1 x0 = f1_195 x0), Ends p e below s (QP (some (.int (f1 x0))) h0 n0) ({ frames := 0, cells := 0, slots := 0, locals := 0 } : Room).cells ({ frames := 0, cells := 0, slots := 0, locals := 0 } : Room).slots (T.setTop (mkF m 195 #[.val (.int x0)] [])) := by
    intro T locs X eT N  hv1
    refine Ends.by ?_ (fun _ k => XS.iconst X.here hx rfl (hb hby d1_195) k)
    show Ends p e below s _ _ _ (T.setTop (mkF m 196 #[.val (.int x0)] [(.int (0 : Int32))]))
    exact Ends.retN X hx Bd.notSynchronized Bd.returns (t := .boolean) (by simp) (hb hby d1_196) (w := (0 : Int32)) rfl ⟨by rw [hv1]; first | done | rfl, N, eT⟩ (by decide) (by decide)
  have j191 : ∀ (T : State) (locs : List Loc) (X : Stand p l e ({ frames := 0, cells := 0, slots := 0, locals := 0 } : Room) s m #[(.int x0)] below meth c T locs 0 0) (eT : T.heap = h0) (N : Fr n0 locs) (hv2 : f1 x0 = f1_191 x0), Ends p e below s (QP (some (.int (f1 x0))) h0 n0) ({ frames := 0, cells := 0, slots := 0, locals := 0 } : Room).cells ({ frames := 0, cells := 0, slots := 0, locals := 0 } : Room).slots (T.setTop (mkF m 191 #[.val (.int x0)] [])) := by
    intro T locs X eT N  hv2
    refine Ends.by ?_ (fun _ k => XS.iconst X.here hx rfl (hb hby d1_191) k)
    show Ends p e below s _ _ _ (T.setTop (mkF m 192 #[.val (.int x0)] [(.int (1 : Int32))]))
    refine Ends.by ?_ (fun _ k => XS.goto X.here hx rfl (pc0 := 192) (pc' := 196) rfl (hb hby d1_192) (by decide) (by decide) k)
    show Ends p e below s _ _ _ (T.setTop (mkF m 196 #[.val (.int x0)] [(.int (1 : Int32))]))
    exact Ends.retN X hx Bd.notSynchronized Bd.returns (t := .boolean) (by simp) (hb hby d1_196) (w := (1 : Int32)) rfl ⟨by rw [hv2]; first | done | rfl, N, eT⟩ (by decide) (by decide)
  have j179 : ∀ (T : State) (locs : List Loc) (X : Stand p l e ({ frames := 0, cells := 0, slots := 0, locals := 0 } : Room) s m #[(.int x0)] below meth c T locs 0 0) (eT : T.heap = h0) (N : Fr n0 locs) (hv3 : f1 x0 = f1_179 x0), Ends p e below s (QP (some (.int (f1 x0))) h0 n0) ({ frames := 0, cells := 0, slots := 0, locals := 0 } : Room).cells ({ frames := 0, cells := 0, slots := 0, locals := 0 } : Room).slots (T.setTop (mkF m 179 #[.val (.int x0)] [])) := by
    intro T locs X eT N  hv3
    refine Ends.by ?_ (fun _ k => XS.iloadN X.here hx rfl (hb hby d1_179) rfl k)
    show Ends p e below s _ _ _ (T.setTop (mkF m 180 #[.val (.int x0)] [(.int x0)]))
    refine Ends.by ?_ (X.ldcInt hx hown (mvT hZ (hw _ (List.mem_of_getElem? (i := 7) rfl))) (g := (mkF m 180 #[.val (.int x0)] [(.int x0)])) rfl (hb hby d1_180))
    show Ends p e below s _ _ _ (T.setTop (mkF m 182 #[.val (.int x0)] [(.int (65536 : Int32)), (.int x0)]))
    by_cases hc4 : x0 < (65536 : Int32)
    · have hv5 := hv3.trans (if_pos hc4)
      refine Ends.by ?_ (fun _ k => XS.icmpYes X.here hx rfl (pc0 := 182) (pc' := 195) rfl (hb hby d1_182) rfl (XT.ii_lt_t hc4) (by decide) (by decide) k)
      show Ends p e below s _ _ _ (T.setTop (mkF m 195 #[.val (.int x0)] []))
      exact j195 T _ X eT N hv5
    · have hv6 := hv3.trans (if_neg hc4)
      refine Ends.by ?_ (fun _ k => XS.icmpNo X.here hx rfl (hb hby d1_182) rfl (XT.ii_lt_f hc4) k)
      show Ends p e below s _ _ _ (T.setTop (mkF m 185 #[.val (.int x0)] []))
      refine Ends.by ?_ (fun _ k => XS.iloadN X.here hx rfl (hb hby d1_185) rfl k)
      show Ends p e below s _ _ _ (T.setTop (mkF m 186 #[.val (.int x0)] [(.int x0)]))
      refine Ends.by ?_ (X.ldcInt hx hown (mvT hZ (hw _ (List.mem_of_getElem? (i := 22) rfl))) (g := (mkF m 186 #[.val (.int x0)] [(.int x0)])) rfl (hb hby d1_186))
      show Ends p e below s _ _ _ (T.setTop (mkF m 188 #[.val (.int x0)] [(.int (983039 : Int32)), (.int x0)]))
      by_cases hc7 : (983039 : Int32) < x0
      · have hv8 := hv6.trans (if_pos hc7)
        refine Ends.by ?_ (fun _ k => XS.icmpYes X.here hx rfl (pc0 := 188) (pc' := 195) rfl (hb hby d1_188) rfl (XT.ii_gt_t hc7) (by decide) (by decide) k)
        show Ends p e below s _ _ _ (T.setTop (mkF m 195 #[.val (.int x0)] []))
        exact j195 T _ X eT N hv8
      · have hv9 := hv6.trans (if_neg hc7)
        refine Ends.by ?_ (fun _ k => XS.icmpNo X.here hx rfl (hb hby d1_188) rfl (XT.ii_gt_f hc7) k)
        show Ends p e below s _ _ _ (T.setTop (mkF m 191 #[.val (.int x0)] []))
        exact j191 T _ X eT N hv9
  have j167 : ∀ (T : State) (locs : List Loc) (X : Stand p l e ({ frames := 0, cells := 0, slots := 0, locals := 0 } : Room) s m #[(.int x0)] below meth c T locs 0 0) (eT : T.heap = h0) (N : Fr n0 locs) (hv10 : f1 x0 = f1_167 x0), Ends p e below s (QP (some (.int (f1 x0))) h0 n0) ({ frames := 0, cells := 0, slots := 0, locals := 0 } : Room).cells ({ frames := 0, cells := 0, slots := 0, locals := 0 } : Room).slots (T.setTop (mkF m 167 #[.val (.int x0)] [])) := by
    intro T locs X eT N  hv10
    refine Ends.by ?_ (fun _ k => XS.iloadN X.here hx rfl (hb hby d1_167) rfl k)
    show Ends p e below s _ _ _ (T.setTop (mkF m 168 #[.val (.int x0)] [(.int x0)]))
    refine Ends.by ?_ (X.ldcInt hx hown (mvT hZ (hw _ (List.mem_of_getElem? (i := 6) rfl))) (g := (mkF m 168 #[.val (.int x0)] [(.int x0)])) rfl (hb hby d1_168))
    show Ends p e below s _ _ _ (T.setTop (mkF m 170 #[.val (.int x0)] [(.int (65008 : Int32)), (.int x0)]))
    by_cases hc11 : x0 < (65008 : Int32)
    · have hv12 := hv10.trans (if_pos hc11)
      refine Ends.by ?_ (fun _ k => XS.icmpYes X.here hx rfl (pc0 := 170) (pc' := 179) rfl (hb hby d1_170) rfl (XT.ii_lt_t hc11) (by decide) (by decide) k)
      show Ends p e below s _ _ _ (T.setTop (mkF m 179 #[.val (.int x0)] []))
      exact j179 T _ X eT N hv12
    · have hv13 := hv10.trans (if_neg hc11)
      refine Ends.by ?_ (fun _ k => XS.icmpNo X.here hx rfl (hb hby d1_170) rfl (XT.ii_lt_f hc11) k)
      show Ends p e below s _ _ _ (T.setTop (mkF m 173 #[.val (.int x0)] []))
      refine Ends.by ?_ (fun _ k => XS.iloadN X.here hx rfl (hb hby d1_173) rfl k)
      show Ends p e below s _ _ _ (T.setTop (mkF m 174 #[.val (.int x0)] [(.int x0)]))
      refine Ends.by ?_ (X.ldcInt hx hown (mvT hZ (hw _ (List.mem_of_getElem? (i := 21) rfl))) (g := (mkF m 174 #[.val (.int x0)] [(.int x0)])) rfl (hb hby d1_174))
      show Ends p e below s _ _ _ (T.setTop (mkF m 176 #[.val (.int x0)] [(.int (65533 : Int32)), (.int x0)]))
      by_cases hc14 : (65533 : Int32) < x0
      · have hv15 := hv13.trans (if_pos hc14)
        refine Ends.by ?_ (fun _ k => XS.icmpNo X.here hx rfl (hb hby d1_176) rfl (XT.ii_le_f hc14) k)
        show Ends p e below s _ _ _ (T.setTop (mkF m 179 #[.val (.int x0)] []))
        exact j179 T _ X eT N hv15
      · have hv16 := hv13.trans (if_neg hc14)
        refine Ends.by ?_ (fun _ k => XS.icmpYes X.here hx rfl (pc0 := 176) (pc' := 191) rfl (hb hby d1_176) rfl (XT.ii_le_t hc14) (by decide) (by decide) k)
        show Ends p e below s _ _ _ (T.setTop (mkF m 191 #[.val (.int x0)] []))
        exact j191 T _ X eT N hv16
  have j155 : ∀ (T : State) (locs : List Loc) (X : Stand p l e ({ frames := 0, cells := 0, slots := 0, locals := 0 } : Room) s m #[(.int x0)] below meth c T locs 0 0) (eT : T.heap = h0) (N : Fr n0 locs) (hv17 : f1 x0 = f1_155 x0), Ends p e below s (QP (some (.int (f1 x0))) h0 n0) ({ frames := 0, cells := 0, slots := 0, locals := 0 } : Room).cells ({ frames := 0, cells := 0, slots := 0, locals := 0 } : Room).slots (T.setTop (mkF m 155 #[.val (.int x0)] [])) := by
    intro T locs X eT N  hv17
    refine Ends.by ?_ (fun _ k => XS.iloadN X.here hx rfl (hb hby d1_155) rfl k)
    show Ends p e below s _ _ _ (T.setTop (mkF m 156 #[.val (.int x0)] [(.int x0)]))
    refine Ends.by ?_ (X.ldcInt hx hown (mvT hZ (hw _ (List.mem_of_getElem? (i := 5) rfl))) (g := (mkF m 156 #[.val (.int x0)] [(.int x0)])) rfl (hb hby d1_156))
    show Ends p e below s _ _ _ (T.setTop (mkF m 158 #[.val (.int x0)] [(.int (63744 : Int32)), (.int x0)]))
    by_cases hc18 : x0 < (63744 : Int32)
    · have hv19 := hv17.trans (if_pos hc18)
      refine Ends.by ?_ (fun _ k => XS.icmpYes X.here hx rfl (pc0 := 158) (pc' := 167) rfl (hb hby d1_158) rfl (XT.ii_lt_t hc18) (by decide) (by decide) k)
      show Ends p e below s _ _ _ (T.setTop (mkF m 167 #[.val (.int x0)] []))
      exact j167 T _ X eT N hv19
    · have hv20 := hv17.trans (if_neg hc18)
      refine Ends.by ?_ (fun _ k => XS.icmpNo X.here hx rfl (hb hby d1_158) rfl (XT.ii_lt_f hc18) k)
      show Ends p e below s _ _ _ (T.setTop (mkF m 161 #[.val (.int x0)] []))
      refine Ends.by ?_ (fun _ k => XS.iloadN X.here hx rfl (hb hby d1_161) rfl k)
      show Ends p e below s _ _ _ (T.setTop (mkF m 162 #[.val (.int x0)] [(.int x0)]))
      refine Ends.by ?_ (X.ldcInt hx hown (mvT hZ (hw _ (List.mem_of_getElem? (i := 20) rfl))) (g := (mkF m 162 #[.val (.int x0)] [(.int x0)])) rfl (hb hby d1_162))
      show Ends p e below s _ _ _ (T.setTop (mkF m 164 #[.val (.int x0)] [(.int (64975 : Int32)), (.int x0)]))
      by_cases hc21 : (64975 : Int32) < x0
      · have hv22 := hv20.trans (if_pos hc21)
        refine Ends.by ?_ (fun _ k => XS.icmpNo X.here hx rfl (hb hby d1_164) rfl (XT.ii_le_f hc21) k)
        show Ends p e below s _ _ _ (T.setTop (mkF m 167 #[.val (.int x0)] []))
        exact j167 T _ X eT N hv22
      · have hv23 := hv20.trans (if_neg hc21)
        refine Ends.by ?_ (fun _ k => XS.icmpYes X.here hx rfl (pc0 := 164) (pc' := 191) rfl (hb hby d1_164) rfl (XT.ii_le_t hc21) (by decide) (by decide) k)
        show Ends p e below s _ _ _ (T.setTop (mkF m 191 #[.val (.int x0)] []))
        exact j191 T _ X eT N hv23
  have j142 : ∀ (T : State) (locs : List Loc) (X : Stand p l e ({ frames := 0, cells := 0, slots := 0, locals := 0 } : Room) s m #[(.int x0)] below meth c T locs 0 0) (eT : T.heap = h0) (N : Fr n0 locs) (hv24 : f1 x0 = f1_142 x0), Ends p e below s (QP (some (.int (f1 x0))) h0 n0) ({ frames := 0, cells := 0, slots := 0, locals := 0 } : Room).cells ({ frames := 0, cells := 0, slots := 0, locals := 0 } : Room).slots (T.setTop (mkF m 142 #[.val (.int x0)] [])) := by
    intro T locs X eT N  hv24
    refine Ends.by ?_ (fun _ k => XS.iloadN X.here hx rfl (hb hby d1_142) rfl k)
    show Ends p e below s _ _ _ (T.setTop (mkF m 143 #[.val (.int x0)] [(.int x0)]))
    refine Ends.by ?_ (fun _ k => XS.sipush X.here hx rfl (hb hby d1_143) k)
    show Ends p e below s _ _ _ (T.setTop (mkF m 146 #[.val (.int x0)] [(.int (12289 : Int32)), (.int x0)]))
    by_cases hc25 : x0 < (12289 : Int32)
    · have hv26 := hv24.trans (if_pos hc25)
      refine Ends.by ?_ (fun _ k => XS.icmpYes X.here hx rfl (pc0 := 146) (pc' := 155) rfl (hb hby d1_146) rfl (XT.ii_lt_t hc25) (by decide) (by decide) k)
      show Ends p e below s _ _ _ (T.setTop (mkF m 155 #[.val (.int x0)] []))
      exact j155 T _ X eT N hv26
    · have hv27 := hv24.trans (if_neg hc25)
      refine Ends.by ?_ (fun _ k => XS.icmpNo X.here hx rfl (hb hby d1_146) rfl (XT.ii_lt_f hc25) k)
      show Ends p e below s _ _ _ (T.setTop (mkF m 149 #[.val (.int x0)] []))
      refine Ends.by ?_ (fun _ k => XS.iloadN X.here hx rfl (hb hby d1_149) rfl k)
      show Ends p e below s _ _ _ (T.setTop (mkF m 150 #[.val (.int x0)] [(.int x0)]))
      refine Ends.by ?_ (X.ldcInt hx hown (mvT hZ (hw _ (List.mem_of_getElem? (i := 19) rfl))) (g := (mkF m 150 #[.val (.int x0)] [(.int x0)])) rfl (hb hby d1_150))
      show Ends p e below s _ _ _ (T.setTop (mkF m 152 #[.val (.int x0)] [(.int (55295 : Int32)), (.int x0)]))
      by_cases hc28 : (55295 : Int32) < x0
      · have hv29 := hv27.trans (if_pos hc28)
        refine Ends.by ?_ (fun _ k => XS.icmpNo X.here hx rfl (hb hby d1_152) rfl (XT.ii_le_f hc28) k)
        show Ends p e below s _ _ _ (T.setTop (mkF m 155 #[.val (.int x0)] []))
        exact j155 T _ X eT N hv29
      · have hv30 := hv27.trans (if_neg hc28)
        refine Ends.by ?_ (fun _ k => XS.icmpYes X.here hx rfl (pc0 := 152) (pc' := 191) rfl (hb hby d1_152) rfl (XT.ii_le_t hc28) (by decide) (by decide) k)
        show Ends p e below s _ _ _ (T.setTop (mkF m 191 #[.val (.int x0)] []))
        exact j191 T _ X eT N hv30
  have j128 : ∀ (T : State) (locs : List Loc) (X : Stand p l e ({ frames := 0, cells := 0, slots := 0, locals := 0 } : Room) s m #[(.int x0)] below meth c T locs 0 0) (eT : T.heap = h0) (N : Fr n0 locs) (hv31 : f1 x0 = f1_128 x0), Ends p e below s (QP (some (.int (f1 x0))) h0 n0) ({ frames := 0, cells := 0, slots := 0, locals := 0 } : Room).cells ({ frames := 0, cells := 0, slots := 0, locals := 0 } : Room).slots (T.setTop (mkF m 128 #[.val (.int x0)] [])) := by
    intro T locs X eT N  hv31
    refine Ends.by ?_ (fun _ k => XS.iloadN X.here hx rfl (hb hby d1_128) rfl k)
    show Ends p e below s _ _ _ (T.setTop (mkF m 129 #[.val (.int x0)] [(.int x0)]))
    refine Ends.by ?_ (fun _ k => XS.sipush X.here hx rfl (hb hby d1_129) k)
    show Ends p e below s _ _ _ (T.setTop (mkF m 132 #[.val (.int x0)] [(.int (11264 : Int32)), (.int x0)]))
    by_cases hc32 : x0 < (11264 : Int32)
    · have hv33 := hv31.trans (if_pos hc32)
      refine Ends.by ?_ (fun _ k => XS.icmpYes X.here hx rfl (pc0 := 132) (pc' := 142) rfl (hb hby d1_132) rfl (XT.ii_lt_t hc32) (by decide) (by decide) k)
      show Ends p e below s _ _ _ (T.setTop (mkF m 142 #[.val (.int x0)] []))
      exact j142 T _ X eT N hv33
    · have hv34 := hv31.trans (if_neg hc32)
      refine Ends.by ?_ (fun _ k => XS.icmpNo X.here hx rfl (hb hby d1_132) rfl (XT.ii_lt_f hc32) k)
      show Ends p e below s _ _ _ (T.setTop (mkF m 135 #[.val (.int x0)] []))
      refine Ends.by ?_ (fun _ k => XS.iloadN X.here hx rfl (hb hby d1_135) rfl k)
      show Ends p e below s _ _ _ (T.setTop (mkF m 136 #[.val (.int x0)] [(.int x0)]))
      refine Ends.by ?_ (fun _ k => XS.sipush X.here hx rfl (hb hby d1_136) k)
      show Ends p e below s _ _ _ (T.setTop (mkF m 139 #[.val (.int x0)] [(.int (12271 : Int32)), (.int x0)]))
      by_cases hc35 : (12271 : Int32) < x0
      · have hv36 := hv34.trans (if_pos hc35)
        refine Ends.by ?_ (fun _ k => XS.icmpNo X.here hx rfl (hb hby d1_139) rfl (XT.ii_le_f hc35) k)
        show Ends p e below s _ _ _ (T.setTop (mkF m 142 #[.val (.int x0)] []))
        exact j142 T _ X eT N hv36
      · have hv37 := hv34.trans (if_neg hc35)
        refine Ends.by ?_ (fun _ k => XS.icmpYes X.here hx rfl (pc0 := 139) (pc' := 191) rfl (hb hby d1_139) rfl (XT.ii_le_t hc35) (by decide) (by decide) k)
        show Ends p e below s _ _ _ (T.setTop (mkF m 191 #[.val (.int x0)] []))
        exact j191 T _ X eT N hv37
  have j114 : ∀ (T : State) (locs : List Loc) (X : Stand p l e ({ frames := 0, cells := 0, slots := 0, locals := 0 } : Room) s m #[(.int x0)] below meth c T locs 0 0) (eT : T.heap = h0) (N : Fr n0 locs) (hv38 : f1 x0 = f1_114 x0), Ends p e below s (QP (some (.int (f1 x0))) h0 n0) ({ frames := 0, cells := 0, slots := 0, locals := 0 } : Room).cells ({ frames := 0, cells := 0, slots := 0, locals := 0 } : Room).slots (T.setTop (mkF m 114 #[.val (.int x0)] [])) := by
    intro T locs X eT N  hv38
    refine Ends.by ?_ (fun _ k => XS.iloadN X.here hx rfl (hb hby d1_114) rfl k)
    show Ends p e below s _ _ _ (T.setTop (mkF m 115 #[.val (.int x0)] [(.int x0)]))
    refine Ends.by ?_ (fun _ k => XS.sipush X.here hx rfl (hb hby d1_115) k)
    show Ends p e below s _ _ _ (T.setTop (mkF m 118 #[.val (.int x0)] [(.int (8304 : Int32)), (.int x0)]))
    by_cases hc39 : x0 < (8304 : Int32)
    · have hv40 := hv38.trans (if_pos hc39)
      refine Ends.by ?_ (fun _ k => XS.icmpYes X.here hx rfl (pc0 := 118) (pc' := 128) rfl (hb hby d1_118) rfl (XT.ii_lt_t hc39) (by decide) (by decide) k)
      show Ends p e below s _ _ _ (T.setTop (mkF m 128 #[.val (.int x0)] []))
      exact j128 T _ X eT N hv40
    · have hv41 := hv38.trans (if_neg hc39)
      refine Ends.by ?_ (fun _ k => XS.icmpNo X.here hx rfl (hb hby d1_118) rfl (XT.ii_lt_f hc39) k)
      show Ends p e below s _ _ _ (T.setTop (mkF m 121 #[.val (.int x0)] []))
      refine Ends.by ?_ (fun _ k => XS.iloadN X.here hx rfl (hb hby d1_121) rfl k)
      show Ends p e below s _ _ _ (T.setTop (mkF m 122 #[.val (.int x0)] [(.int x0)]))
      refine Ends.by ?_ (fun _ k => XS.sipush X.here hx rfl (hb hby d1_122) k)
      show Ends p e below s _ _ _ (T.setTop (mkF m 125 #[.val (.int x0)] [(.int (8591 : Int32)), (.int x0)]))
      by_cases hc42 : (8591 : Int32) < x0
      · have hv43 := hv41.trans (if_pos hc42)
        refine Ends.by ?_ (fun _ k => XS.icmpNo X.here hx rfl (hb hby d1_125) rfl (XT.ii_le_f hc42) k)
        show Ends p e below s _ _ _ (T.setTop (mkF m 128 #[.val (.int x0)] []))
        exact j128 T _ X eT N hv43
      · have hv44 := hv41.trans (if_neg hc42)
        refine Ends.by ?_ (fun _ k => XS.icmpYes X.here hx rfl (pc0 := 125) (pc' := 191) rfl (hb hby d1_125) rfl (XT.ii_le_t hc42) (by decide) (by decide) k)
        show Ends p e below s _ _ _ (T.setTop (mkF m 191 #[.val (.int x0)] []))
        exact j191 T _ X eT N hv44
  have j100 : ∀ (T : State) (locs : List Loc) (X : Stand p l e ({ frames := 0, cells := 0, slots := 0, locals := 0 } : Room) s m #[(.int x0)] below meth c T locs 0 0) (eT : T.heap = h0) (N : Fr n0 locs) (hv45 : f1 x0 = f1_100 x0), Ends p e below s (QP (some (.int (f1 x0))) h0 n0) ({ frames := 0, cells := 0, slots := 0, locals := 0 } : Room).cells ({ frames := 0, cells := 0, slots := 0, locals := 0 } : Room).slots (T.setTop (mkF m 100 #[.val (.int x0)] [])) := by
    intro T locs X eT N  hv45
    refine Ends.by ?_ (fun _ k => XS.iloadN X.here hx rfl (hb hby d1_100) rfl k)
    show Ends p e below s _ _ _ (T.setTop (mkF m 101 #[.val (.int x0)] [(.int x0)]))
    refine Ends.by ?_ (fun _ k => XS.sipush X.here hx rfl (hb hby d1_101) k)
    show Ends p e below s _ _ _ (T.setTop (mkF m 104 #[.val (.int x0)] [(.int (8204 : Int32)), (.int x0)]))
    by_cases hc46 : x0 < (8204 : Int32)
    · have hv47 := hv45.trans (if_pos hc46)
      refine Ends.by ?_ (fun _ k => XS.icmpYes X.here hx rfl (pc0 := 104) (pc' := 114) rfl (hb hby d1_104) rfl (XT.ii_lt_t hc46) (by decide) (by decide) k)
      show Ends p e below s _ _ _ (T.setTop (mkF m 114 #[.val (.int x0)] []))
      exact j114 T _ X eT N hv47
    · have hv48 := hv45.trans (if_neg hc46)
      refine Ends.by ?_ (fun _ k => XS.icmpNo X.here hx rfl (hb hby d1_104) rfl (XT.ii_lt_f hc46) k)
      show Ends p e below s _ _ _ (T.setTop (mkF m 107 #[.val (.int x0)] []))
      refine Ends.by ?_ (fun _ k => XS.iloadN X.here hx rfl (hb hby d1_107) rfl k)
      show Ends p e below s _ _ _ (T.setTop (mkF m 108 #[.val (.int x0)] [(.int x0)]))
      refine Ends.by ?_ (fun _ k => XS.sipush X.here hx rfl (hb hby d1_108) k)
      show Ends p e below s _ _ _ (T.setTop (mkF m 111 #[.val (.int x0)] [(.int (8205 : Int32)), (.int x0)]))
      by_cases hc49 : (8205 : Int32) < x0
      · have hv50 := hv48.trans (if_pos hc49)
        refine Ends.by ?_ (fun _ k => XS.icmpNo X.here hx rfl (hb hby d1_111) rfl (XT.ii_le_f hc49) k)
        show Ends p e below s _ _ _ (T.setTop (mkF m 114 #[.val (.int x0)] []))
        exact j114 T _ X eT N hv50
      · have hv51 := hv48.trans (if_neg hc49)
        refine Ends.by ?_ (fun _ k => XS.icmpYes X.here hx rfl (pc0 := 111) (pc' := 191) rfl (hb hby d1_111) rfl (XT.ii_le_t hc49) (by decide) (by decide) k)
        show Ends p e below s _ _ _ (T.setTop (mkF m 191 #[.val (.int x0)] []))
        exact j191 T _ X eT N hv51
  have j86 : ∀ (T : State) (locs : List Loc) (X : Stand p l e ({ frames := 0, cells := 0, slots := 0, locals := 0 } : Room) s m #[(.int x0)] below meth c T locs 0 0) (eT : T.heap = h0) (N : Fr n0 locs) (hv52 : f1 x0 = f1_86 x0), Ends p e below s (QP (some (.int (f1 x0))) h0 n0) ({ frames := 0, cells := 0, slots := 0, locals := 0 } : Room).cells ({ frames := 0, cells := 0, slots := 0, locals := 0 } : Room).slots (T.setTop (mkF m 86 #[.val (.int x0)] [])) := by
    intro T locs X eT N  hv52
    refine Ends.by ?_ (fun _ k => XS.iloadN X.here hx rfl (hb hby d1_86) rfl k)
    show Ends p e below s _ _ _ (T.setTop (mkF m 87 #[.val (.int x0)] [(.int x0)]))
    refine Ends.by ?_ (fun _ k => XS.sipush X.here hx rfl (hb hby d1_87) k)
    show Ends p e below s _ _ _ (T.setTop (mkF m 90 #[.val (.int x0)] [(.int (895 : Int32)), (.int x0)]))
    by_cases hc53 : x0 < (895 : Int32)
    · have hv54 := hv52.trans (if_pos hc53)
      refine Ends.by ?_ (fun _ k => XS.icmpYes X.here hx rfl (pc0 := 90) (pc' := 100) rfl (hb hby d1_90) rfl (XT.ii_lt_t hc53) (by decide) (by decide) k)
      show Ends p e below s _ _ _ (T.setTop (mkF m 100 #[.val (.int x0)] []))
      exact j100 T _ X eT N hv54
    · have hv55 := hv52.trans (if_neg hc53)
      refine Ends.by ?_ (fun _ k => XS.icmpNo X.here hx rfl (hb hby d1_90) rfl (XT.ii_lt_f hc53) k)
      show Ends p e below s _ _ _ (T.setTop (mkF m 93 #[.val (.int x0)] []))
      refine Ends.by ?_ (fun _ k => XS.iloadN X.here hx rfl (hb hby d1_93) rfl k)
      show Ends p e below s _ _ _ (T.setTop (mkF m 94 #[.val (.int x0)] [(.int x0)]))
      refine Ends.by ?_ (fun _ k => XS.sipush X.here hx rfl (hb hby d1_94) k)
      show Ends p e below s _ _ _ (T.setTop (mkF m 97 #[.val (.int x0)] [(.int (8191 : Int32)), (.int x0)]))
      by_cases hc56 : (8191 : Int32) < x0
      · have hv57 := hv55.trans (if_pos hc56)
        refine Ends.by ?_ (fun _ k => XS.icmpNo X.here hx rfl (hb hby d1_97) rfl (XT.ii_le_f hc56) k)
        show Ends p e below s _ _ _ (T.setTop (mkF m 100 #[.val (.int x0)] []))
        exact j100 T _ X eT N hv57
      · have hv58 := hv55.trans (if_neg hc56)
        refine Ends.by ?_ (fun _ k => XS.icmpYes X.here hx rfl (pc0 := 97) (pc' := 191) rfl (hb hby d1_97) rfl (XT.ii_le_t hc56) (by decide) (by decide) k)
        show Ends p e below s _ _ _ (T.setTop (mkF m 191 #[.val (.int x0)] []))
        exact j191 T _ X eT N hv58
  have j72 : ∀ (T : State) (locs : List Loc) (X : Stand p l e ({ frames := 0, cells := 0, slots := 0, locals := 0 } : Room) s m #[(.int x0)] below meth c T locs 0 0) (eT : T.heap = h0) (N : Fr n0 locs) (hv59 : f1 x0 = f1_72 x0), Ends p e below s (QP (some (.int (f1 x0))) h0 n0) ({ frames := 0, cells := 0, slots := 0, locals := 0 } : Room).cells ({ frames := 0, cells := 0, slots := 0, locals := 0 } : Room).slots (T.setTop (mkF m 72 #[.val (.int x0)] [])) := by
    intro T locs X eT N  hv59
    refine Ends.by ?_ (fun _ k => XS.iloadN X.here hx rfl (hb hby d1_72) rfl k)
    show Ends p e below s _ _ _ (T.setTop (mkF m 73 #[.val (.int x0)] [(.int x0)]))
    refine Ends.by ?_ (fun _ k => XS.sipush X.here hx rfl (hb hby d1_73) k)
    show Ends p e below s _ _ _ (T.setTop (mkF m 76 #[.val (.int x0)] [(.int (880 : Int32)), (.int x0)]))
    by_cases hc60 : x0 < (880 : Int32)
    · have hv61 := hv59.trans (if_pos hc60)
      refine Ends.by ?_ (fun _ k => XS.icmpYes X.here hx rfl (pc0 := 76) (pc' := 86) rfl (hb hby d1_76) rfl (XT.ii_lt_t hc60) (by decide) (by decide) k)
      show Ends p e below s _ _ _ (T.setTop (mkF m 86 #[.val (.int x0)] []))
      exact j86 T _ X eT N hv61
    · have hv62 := hv59.trans (if_neg hc60)
      refine Ends.by ?_ (fun _ k => XS.icmpNo X.here hx rfl (hb hby d1_76) rfl (XT.ii_lt_f hc60) k)
      show Ends p e below s _ _ _ (T.setTop (mkF m 79 #[.val (.int x0)] []))
      refine Ends.by ?_ (fun _ k => XS.iloadN X.here hx rfl (hb hby d1_79) rfl k)
      show Ends p e below s _ _ _ (T.setTop (mkF m 80 #[.val (.int x0)] [(.int x0)]))
      refine Ends.by ?_ (fun _ k => XS.sipush X.here hx rfl (hb hby d1_80) k)
      show Ends p e below s _ _ _ (T.setTop (mkF m 83 #[.val (.int x0)] [(.int (893 : Int32)), (.int x0)]))
      by_cases hc63 : (893 : Int32) < x0
      · have hv64 := hv62.trans (if_pos hc63)
        refine Ends.by ?_ (fun _ k => XS.icmpNo X.here hx rfl (hb hby d1_83) rfl (XT.ii_le_f hc63) k)
        show Ends p e below s _ _ _ (T.setTop (mkF m 86 #[.val (.int x0)] []))
        exact j86 T _ X eT N hv64
      · have hv65 := hv62.trans (if_neg hc63)
        refine Ends.by ?_ (fun _ k => XS.icmpYes X.here hx rfl (pc0 := 83) (pc' := 191) rfl (hb hby d1_83) rfl (XT.ii_le_t hc63) (by decide) (by decide) k)
        show Ends p e below s _ _ _ (T.setTop (mkF m 191 #[.val (.int x0)] []))
        exact j191 T _ X eT N hv65
  have j58 : ∀ (T : State) (locs : List Loc) (X : Stand p l e ({ frames := 0, cells := 0, slots := 0, locals := 0 } : Room) s m #[(.int x0)] below meth c T locs 0 0) (eT : T.heap = h0) (N : Fr n0 locs) (hv66 : f1 x0 = f1_58 x0), Ends p e below s (QP (some (.int (f1 x0))) h0 n0) ({ frames := 0, cells := 0, slots := 0, locals := 0 } : Room).cells ({ frames := 0, cells := 0, slots := 0, locals := 0 } : Room).slots (T.setTop (mkF m 58 #[.val (.int x0)] [])) := by
    intro T locs X eT N  hv66
    refine Ends.by ?_ (fun _ k => XS.iloadN X.here hx rfl (hb hby d1_58) rfl k)
    show Ends p e below s _ _ _ (T.setTop (mkF m 59 #[.val (.int x0)] [(.int x0)]))
    refine Ends.by ?_ (fun _ k => XS.sipush X.here hx rfl (hb hby d1_59) k)
    show Ends p e below s _ _ _ (T.setTop (mkF m 62 #[.val (.int x0)] [(.int (248 : Int32)), (.int x0)]))
    by_cases hc67 : x0 < (248 : Int32)
    · have hv68 := hv66.trans (if_pos hc67)
      refine Ends.by ?_ (fun _ k => XS.icmpYes X.here hx rfl (pc0 := 62) (pc' := 72) rfl (hb hby d1_62) rfl (XT.ii_lt_t hc67) (by decide) (by decide) k)
      show Ends p e below s _ _ _ (T.setTop (mkF m 72 #[.val (.int x0)] []))
      exact j72 T _ X eT N hv68
    · have hv69 := hv66.trans (if_neg hc67)
      refine Ends.by ?_ (fun _ k => XS.icmpNo X.here hx rfl (hb hby d1_62) rfl (XT.ii_lt_f hc67) k)
      show Ends p e below s _ _ _ (T.setTop (mkF m 65 #[.val (.int x0)] []))
      refine Ends.by ?_ (fun _ k => XS.iloadN X.here hx rfl (hb hby d1_65) rfl k)
      show Ends p e below s _ _ _ (T.setTop (mkF m 66 #[.val (.int x0)] [(.int x0)]))
      refine Ends.by ?_ (fun _ k => XS.sipush X.here hx rfl (hb hby d1_66) k)
      show Ends p e below s _ _ _ (T.setTop (mkF m 69 #[.val (.int x0)] [(.int (767 : Int32)), (.int x0)]))
      by_cases hc70 : (767 : Int32) < x0
      · have hv71 := hv69.trans (if_pos hc70)
        refine Ends.by ?_ (fun _ k => XS.icmpNo X.here hx rfl (hb hby d1_69) rfl (XT.ii_le_f hc70) k)
        show Ends p e below s _ _ _ (T.setTop (mkF m 72 #[.val (.int x0)] []))
        exact j72 T _ X eT N hv71
      · have hv72 := hv69.trans (if_neg hc70)
        refine Ends.by ?_ (fun _ k => XS.icmpYes X.here hx rfl (pc0 := 69) (pc' := 191) rfl (hb hby d1_69) rfl (XT.ii_le_t hc70) (by decide) (by decide) k)
        show Ends p e below s _ _ _ (T.setTop (mkF m 191 #[.val (.int x0)] []))
        exact j191 T _ X eT N hv72
  have j44 : ∀ (T : State) (locs : List Loc) (X : Stand p l e ({ frames := 0, cells := 0, slots := 0, locals := 0 } : Room) s m #[(.int x0)] below meth c T locs 0 0) (eT : T.heap = h0) (N : Fr n0 locs) (hv73 : f1 x0 = f1_44 x0), Ends p e below s (QP (some (.int (f1 x0))) h0 n0) ({ frames := 0, cells := 0, slots := 0, locals := 0 } : Room).cells ({ frames := 0, cells := 0, slots := 0, locals := 0 } : Room).slots (T.setTop (mkF m 44 #[.val (.int x0)] [])) := by
    intro T locs X eT N  hv73
    refine Ends.by ?_ (fun _ k => XS.iloadN X.here hx rfl (hb hby d1_44) rfl k)
    show Ends p e below s _ _ _ (T.setTop (mkF m 45 #[.val (.int x0)] [(.int x0)]))
    refine Ends.by ?_ (fun _ k => XS.sipush X.here hx rfl (hb hby d1_45) k)
    show Ends p e below s _ _ _ (T.setTop (mkF m 48 #[.val (.int x0)] [(.int (216 : Int32)), (.int x0)]))
    by_cases hc74 : x0 < (216 : Int32)
    · have hv75 := hv73.trans (if_pos hc74)
      refine Ends.by ?_ (fun _ k => XS.icmpYes X.here hx rfl (pc0 := 48) (pc' := 58) rfl (hb hby d1_48) rfl (XT.ii_lt_t hc74) (by decide) (by decide) k)
      show Ends p e below s _ _ _ (T.setTop (mkF m 58 #[.val (.int x0)] []))
      exact j58 T _ X eT N hv75
    · have hv76 := hv73.trans (if_neg hc74)
      refine Ends.by ?_ (fun _ k => XS.icmpNo X.here hx rfl (hb hby d1_48) rfl (XT.ii_lt_f hc74) k)
      show Ends p e below s _ _ _ (T.setTop (mkF m 51 #[.val (.int x0)] []))
      refine Ends.by ?_ (fun _ k => XS.iloadN X.here hx rfl (hb hby d1_51) rfl k)
      show Ends p e below s _ _ _ (T.setTop (mkF m 52 #[.val (.int x0)] [(.int x0)]))
      refine Ends.by ?_ (fun _ k => XS.sipush X.here hx rfl (hb hby d1_52) k)
      show Ends p e below s _ _ _ (T.setTop (mkF m 55 #[.val (.int x0)] [(.int (246 : Int32)), (.int x0)]))
      by_cases hc77 : (246 : Int32) < x0
      · have hv78 := hv76.trans (if_pos hc77)
        refine Ends.by ?_ (fun _ k => XS.icmpNo X.here hx rfl (hb hby d1_55) rfl (XT.ii_le_f hc77) k)
        show Ends p e below s _ _ _ (T.setTop (mkF m 58 #[.val (.int x0)] []))
        exact j58 T _ X eT N hv78
      · have hv79 := hv76.trans (if_neg hc77)
        refine Ends.by ?_ (fun _ k => XS.icmpYes X.here hx rfl (pc0 := 55) (pc' := 191) rfl (hb hby d1_55) rfl (XT.ii_le_t hc77) (by decide) (by decide) k)
        show Ends p e below s _ _ _ (T.setTop (mkF m 191 #[.val (.int x0)] []))
        exact j191 T _ X eT N hv79
  have j24 : ∀ (T : State) (locs : List Loc) (X : Stand p l e ({ frames := 0, cells := 0, slots := 0, locals := 0 } : Room) s m #[(.int x0)] below meth c T locs 0 0) (eT : T.heap = h0) (N : Fr n0 locs) (hv80 : f1 x0 = f1_24 x0), Ends p e below s (QP (some (.int (f1 x0))) h0 n0) ({ frames := 0, cells := 0, slots := 0, locals := 0 } : Room).cells ({ frames := 0, cells := 0, slots := 0, locals := 0 } : Room).slots (T.setTop (mkF m 24 #[.val (.int x0)] [])) := by
    intro T locs X eT N  hv80
    refine Ends.by ?_ (fun _ k => XS.iloadN X.here hx rfl (hb hby d1_24) rfl k)
    show Ends p e below s _ _ _ (T.setTop (mkF m 25 #[.val (.int x0)] [(.int x0)]))
    refine Ends.by ?_ (fun _ k => XS.bipush X.here hx rfl (hb hby d1_25) k)
    show Ends p e below s _ _ _ (T.setTop (mkF m 27 #[.val (.int x0)] [(.int (95 : Int32)), (.int x0)]))
    by_cases hc81 : x0 = (95 : Int32)
    · have hv82 := hv80.trans (if_pos hc81)
      refine Ends.by ?_ (fun _ k => XS.icmpYes X.here hx rfl (pc0 := 27) (pc' := 191) rfl (hb hby d1_27) rfl (XT.ii_eq_t hc81) (by decide) (by decide) k)
      show Ends p e below s _ _ _ (T.setTop (mkF m 191 #[.val (.int x0)] []))
      exact j191 T _ X eT N hv82
    · have hv83 := hv80.trans (if_neg hc81)
      refine Ends.by ?_ (fun _ k => XS.icmpNo X.here hx rfl (hb hby d1_27) rfl (XT.ii_eq_f hc81) k)
      show Ends p e below s _ _ _ (T.setTop (mkF m 30 #[.val (.int x0)] []))
      refine Ends.by ?_ (fun _ k => XS.iloadN X.here hx rfl (hb hby d1_30) rfl k)
      show Ends p e below s _ _ _ (T.setTop (mkF m 31 #[.val (.int x0)] [(.int x0)]))
      refine Ends.by ?_ (fun _ k => XS.sipush X.here hx rfl (hb hby d1_31) k)
      show Ends p e below s _ _ _ (T.setTop (mkF m 34 #[.val (.int x0)] [(.int (192 : Int32)), (.int x0)]))
      by_cases hc84 : x0 < (192 : Int32)
      · have hv85 := hv83.trans (if_pos hc84)
        refine Ends.by ?_ (fun _ k => XS.icmpYes X.here hx rfl (pc0 := 34) (pc' := 44) rfl (hb hby d1_34) rfl (XT.ii_lt_t hc84) (by decide) (by decide) k)
        show Ends p e below s _ _ _ (T.setTop (mkF m 44 #[.val (.int x0)] []))
        exact j44 T _ X eT N hv85
      · have hv86 := hv83.trans (if_neg hc84)
        refine Ends.by ?_ (fun _ k => XS.icmpNo X.here hx rfl (hb hby d1_34) rfl (XT.ii_lt_f hc84) k)
        show Ends p e below s _ _ _ (T.setTop (mkF m 37 #[.val (.int x0)] []))
        refine Ends.by ?_ (fun _ k => XS.iloadN X.here hx rfl (hb hby d1_37) rfl k)
        show Ends p e below s _ _ _ (T.setTop (mkF m 38 #[.val (.int x0)] [(.int x0)]))
        refine Ends.by ?_ (fun _ k => XS.sipush X.here hx rfl (hb hby d1_38) k)
        show Ends p e below s _ _ _ (T.setTop (mkF m 41 #[.val (.int x0)] [(.int (214 : Int32)), (.int x0)]))
        by_cases hc87 : (214 : Int32) < x0
        · have hv88 := hv86.trans (if_pos hc87)
          refine Ends.by ?_ (fun _ k => XS.icmpNo X.here hx rfl (hb hby d1_41) rfl (XT.ii_le_f hc87) k)
          show Ends p e below s _ _ _ (T.setTop (mkF m 44 #[.val (.int x0)] []))
          exact j44 T _ X eT N hv88
        · have hv89 := hv86.trans (if_neg hc87)
          refine Ends.by ?_ (fun _ k => XS.icmpYes X.here hx rfl (pc0 := 41) (pc' := 191) rfl (hb hby d1_41) rfl (XT.ii_le_t hc87) (by decide) (by decide) k)
          show Ends p e below s _ _ _ (T.setTop (mkF m 191 #[.val (.int x0)] []))
          exact j191 T _ X eT N hv89
  have j12 : ∀ (T : State) (locs : List Loc) (X : Stand p l e ({ frames := 0, cells := 0, slots := 0, locals := 0 } : Room) s m #[(.int x0)] below meth c T locs 0 0) (eT : T.heap = h0) (N : Fr n0 locs) (hv90 : f1 x0 = f1_12 x0), Ends p e below s (QP (some (.int (f1 x0))) h0 n0) ({ frames := 0, cells := 0, slots := 0, locals := 0 } : Room).cells ({ frames := 0, cells := 0, slots := 0, locals := 0 } : Room).slots (T.setTop (mkF m 12 #[.val (.int x0)] [])) := by
    intro T locs X eT N  hv90
    refine Ends.by ?_ (fun _ k => XS.iloadN X.here hx rfl (hb hby d1_12) rfl k)
    show Ends p e below s _ _ _ (T.setTop (mkF m 13 #[.val (.int x0)] [(.int x0)]))
    refine Ends.by ?_ (fun _ k => XS.bipush X.here hx rfl (hb hby d1_13) k)
    show Ends p e below s _ _ _ (T.setTop (mkF m 15 #[.val (.int x0)] [(.int (65 : Int32)), (.int x0)]))
    by_cases hc91 : x0 < (65 : Int32)
    · have hv92 := hv90.trans (if_pos hc91)
      refine Ends.by ?_ (fun _ k => XS.icmpYes X.here hx rfl (pc0 := 15) (pc' := 24) rfl (hb hby d1_15) rfl (XT.ii_lt_t hc91) (by decide) (by decide) k)
      show Ends p e below s _ _ _ (T.setTop (mkF m 24 #[.val (.int x0)] []))
      exact j24 T _ X eT N hv92
    · have hv93 := hv90.trans (if_neg hc91)
      refine Ends.by ?_ (fun _ k => XS.icmpNo X.here hx rfl (hb hby d1_15) rfl (XT.ii_lt_f hc91) k)
      show Ends p e below s _ _ _ (T.setTop (mkF m 18 #[.val (.int x0)] []))
      refine Ends.by ?_ (fun _ k => XS.iloadN X.here hx rfl (hb hby d1_18) rfl k)
      show Ends p e below s _ _ _ (T.setTop (mkF m 19 #[.val (.int x0)] [(.int x0)]))
      refine Ends.by ?_ (fun _ k => XS.bipush X.here hx rfl (hb hby d1_19) k)
      show Ends p e below s _ _ _ (T.setTop (mkF m 21 #[.val (.int x0)] [(.int (90 : Int32)), (.int x0)]))
      by_cases hc94 : (90 : Int32) < x0
      · have hv95 := hv93.trans (if_pos hc94)
        refine Ends.by ?_ (fun _ k => XS.icmpNo X.here hx rfl (hb hby d1_21) rfl (XT.ii_le_f hc94) k)
        show Ends p e below s _ _ _ (T.setTop (mkF m 24 #[.val (.int x0)] []))
        exact j24 T _ X eT N hv95
      · have hv96 := hv93.trans (if_neg hc94)
        refine Ends.by ?_ (fun _ k => XS.icmpYes X.here hx rfl (pc0 := 21) (pc' := 191) rfl (hb hby d1_21) rfl (XT.ii_le_t hc94) (by decide) (by decide) k)
        show Ends p e below s _ _ _ (T.setTop (mkF m 191 #[.val (.int x0)] []))
        exact j191 T _ X eT N hv96
  refine Ends.by ?_ (fun _ k => XS.iloadN X0.here hx rfl (hb hby d1_0) rfl k)
  show Ends p e below s _ _ _ (s₁.setTop (mkF m 1 #[.val (.int x0)] [(.int x0)]))
  refine Ends.by ?_ (fun _ k => XS.bipush X0.here hx rfl (hb hby d1_1) k)
  show Ends p e below s _ _ _ (s₁.setTop (mkF m 3 #[.val (.int x0)] [(.int (97 : Int32)), (.int x0)]))
  by_cases hc97 : x0 < (97 : Int32)
  · have hv98 := hv0.trans (if_pos hc97)
    refine Ends.by ?_ (fun _ k => XS.icmpYes X0.here hx rfl (pc0 := 3) (pc' := 12) rfl (hb hby d1_3) rfl (XT.ii_lt_t hc97) (by decide) (by decide) k)
    show Ends p e below s _ _ _ (s₁.setTop (mkF m 12 #[.val (.int x0)] []))
    exact j12 s₁ _ X0 e0 N0 hv98
  · have hv99 := hv0.trans (if_neg hc97)
    refine Ends.by ?_ (fun _ k => XS.icmpNo X0.here hx rfl (hb hby d1_3) rfl (XT.ii_lt_f hc97) k)
    show Ends p e below s _ _ _ (s₁.setTop (mkF m 6 #[.val (.int x0)] []))
    refine Ends.by ?_ (fun _ k => XS.iloadN X0.here hx rfl (hb hby d1_6) rfl k)
    show Ends p e below s _ _ _ (s₁.setTop (mkF m 7 #[.val (.int x0)] [(.int x0)]))
    refine Ends.by ?_ (fun _ k => XS.bipush X0.here hx rfl (hb hby d1_7) k)
    show Ends p e below s _ _ _ (s₁.setTop (mkF m 9 #[.val (.int x0)] [(.int (122 : Int32)), (.int x0)]))
    by_cases hc100 : (122 : Int32) < x0
    · have hv101 := hv99.trans (if_pos hc100)
      refine Ends.by ?_ (fun _ k => XS.icmpNo X0.here hx rfl (hb hby d1_9) rfl (XT.ii_le_f hc100) k)
      show Ends p e below s _ _ _ (s₁.setTop (mkF m 12 #[.val (.int x0)] []))
      exact j12 s₁ _ X0 e0 N0 hv101
    · have hv102 := hv99.trans (if_neg hc100)
      refine Ends.by ?_ (fun _ k => XS.icmpYes X0.here hx rfl (pc0 := 9) (pc' := 191) rfl (hb hby d1_9) rfl (XT.ii_le_t hc100) (by decide) (by decide) k)
      show Ends p e below s _ _ _ (s₁.setTop (mkF m 191 #[.val (.int x0)] []))
      exact j191 s₁ _ X0 e0 N0 hv102

theorem d3_162 : decode method_2_code 162 = .ok (.iconst 0, 1) := by decide +kernel
theorem d3_163 : decode method_2_code 163 = .ok (.ireturn, 1) := by decide +kernel
theorem d3_158 : decode method_2_code 158 = .ok (.iconst 1, 1) := by decide +kernel
theorem d3_159 : decode method_2_code 159 = .ok (.goto 4, 3) := by decide +kernel
theorem d3_146 : decode method_2_code 146 = .ok (.iload_n 0, 1) := by decide +kernel
theorem d3_147 : decode method_2_code 147 = .ok (.ldc 11, 2) := by decide +kernel
theorem d3_149 : decode method_2_code 149 = .ok (.if_icmp .lt 13, 3) := by decide +kernel
theorem d3_152 : decode method_2_code 152 = .ok (.iload_n 0, 1) := by decide +kernel
theorem d3_153 : decode method_2_code 153 = .ok (.ldc 12, 2) := by decide +kernel
theorem d3_155 : decode method_2_code 155 = .ok (.if_icmp .gt 7, 3) := by decide +kernel
theorem d3_134 : decode method_2_code 134 = .ok (.iload_n 0, 1) := by decide +kernel
theorem d3_135 : decode method_2_code 135 = .ok (.ldc 9, 2) := by decide +kernel
theorem d3_137 : decode method_2_code 137 = .ok (.if_icmp .lt 9, 3) := by decide +kernel
theorem d3_140 : decode method_2_code 140 = .ok (.iload_n 0, 1) := by decide +kernel
theorem d3_141 : decode method_2_code 141 = .ok (.ldc 10, 2) := by decide +kernel
theorem d3_143 : decode method_2_code 143 = .ok (.if_icmp .le 15, 3) := by decide +kernel
theorem d3_122 : decode method_2_code 122 = .ok (.iload_n 0, 1) := by decide +kernel
theorem d3_123 : decode method_2_code 123 = .ok (.ldc 7, 2) := by decide +kernel
theorem d3_125 : decode method_2_code 125 = .ok (.if_icmp .lt 9, 3) := by decide +kernel
theorem d3_128 : decode method_2_code 128 = .ok (.iload_n 0, 1) := by decide +kernel
theorem d3_129 : decode method_2_code 129 = .ok (.ldc 8, 2) := by decide +kernel
theorem d3_131 : decode method_2_code 131 = .ok (.if_icmp .le 27, 3) := by decide +kernel
theorem d3_108 : decode method_2_code 108 = .ok (.iload_n 0, 1) := by decide +kernel
theorem d3_109 : decode method_2_code 109 = .ok (.sipush 12272, 3) := by decide +kernel
theorem d3_112 : decode method_2_code 112 = .ok (.if_icmp .lt 10, 3) := by decide +kernel
theorem d3_115 : decode method_2_code 115 = .ok (.iload_n 0, 1) := by decide +kernel
theorem d3_116 : decode method_2_code 116 = .ok (.sipush 12288, 3) := by decide +kernel
theorem d3_119 : decode method_2_code 119 = .ok (.if_icmp .le 39, 3) := by decide +kernel
theorem d3_94 : decode method_2_code 94 = .ok (.iload_n 0, 1) := by decide +kernel
theorem d3_95 : decode method_2_code 95 = .ok (.sipush 8592, 3) := by decide +kernel
theorem d3_98 : decode method_2_code 98 = .ok (.if_icmp .lt 10, 3) := by decide +kernel
theorem d3_101 : decode method_2_code 101 = .ok (.iload_n 0, 1) := by decide +kernel
theorem d3_102 : decode method_2_code 102 = .ok (.sipush 11263, 3) := by decide +kernel
theorem d3_105 : decode method_2_code 105 = .ok (.if_icmp .le 53, 3) := by decide +kernel
theorem d3_80 : decode method_2_code 80 = .ok (.iload_n 0, 1) := by decide +kernel
theorem d3_81 : decode method_2_code 81 = .ok (.sipush 8206, 3) := by decide +kernel
theorem d3_84 : decode method_2_code 84 = .ok (.if_icmp .lt 10, 3) := by decide +kernel
theorem d3_87 : decode method_2_code 87 = .ok (.iload_n 0, 1) := by decide +kernel
theorem d3_88 : decode method_2_code 88 = .ok (.sipush 8303, 3) := by decide +kernel
theorem d3_91 : decode method_2_code 91 = .ok (.if_icmp .le 67, 3) := by decide +kernel
theorem d3_59 : decode method_2_code 59 = .ok (.iload_n 0, 1) := by decide +kernel
theorem d3_60 : decode method_2_code 60 = .ok (.sipush 894, 3) := by decide +kernel
theorem d3_63 : decode method_2_code 63 = .ok (.if_icmp .eq 95, 3) := by decide +kernel
theorem d3_66 : decode method_2_code 66 = .ok (.iload_n 0, 1) := by decide +kernel
theorem d3_67 : decode method_2_code 67 = .ok (.sipush 8192, 3) := by decide +kernel
theorem d3_70 : decode method_2_code 70 = .ok (.if_icmp .lt 10, 3) := by decide +kernel
theorem d3_73 : decode method_2_code 73 = .ok (.iload_n 0, 1) := by decide +kernel
theorem d3_74 : decode method_2_code 74 = .ok (.sipush 8203, 3) := by decide +kernel
theorem d3_77 : decode method_2_code 77 = .ok (.if_icmp .le 81, 3) := by decide +kernel
theorem d3_31 : decode method_2_code 31 = .ok (.iload_n 0, 1) := by decide +kernel
theorem d3_32 : decode method_2_code 32 = .ok (.sipush 215, 3) := by decide +kernel
theorem d3_35 : decode method_2_code 35 = .ok (.if_icmp .eq 123, 3) := by decide +kernel
theorem d3_38 : decode method_2_code 38 = .ok (.iload_n 0, 1) := by decide +kernel
theorem d3_39 : decode method_2_code 39 = .ok (.sipush 247, 3) := by decide +kernel
theorem d3_42 : decode method_2_code 42 = .ok (.if_icmp .eq 116, 3) := by decide +kernel
theorem d3_45 : decode method_2_code 45 = .ok (.iload_n 0, 1) := by decide +kernel
theorem d3_46 : decode method_2_code 46 = .ok (.sipush 768, 3) := by decide +kernel
theorem d3_49 : decode method_2_code 49 = .ok (.if_icmp .lt 10, 3) := by decide +kernel
theorem d3_52 : decode method_2_code 52 = .ok (.iload_n 0, 1) := by decide +kernel
theorem d3_53 : decode method_2_code 53 = .ok (.sipush 879, 3) := by decide +kernel
theorem d3_56 : decode method_2_code 56 = .ok (.if_icmp .le 102, 3) := by decide +kernel
theorem d3_12 : decode method_2_code 12 = .ok (.iload_n 0, 1) := by decide +kernel
theorem d3_13 : decode method_2_code 13 = .ok (.bipush 96, 2) := by decide +kernel
theorem d3_15 : decode method_2_code 15 = .ok (.if_icmp .eq 143, 3) := by decide +kernel
theorem d3_18 : decode method_2_code 18 = .ok (.iload_n 0, 1) := by decide +kernel
theorem d3_19 : decode method_2_code 19 = .ok (.bipush 123, 2) := by decide +kernel
theorem d3_21 : decode method_2_code 21 = .ok (.if_icmp .lt 10, 3) := by decide +kernel
theorem d3_24 : decode method_2_code 24 = .ok (.iload_n 0, 1) := by decide +kernel
theorem d3_25 : decode method_2_code 25 = .ok (.sipush 191, 3) := by decide +kernel
theorem d3_28 : decode method_2_code 28 = .ok (.if_icmp .le 130, 3) := by decide +kernel
theorem d3_0 : decode method_2_code 0 = .ok (.iload_n 0, 1) := by decide +kernel
theorem d3_1 : decode method_2_code 1 = .ok (.bipush 91, 2) := by decide +kernel
theorem d3_3 : decode method_2_code 3 = .ok (.if_icmp .lt 9, 3) := by decide +kernel
theorem d3_6 : decode method_2_code 6 = .ok (.iload_n 0, 1) := by decide +kernel
theorem d3_7 : decode method_2_code 7 = .ok (.bipush 94, 2) := by decide +kernel
theorem d3_9 : decode method_2_code 9 = .ok (.if_icmp .le 149, 3) := by decide +kernel
def f3_162 (x0 : Int32) : Int32 := (0 : Int32)
def f3_158 (x0 : Int32) : Int32 := (1 : Int32)
def f3_146 (x0 : Int32) : Int32 := (if x0 < (65534 : Int32) then (f3_162 x0) else (if (65535 : Int32) < x0 then (f3_162 x0) else (f3_158 x0)))
def f3_134 (x0 : Int32) : Int32 := (if x0 < (64976 : Int32) then (f3_146 x0) else (if (65007 : Int32) < x0 then (f3_146 x0) else (f3_158 x0)))
def f3_122 (x0 : Int32) : Int32 := (if x0 < (55296 : Int32) then (f3_134 x0) else (if (63743 : Int32) < x0 then (f3_134 x0) else (f3_158 x0)))
def f3_108 (x0 : Int32) : Int32 := (if x0 < (12272 : Int32) then (f3_122 x0) else (if (12288 : Int32) < x0 then (f3_122 x0) else (f3_158 x0)))
def f3_94 (x0 : Int32) : Int32 := (if x0 < (8592 : Int32) then (f3_108 x0) else (if (11263 : Int32) < x0 then (f3_108 x0) else (f3_158 x0)))
def f3_80 (x0 : Int32) : Int32 := (if x0 < (8206 : Int32) then (f3_94 x0) else (if (8303 : Int32) < x0 then (f3_94 x0) else (f3_158 x0)))
def f3_59 (x0 : Int32) : Int32 := (if x0 = (894 : Int32) then (f3_158 x0) else (if x0 < (8192 : Int32) then (f3_80 x0) else (if (8203 : Int32) < x0 then (f3_80 x0) else (f3_158 x0))))
def f3_31 (x0 : Int32) : Int32 := (if x0 = (215 : Int32) then (f3_158 x0) else (if x0 = (247 : Int32) then (f3_158 x0) else (if x0 < (768 : Int32) then (f3_59 x0) else (if (879 : Int32) < x0 then (f3_59 x0) else (f3_158 x0)))))
def f3_12 (x0 : Int32) : Int32 := (if x0 = (96 : Int32) then (f3_158 x0) else (if x0 < (123 : Int32) then (f3_31 x0) else (if (191 : Int32) < x0 then (f3_31 x0) else (f3_158 x0))))
def f3 (x0 : Int32) : Int32 := (if x0 < (91 : Int32) then (f3_12 x0) else (if (94 : Int32) < x0 then (f3_12 x0) else (f3_158 x0)))
theorem ef_rm3 (m : MethodId) (x0 : Int32) : entryFrame m #[(.int x0)] 1 = mkF m 0 #[.val (.int x0)] [] := by first | (simp [entryFrame, mkF, argsToLocals, Value.category]; done) | rfl
theorem pn_1 : plainName "com/example/hardy_stream/hardystream/xml/XmlCharsIsNameStartCharPinLaw" = true := by first | (simp [plainName, overriddenIn]; done) | decide +kernel
set_option maxRecDepth 65536 in
set_option maxHeartbeats 40000000 in
theorem rm3 (l : Launch) (Z : State) (a0 : Array Value) (hw : ∀ d ∈ tables_1, d.before a0 Z = true) (ws : List Jvm.Cond) (x0 : Int32) (h0 : Heap) (n0 : Nat) (Z0 : n0 ≤ h0.size) :
    MetFree l (⟨"com/example/hardy_stream/hardystream/xml/XmlCharsIsNameStartCharPinLaw", "inGap", "(I)Z"⟩ : MethodName) (head1 (Jvm.Cond.code (⟨"com/example/hardy_stream/hardystream/xml/XmlCharsIsNameStartCharPinLaw", "inGap", "(I)Z"⟩ : MethodName) method_2_code 1 (some .boolean) :: ws) ({ frames := 0, cells := 0, slots := 0, locals := 0 } : Room)) (fun a U => a = #[(.int x0)] ∧ Z.Warmed39 U.vm ∧ U.heap = h0) (fun _ _ _ _ _ => True) (fun _ U o U' => ∃ v L, o = .returned v ∧ (QP (some (.int (f3 x0))) h0 n0) v U'.heap L ∧ FrameEnd U o U' L ({ frames := 0, cells := 0, slots := 0, locals := 0 } : Room).cells ({ frames := 0, cells := 0, slots := 0, locals := 0 } : Room).slots) := by
  refine MetFree.of_bodySF (plainFor_of_name pn_1) hisR ?_
  intro p e s m args below meth c s₁ Bd hml0 hP hK
  obtain ⟨rfl, hZ, hh⟩ := hP
  have hx := Bd.exec
  have hby := Bd.bytes
  have hml : c.maxLocals = 1 := hml0
  have hown : s.vm.findClass "com/example/hardy_stream/hardystream/xml/XmlCharsIsNameStartCharPinLaw" = some m.cls := findClass_of_methodNamed Bd.named
  have hnm := (name_of_methodNamed Bd.named Bd.method).1
  have X0 : Stand p l e ({ frames := 0, cells := 0, slots := 0, locals := 0 } : Room) s m #[(.int x0)] below meth c s₁ [] 0 0 := Stand.of_body Bd
  have e0 : s₁.heap = h0 := by rw [← hh, Bd.state]; rfl
  have N0 := Fr.nil n0
  show Ends p e below s (QP (some (.int (f3 x0))) h0 n0) ({ frames := 0, cells := 0, slots := 0, locals := 0 } : Room).cells ({ frames := 0, cells := 0, slots := 0, locals := 0 } : Room).slots (s₁.setTop (entryFrame m #[(.int x0)] 1))
  rw [ef_rm3 m x0]
  have hv0 : f3 x0 = f3 x0 := rfl
  show Ends p e below s _ _ _ (s₁.setTop (mkF m 0 #[.val (.int x0)] []))
  have j162 : ∀ (T : State) (locs : List Loc) (X : Stand p l e ({ frames := 0, cells := 0, slots := 0, locals := 0 } : Room) s m #[(.int x0)] below meth c T locs 0 0) (eT : T.heap = h0) (N : Fr n0 locs) (hv1 : f3 x0 = f3_162 x0), Ends p e below s (QP (some (.int (f3 x0))) h0 n0) ({ frames := 0, cells := 0, slots := 0, locals := 0 } : Room).cells ({ frames := 0, cells := 0, slots := 0, locals := 0 } : Room).slots (T.setTop (mkF m 162 #[.val (.int x0)] [])) := by
    intro T locs X eT N  hv1
    refine Ends.by ?_ (fun _ k => XS.iconst X.here hx rfl (hb hby d3_162) k)
    show Ends p e below s _ _ _ (T.setTop (mkF m 163 #[.val (.int x0)] [(.int (0 : Int32))]))
    exact Ends.retN X hx Bd.notSynchronized Bd.returns (t := .boolean) (by simp) (hb hby d3_163) (w := (0 : Int32)) rfl ⟨by rw [hv1]; first | done | rfl, N, eT⟩ (by decide) (by decide)
  have j158 : ∀ (T : State) (locs : List Loc) (X : Stand p l e ({ frames := 0, cells := 0, slots := 0, locals := 0 } : Room) s m #[(.int x0)] below meth c T locs 0 0) (eT : T.heap = h0) (N : Fr n0 locs) (hv2 : f3 x0 = f3_158 x0), Ends p e below s (QP (some (.int (f3 x0))) h0 n0) ({ frames := 0, cells := 0, slots := 0, locals := 0 } : Room).cells ({ frames := 0, cells := 0, slots := 0, locals := 0 } : Room).slots (T.setTop (mkF m 158 #[.val (.int x0)] [])) := by
    intro T locs X eT N  hv2
    refine Ends.by ?_ (fun _ k => XS.iconst X.here hx rfl (hb hby d3_158) k)
    show Ends p e below s _ _ _ (T.setTop (mkF m 159 #[.val (.int x0)] [(.int (1 : Int32))]))
    refine Ends.by ?_ (fun _ k => XS.goto X.here hx rfl (pc0 := 159) (pc' := 163) rfl (hb hby d3_159) (by decide) (by decide) k)
    show Ends p e below s _ _ _ (T.setTop (mkF m 163 #[.val (.int x0)] [(.int (1 : Int32))]))
    exact Ends.retN X hx Bd.notSynchronized Bd.returns (t := .boolean) (by simp) (hb hby d3_163) (w := (1 : Int32)) rfl ⟨by rw [hv2]; first | done | rfl, N, eT⟩ (by decide) (by decide)
  have j146 : ∀ (T : State) (locs : List Loc) (X : Stand p l e ({ frames := 0, cells := 0, slots := 0, locals := 0 } : Room) s m #[(.int x0)] below meth c T locs 0 0) (eT : T.heap = h0) (N : Fr n0 locs) (hv3 : f3 x0 = f3_146 x0), Ends p e below s (QP (some (.int (f3 x0))) h0 n0) ({ frames := 0, cells := 0, slots := 0, locals := 0 } : Room).cells ({ frames := 0, cells := 0, slots := 0, locals := 0 } : Room).slots (T.setTop (mkF m 146 #[.val (.int x0)] [])) := by
    intro T locs X eT N  hv3
    refine Ends.by ?_ (fun _ k => XS.iloadN X.here hx rfl (hb hby d3_146) rfl k)
    show Ends p e below s _ _ _ (T.setTop (mkF m 147 #[.val (.int x0)] [(.int x0)]))
    refine Ends.by ?_ (X.ldcInt hx hown (mvT hZ (hw _ (List.mem_of_getElem? (i := 18) rfl))) (g := (mkF m 147 #[.val (.int x0)] [(.int x0)])) rfl (hb hby d3_147))
    show Ends p e below s _ _ _ (T.setTop (mkF m 149 #[.val (.int x0)] [(.int (65534 : Int32)), (.int x0)]))
    by_cases hc4 : x0 < (65534 : Int32)
    · have hv5 := hv3.trans (if_pos hc4)
      refine Ends.by ?_ (fun _ k => XS.icmpYes X.here hx rfl (pc0 := 149) (pc' := 162) rfl (hb hby d3_149) rfl (XT.ii_lt_t hc4) (by decide) (by decide) k)
      show Ends p e below s _ _ _ (T.setTop (mkF m 162 #[.val (.int x0)] []))
      exact j162 T _ X eT N hv5
    · have hv6 := hv3.trans (if_neg hc4)
      refine Ends.by ?_ (fun _ k => XS.icmpNo X.here hx rfl (hb hby d3_149) rfl (XT.ii_lt_f hc4) k)
      show Ends p e below s _ _ _ (T.setTop (mkF m 152 #[.val (.int x0)] []))
      refine Ends.by ?_ (fun _ k => XS.iloadN X.here hx rfl (hb hby d3_152) rfl k)
      show Ends p e below s _ _ _ (T.setTop (mkF m 153 #[.val (.int x0)] [(.int x0)]))
      refine Ends.by ?_ (X.ldcInt hx hown (mvT hZ (hw _ (List.mem_of_getElem? (i := 0) rfl))) (g := (mkF m 153 #[.val (.int x0)] [(.int x0)])) rfl (hb hby d3_153))
      show Ends p e below s _ _ _ (T.setTop (mkF m 155 #[.val (.int x0)] [(.int (65535 : Int32)), (.int x0)]))
      by_cases hc7 : (65535 : Int32) < x0
      · have hv8 := hv6.trans (if_pos hc7)
        refine Ends.by ?_ (fun _ k => XS.icmpYes X.here hx rfl (pc0 := 155) (pc' := 162) rfl (hb hby d3_155) rfl (XT.ii_gt_t hc7) (by decide) (by decide) k)
        show Ends p e below s _ _ _ (T.setTop (mkF m 162 #[.val (.int x0)] []))
        exact j162 T _ X eT N hv8
      · have hv9 := hv6.trans (if_neg hc7)
        refine Ends.by ?_ (fun _ k => XS.icmpNo X.here hx rfl (hb hby d3_155) rfl (XT.ii_gt_f hc7) k)
        show Ends p e below s _ _ _ (T.setTop (mkF m 158 #[.val (.int x0)] []))
        exact j158 T _ X eT N hv9
  have j134 : ∀ (T : State) (locs : List Loc) (X : Stand p l e ({ frames := 0, cells := 0, slots := 0, locals := 0 } : Room) s m #[(.int x0)] below meth c T locs 0 0) (eT : T.heap = h0) (N : Fr n0 locs) (hv10 : f3 x0 = f3_134 x0), Ends p e below s (QP (some (.int (f3 x0))) h0 n0) ({ frames := 0, cells := 0, slots := 0, locals := 0 } : Room).cells ({ frames := 0, cells := 0, slots := 0, locals := 0 } : Room).slots (T.setTop (mkF m 134 #[.val (.int x0)] [])) := by
    intro T locs X eT N  hv10
    refine Ends.by ?_ (fun _ k => XS.iloadN X.here hx rfl (hb hby d3_134) rfl k)
    show Ends p e below s _ _ _ (T.setTop (mkF m 135 #[.val (.int x0)] [(.int x0)]))
    refine Ends.by ?_ (X.ldcInt hx hown (mvT hZ (hw _ (List.mem_of_getElem? (i := 17) rfl))) (g := (mkF m 135 #[.val (.int x0)] [(.int x0)])) rfl (hb hby d3_135))
    show Ends p e below s _ _ _ (T.setTop (mkF m 137 #[.val (.int x0)] [(.int (64976 : Int32)), (.int x0)]))
    by_cases hc11 : x0 < (64976 : Int32)
    · have hv12 := hv10.trans (if_pos hc11)
      refine Ends.by ?_ (fun _ k => XS.icmpYes X.here hx rfl (pc0 := 137) (pc' := 146) rfl (hb hby d3_137) rfl (XT.ii_lt_t hc11) (by decide) (by decide) k)
      show Ends p e below s _ _ _ (T.setTop (mkF m 146 #[.val (.int x0)] []))
      exact j146 T _ X eT N hv12
    · have hv13 := hv10.trans (if_neg hc11)
      refine Ends.by ?_ (fun _ k => XS.icmpNo X.here hx rfl (hb hby d3_137) rfl (XT.ii_lt_f hc11) k)
      show Ends p e below s _ _ _ (T.setTop (mkF m 140 #[.val (.int x0)] []))
      refine Ends.by ?_ (fun _ k => XS.iloadN X.here hx rfl (hb hby d3_140) rfl k)
      show Ends p e below s _ _ _ (T.setTop (mkF m 141 #[.val (.int x0)] [(.int x0)]))
      refine Ends.by ?_ (X.ldcInt hx hown (mvT hZ (hw _ (List.mem_of_getElem? (i := 24) rfl))) (g := (mkF m 141 #[.val (.int x0)] [(.int x0)])) rfl (hb hby d3_141))
      show Ends p e below s _ _ _ (T.setTop (mkF m 143 #[.val (.int x0)] [(.int (65007 : Int32)), (.int x0)]))
      by_cases hc14 : (65007 : Int32) < x0
      · have hv15 := hv13.trans (if_pos hc14)
        refine Ends.by ?_ (fun _ k => XS.icmpNo X.here hx rfl (hb hby d3_143) rfl (XT.ii_le_f hc14) k)
        show Ends p e below s _ _ _ (T.setTop (mkF m 146 #[.val (.int x0)] []))
        exact j146 T _ X eT N hv15
      · have hv16 := hv13.trans (if_neg hc14)
        refine Ends.by ?_ (fun _ k => XS.icmpYes X.here hx rfl (pc0 := 143) (pc' := 158) rfl (hb hby d3_143) rfl (XT.ii_le_t hc14) (by decide) (by decide) k)
        show Ends p e below s _ _ _ (T.setTop (mkF m 158 #[.val (.int x0)] []))
        exact j158 T _ X eT N hv16
  have j122 : ∀ (T : State) (locs : List Loc) (X : Stand p l e ({ frames := 0, cells := 0, slots := 0, locals := 0 } : Room) s m #[(.int x0)] below meth c T locs 0 0) (eT : T.heap = h0) (N : Fr n0 locs) (hv17 : f3 x0 = f3_122 x0), Ends p e below s (QP (some (.int (f3 x0))) h0 n0) ({ frames := 0, cells := 0, slots := 0, locals := 0 } : Room).cells ({ frames := 0, cells := 0, slots := 0, locals := 0 } : Room).slots (T.setTop (mkF m 122 #[.val (.int x0)] [])) := by
    intro T locs X eT N  hv17
    refine Ends.by ?_ (fun _ k => XS.iloadN X.here hx rfl (hb hby d3_122) rfl k)
    show Ends p e below s _ _ _ (T.setTop (mkF m 123 #[.val (.int x0)] [(.int x0)]))
    refine Ends.by ?_ (X.ldcInt hx hown (mvT hZ (hw _ (List.mem_of_getElem? (i := 16) rfl))) (g := (mkF m 123 #[.val (.int x0)] [(.int x0)])) rfl (hb hby d3_123))
    show Ends p e below s _ _ _ (T.setTop (mkF m 125 #[.val (.int x0)] [(.int (55296 : Int32)), (.int x0)]))
    by_cases hc18 : x0 < (55296 : Int32)
    · have hv19 := hv17.trans (if_pos hc18)
      refine Ends.by ?_ (fun _ k => XS.icmpYes X.here hx rfl (pc0 := 125) (pc' := 134) rfl (hb hby d3_125) rfl (XT.ii_lt_t hc18) (by decide) (by decide) k)
      show Ends p e below s _ _ _ (T.setTop (mkF m 134 #[.val (.int x0)] []))
      exact j134 T _ X eT N hv19
    · have hv20 := hv17.trans (if_neg hc18)
      refine Ends.by ?_ (fun _ k => XS.icmpNo X.here hx rfl (hb hby d3_125) rfl (XT.ii_lt_f hc18) k)
      show Ends p e below s _ _ _ (T.setTop (mkF m 128 #[.val (.int x0)] []))
      refine Ends.by ?_ (fun _ k => XS.iloadN X.here hx rfl (hb hby d3_128) rfl k)
      show Ends p e below s _ _ _ (T.setTop (mkF m 129 #[.val (.int x0)] [(.int x0)]))
      refine Ends.by ?_ (X.ldcInt hx hown (mvT hZ (hw _ (List.mem_of_getElem? (i := 23) rfl))) (g := (mkF m 129 #[.val (.int x0)] [(.int x0)])) rfl (hb hby d3_129))
      show Ends p e below s _ _ _ (T.setTop (mkF m 131 #[.val (.int x0)] [(.int (63743 : Int32)), (.int x0)]))
      by_cases hc21 : (63743 : Int32) < x0
      · have hv22 := hv20.trans (if_pos hc21)
        refine Ends.by ?_ (fun _ k => XS.icmpNo X.here hx rfl (hb hby d3_131) rfl (XT.ii_le_f hc21) k)
        show Ends p e below s _ _ _ (T.setTop (mkF m 134 #[.val (.int x0)] []))
        exact j134 T _ X eT N hv22
      · have hv23 := hv20.trans (if_neg hc21)
        refine Ends.by ?_ (fun _ k => XS.icmpYes X.here hx rfl (pc0 := 131) (pc' := 158) rfl (hb hby d3_131) rfl (XT.ii_le_t hc21) (by decide) (by decide) k)
        show Ends p e below s _ _ _ (T.setTop (mkF m 158 #[.val (.int x0)] []))
        exact j158 T _ X eT N hv23
  have j108 : ∀ (T : State) (locs : List Loc) (X : Stand p l e ({ frames := 0, cells := 0, slots := 0, locals := 0 } : Room) s m #[(.int x0)] below meth c T locs 0 0) (eT : T.heap = h0) (N : Fr n0 locs) (hv24 : f3 x0 = f3_108 x0), Ends p e below s (QP (some (.int (f3 x0))) h0 n0) ({ frames := 0, cells := 0, slots := 0, locals := 0 } : Room).cells ({ frames := 0, cells := 0, slots := 0, locals := 0 } : Room).slots (T.setTop (mkF m 108 #[.val (.int x0)] [])) := by
    intro T locs X eT N  hv24
    refine Ends.by ?_ (fun _ k => XS.iloadN X.here hx rfl (hb hby d3_108) rfl k)
    show Ends p e below s _ _ _ (T.setTop (mkF m 109 #[.val (.int x0)] [(.int x0)]))
    refine Ends.by ?_ (fun _ k => XS.sipush X.here hx rfl (hb hby d3_109) k)
    show Ends p e below s _ _ _ (T.setTop (mkF m 112 #[.val (.int x0)] [(.int (12272 : Int32)), (.int x0)]))
    by_cases hc25 : x0 < (12272 : Int32)
    · have hv26 := hv24.trans (if_pos hc25)
      refine Ends.by ?_ (fun _ k => XS.icmpYes X.here hx rfl (pc0 := 112) (pc' := 122) rfl (hb hby d3_112) rfl (XT.ii_lt_t hc25) (by decide) (by decide) k)
      show Ends p e below s _ _ _ (T.setTop (mkF m 122 #[.val (.int x0)] []))
      exact j122 T _ X eT N hv26
    · have hv27 := hv24.trans (if_neg hc25)
      refine Ends.by ?_ (fun _ k => XS.icmpNo X.here hx rfl (hb hby d3_112) rfl (XT.ii_lt_f hc25) k)
      show Ends p e below s _ _ _ (T.setTop (mkF m 115 #[.val (.int x0)] []))
      refine Ends.by ?_ (fun _ k => XS.iloadN X.here hx rfl (hb hby d3_115) rfl k)
      show Ends p e below s _ _ _ (T.setTop (mkF m 116 #[.val (.int x0)] [(.int x0)]))
      refine Ends.by ?_ (fun _ k => XS.sipush X.here hx rfl (hb hby d3_116) k)
      show Ends p e below s _ _ _ (T.setTop (mkF m 119 #[.val (.int x0)] [(.int (12288 : Int32)), (.int x0)]))
      by_cases hc28 : (12288 : Int32) < x0
      · have hv29 := hv27.trans (if_pos hc28)
        refine Ends.by ?_ (fun _ k => XS.icmpNo X.here hx rfl (hb hby d3_119) rfl (XT.ii_le_f hc28) k)
        show Ends p e below s _ _ _ (T.setTop (mkF m 122 #[.val (.int x0)] []))
        exact j122 T _ X eT N hv29
      · have hv30 := hv27.trans (if_neg hc28)
        refine Ends.by ?_ (fun _ k => XS.icmpYes X.here hx rfl (pc0 := 119) (pc' := 158) rfl (hb hby d3_119) rfl (XT.ii_le_t hc28) (by decide) (by decide) k)
        show Ends p e below s _ _ _ (T.setTop (mkF m 158 #[.val (.int x0)] []))
        exact j158 T _ X eT N hv30
  have j94 : ∀ (T : State) (locs : List Loc) (X : Stand p l e ({ frames := 0, cells := 0, slots := 0, locals := 0 } : Room) s m #[(.int x0)] below meth c T locs 0 0) (eT : T.heap = h0) (N : Fr n0 locs) (hv31 : f3 x0 = f3_94 x0), Ends p e below s (QP (some (.int (f3 x0))) h0 n0) ({ frames := 0, cells := 0, slots := 0, locals := 0 } : Room).cells ({ frames := 0, cells := 0, slots := 0, locals := 0 } : Room).slots (T.setTop (mkF m 94 #[.val (.int x0)] [])) := by
    intro T locs X eT N  hv31
    refine Ends.by ?_ (fun _ k => XS.iloadN X.here hx rfl (hb hby d3_94) rfl k)
    show Ends p e below s _ _ _ (T.setTop (mkF m 95 #[.val (.int x0)] [(.int x0)]))
    refine Ends.by ?_ (fun _ k => XS.sipush X.here hx rfl (hb hby d3_95) k)
    show Ends p e below s _ _ _ (T.setTop (mkF m 98 #[.val (.int x0)] [(.int (8592 : Int32)), (.int x0)]))
    by_cases hc32 : x0 < (8592 : Int32)
    · have hv33 := hv31.trans (if_pos hc32)
      refine Ends.by ?_ (fun _ k => XS.icmpYes X.here hx rfl (pc0 := 98) (pc' := 108) rfl (hb hby d3_98) rfl (XT.ii_lt_t hc32) (by decide) (by decide) k)
      show Ends p e below s _ _ _ (T.setTop (mkF m 108 #[.val (.int x0)] []))
      exact j108 T _ X eT N hv33
    · have hv34 := hv31.trans (if_neg hc32)
      refine Ends.by ?_ (fun _ k => XS.icmpNo X.here hx rfl (hb hby d3_98) rfl (XT.ii_lt_f hc32) k)
      show Ends p e below s _ _ _ (T.setTop (mkF m 101 #[.val (.int x0)] []))
      refine Ends.by ?_ (fun _ k => XS.iloadN X.here hx rfl (hb hby d3_101) rfl k)
      show Ends p e below s _ _ _ (T.setTop (mkF m 102 #[.val (.int x0)] [(.int x0)]))
      refine Ends.by ?_ (fun _ k => XS.sipush X.here hx rfl (hb hby d3_102) k)
      show Ends p e below s _ _ _ (T.setTop (mkF m 105 #[.val (.int x0)] [(.int (11263 : Int32)), (.int x0)]))
      by_cases hc35 : (11263 : Int32) < x0
      · have hv36 := hv34.trans (if_pos hc35)
        refine Ends.by ?_ (fun _ k => XS.icmpNo X.here hx rfl (hb hby d3_105) rfl (XT.ii_le_f hc35) k)
        show Ends p e below s _ _ _ (T.setTop (mkF m 108 #[.val (.int x0)] []))
        exact j108 T _ X eT N hv36
      · have hv37 := hv34.trans (if_neg hc35)
        refine Ends.by ?_ (fun _ k => XS.icmpYes X.here hx rfl (pc0 := 105) (pc' := 158) rfl (hb hby d3_105) rfl (XT.ii_le_t hc35) (by decide) (by decide) k)
        show Ends p e below s _ _ _ (T.setTop (mkF m 158 #[.val (.int x0)] []))
        exact j158 T _ X eT N hv37
  have j80 : ∀ (T : State) (locs : List Loc) (X : Stand p l e ({ frames := 0, cells := 0, slots := 0, locals := 0 } : Room) s m #[(.int x0)] below meth c T locs 0 0) (eT : T.heap = h0) (N : Fr n0 locs) (hv38 : f3 x0 = f3_80 x0), Ends p e below s (QP (some (.int (f3 x0))) h0 n0) ({ frames := 0, cells := 0, slots := 0, locals := 0 } : Room).cells ({ frames := 0, cells := 0, slots := 0, locals := 0 } : Room).slots (T.setTop (mkF m 80 #[.val (.int x0)] [])) := by
    intro T locs X eT N  hv38
    refine Ends.by ?_ (fun _ k => XS.iloadN X.here hx rfl (hb hby d3_80) rfl k)
    show Ends p e below s _ _ _ (T.setTop (mkF m 81 #[.val (.int x0)] [(.int x0)]))
    refine Ends.by ?_ (fun _ k => XS.sipush X.here hx rfl (hb hby d3_81) k)
    show Ends p e below s _ _ _ (T.setTop (mkF m 84 #[.val (.int x0)] [(.int (8206 : Int32)), (.int x0)]))
    by_cases hc39 : x0 < (8206 : Int32)
    · have hv40 := hv38.trans (if_pos hc39)
      refine Ends.by ?_ (fun _ k => XS.icmpYes X.here hx rfl (pc0 := 84) (pc' := 94) rfl (hb hby d3_84) rfl (XT.ii_lt_t hc39) (by decide) (by decide) k)
      show Ends p e below s _ _ _ (T.setTop (mkF m 94 #[.val (.int x0)] []))
      exact j94 T _ X eT N hv40
    · have hv41 := hv38.trans (if_neg hc39)
      refine Ends.by ?_ (fun _ k => XS.icmpNo X.here hx rfl (hb hby d3_84) rfl (XT.ii_lt_f hc39) k)
      show Ends p e below s _ _ _ (T.setTop (mkF m 87 #[.val (.int x0)] []))
      refine Ends.by ?_ (fun _ k => XS.iloadN X.here hx rfl (hb hby d3_87) rfl k)
      show Ends p e below s _ _ _ (T.setTop (mkF m 88 #[.val (.int x0)] [(.int x0)]))
      refine Ends.by ?_ (fun _ k => XS.sipush X.here hx rfl (hb hby d3_88) k)
      show Ends p e below s _ _ _ (T.setTop (mkF m 91 #[.val (.int x0)] [(.int (8303 : Int32)), (.int x0)]))
      by_cases hc42 : (8303 : Int32) < x0
      · have hv43 := hv41.trans (if_pos hc42)
        refine Ends.by ?_ (fun _ k => XS.icmpNo X.here hx rfl (hb hby d3_91) rfl (XT.ii_le_f hc42) k)
        show Ends p e below s _ _ _ (T.setTop (mkF m 94 #[.val (.int x0)] []))
        exact j94 T _ X eT N hv43
      · have hv44 := hv41.trans (if_neg hc42)
        refine Ends.by ?_ (fun _ k => XS.icmpYes X.here hx rfl (pc0 := 91) (pc' := 158) rfl (hb hby d3_91) rfl (XT.ii_le_t hc42) (by decide) (by decide) k)
        show Ends p e below s _ _ _ (T.setTop (mkF m 158 #[.val (.int x0)] []))
        exact j158 T _ X eT N hv44
  have j59 : ∀ (T : State) (locs : List Loc) (X : Stand p l e ({ frames := 0, cells := 0, slots := 0, locals := 0 } : Room) s m #[(.int x0)] below meth c T locs 0 0) (eT : T.heap = h0) (N : Fr n0 locs) (hv45 : f3 x0 = f3_59 x0), Ends p e below s (QP (some (.int (f3 x0))) h0 n0) ({ frames := 0, cells := 0, slots := 0, locals := 0 } : Room).cells ({ frames := 0, cells := 0, slots := 0, locals := 0 } : Room).slots (T.setTop (mkF m 59 #[.val (.int x0)] [])) := by
    intro T locs X eT N  hv45
    refine Ends.by ?_ (fun _ k => XS.iloadN X.here hx rfl (hb hby d3_59) rfl k)
    show Ends p e below s _ _ _ (T.setTop (mkF m 60 #[.val (.int x0)] [(.int x0)]))
    refine Ends.by ?_ (fun _ k => XS.sipush X.here hx rfl (hb hby d3_60) k)
    show Ends p e below s _ _ _ (T.setTop (mkF m 63 #[.val (.int x0)] [(.int (894 : Int32)), (.int x0)]))
    by_cases hc46 : x0 = (894 : Int32)
    · have hv47 := hv45.trans (if_pos hc46)
      refine Ends.by ?_ (fun _ k => XS.icmpYes X.here hx rfl (pc0 := 63) (pc' := 158) rfl (hb hby d3_63) rfl (XT.ii_eq_t hc46) (by decide) (by decide) k)
      show Ends p e below s _ _ _ (T.setTop (mkF m 158 #[.val (.int x0)] []))
      exact j158 T _ X eT N hv47
    · have hv48 := hv45.trans (if_neg hc46)
      refine Ends.by ?_ (fun _ k => XS.icmpNo X.here hx rfl (hb hby d3_63) rfl (XT.ii_eq_f hc46) k)
      show Ends p e below s _ _ _ (T.setTop (mkF m 66 #[.val (.int x0)] []))
      refine Ends.by ?_ (fun _ k => XS.iloadN X.here hx rfl (hb hby d3_66) rfl k)
      show Ends p e below s _ _ _ (T.setTop (mkF m 67 #[.val (.int x0)] [(.int x0)]))
      refine Ends.by ?_ (fun _ k => XS.sipush X.here hx rfl (hb hby d3_67) k)
      show Ends p e below s _ _ _ (T.setTop (mkF m 70 #[.val (.int x0)] [(.int (8192 : Int32)), (.int x0)]))
      by_cases hc49 : x0 < (8192 : Int32)
      · have hv50 := hv48.trans (if_pos hc49)
        refine Ends.by ?_ (fun _ k => XS.icmpYes X.here hx rfl (pc0 := 70) (pc' := 80) rfl (hb hby d3_70) rfl (XT.ii_lt_t hc49) (by decide) (by decide) k)
        show Ends p e below s _ _ _ (T.setTop (mkF m 80 #[.val (.int x0)] []))
        exact j80 T _ X eT N hv50
      · have hv51 := hv48.trans (if_neg hc49)
        refine Ends.by ?_ (fun _ k => XS.icmpNo X.here hx rfl (hb hby d3_70) rfl (XT.ii_lt_f hc49) k)
        show Ends p e below s _ _ _ (T.setTop (mkF m 73 #[.val (.int x0)] []))
        refine Ends.by ?_ (fun _ k => XS.iloadN X.here hx rfl (hb hby d3_73) rfl k)
        show Ends p e below s _ _ _ (T.setTop (mkF m 74 #[.val (.int x0)] [(.int x0)]))
        refine Ends.by ?_ (fun _ k => XS.sipush X.here hx rfl (hb hby d3_74) k)
        show Ends p e below s _ _ _ (T.setTop (mkF m 77 #[.val (.int x0)] [(.int (8203 : Int32)), (.int x0)]))
        by_cases hc52 : (8203 : Int32) < x0
        · have hv53 := hv51.trans (if_pos hc52)
          refine Ends.by ?_ (fun _ k => XS.icmpNo X.here hx rfl (hb hby d3_77) rfl (XT.ii_le_f hc52) k)
          show Ends p e below s _ _ _ (T.setTop (mkF m 80 #[.val (.int x0)] []))
          exact j80 T _ X eT N hv53
        · have hv54 := hv51.trans (if_neg hc52)
          refine Ends.by ?_ (fun _ k => XS.icmpYes X.here hx rfl (pc0 := 77) (pc' := 158) rfl (hb hby d3_77) rfl (XT.ii_le_t hc52) (by decide) (by decide) k)
          show Ends p e below s _ _ _ (T.setTop (mkF m 158 #[.val (.int x0)] []))
          exact j158 T _ X eT N hv54
  have j31 : ∀ (T : State) (locs : List Loc) (X : Stand p l e ({ frames := 0, cells := 0, slots := 0, locals := 0 } : Room) s m #[(.int x0)] below meth c T locs 0 0) (eT : T.heap = h0) (N : Fr n0 locs) (hv55 : f3 x0 = f3_31 x0), Ends p e below s (QP (some (.int (f3 x0))) h0 n0) ({ frames := 0, cells := 0, slots := 0, locals := 0 } : Room).cells ({ frames := 0, cells := 0, slots := 0, locals := 0 } : Room).slots (T.setTop (mkF m 31 #[.val (.int x0)] [])) := by
    intro T locs X eT N  hv55
    refine Ends.by ?_ (fun _ k => XS.iloadN X.here hx rfl (hb hby d3_31) rfl k)
    show Ends p e below s _ _ _ (T.setTop (mkF m 32 #[.val (.int x0)] [(.int x0)]))
    refine Ends.by ?_ (fun _ k => XS.sipush X.here hx rfl (hb hby d3_32) k)
    show Ends p e below s _ _ _ (T.setTop (mkF m 35 #[.val (.int x0)] [(.int (215 : Int32)), (.int x0)]))
    by_cases hc56 : x0 = (215 : Int32)
    · have hv57 := hv55.trans (if_pos hc56)
      refine Ends.by ?_ (fun _ k => XS.icmpYes X.here hx rfl (pc0 := 35) (pc' := 158) rfl (hb hby d3_35) rfl (XT.ii_eq_t hc56) (by decide) (by decide) k)
      show Ends p e below s _ _ _ (T.setTop (mkF m 158 #[.val (.int x0)] []))
      exact j158 T _ X eT N hv57
    · have hv58 := hv55.trans (if_neg hc56)
      refine Ends.by ?_ (fun _ k => XS.icmpNo X.here hx rfl (hb hby d3_35) rfl (XT.ii_eq_f hc56) k)
      show Ends p e below s _ _ _ (T.setTop (mkF m 38 #[.val (.int x0)] []))
      refine Ends.by ?_ (fun _ k => XS.iloadN X.here hx rfl (hb hby d3_38) rfl k)
      show Ends p e below s _ _ _ (T.setTop (mkF m 39 #[.val (.int x0)] [(.int x0)]))
      refine Ends.by ?_ (fun _ k => XS.sipush X.here hx rfl (hb hby d3_39) k)
      show Ends p e below s _ _ _ (T.setTop (mkF m 42 #[.val (.int x0)] [(.int (247 : Int32)), (.int x0)]))
      by_cases hc59 : x0 = (247 : Int32)
      · have hv60 := hv58.trans (if_pos hc59)
        refine Ends.by ?_ (fun _ k => XS.icmpYes X.here hx rfl (pc0 := 42) (pc' := 158) rfl (hb hby d3_42) rfl (XT.ii_eq_t hc59) (by decide) (by decide) k)
        show Ends p e below s _ _ _ (T.setTop (mkF m 158 #[.val (.int x0)] []))
        exact j158 T _ X eT N hv60
      · have hv61 := hv58.trans (if_neg hc59)
        refine Ends.by ?_ (fun _ k => XS.icmpNo X.here hx rfl (hb hby d3_42) rfl (XT.ii_eq_f hc59) k)
        show Ends p e below s _ _ _ (T.setTop (mkF m 45 #[.val (.int x0)] []))
        refine Ends.by ?_ (fun _ k => XS.iloadN X.here hx rfl (hb hby d3_45) rfl k)
        show Ends p e below s _ _ _ (T.setTop (mkF m 46 #[.val (.int x0)] [(.int x0)]))
        refine Ends.by ?_ (fun _ k => XS.sipush X.here hx rfl (hb hby d3_46) k)
        show Ends p e below s _ _ _ (T.setTop (mkF m 49 #[.val (.int x0)] [(.int (768 : Int32)), (.int x0)]))
        by_cases hc62 : x0 < (768 : Int32)
        · have hv63 := hv61.trans (if_pos hc62)
          refine Ends.by ?_ (fun _ k => XS.icmpYes X.here hx rfl (pc0 := 49) (pc' := 59) rfl (hb hby d3_49) rfl (XT.ii_lt_t hc62) (by decide) (by decide) k)
          show Ends p e below s _ _ _ (T.setTop (mkF m 59 #[.val (.int x0)] []))
          exact j59 T _ X eT N hv63
        · have hv64 := hv61.trans (if_neg hc62)
          refine Ends.by ?_ (fun _ k => XS.icmpNo X.here hx rfl (hb hby d3_49) rfl (XT.ii_lt_f hc62) k)
          show Ends p e below s _ _ _ (T.setTop (mkF m 52 #[.val (.int x0)] []))
          refine Ends.by ?_ (fun _ k => XS.iloadN X.here hx rfl (hb hby d3_52) rfl k)
          show Ends p e below s _ _ _ (T.setTop (mkF m 53 #[.val (.int x0)] [(.int x0)]))
          refine Ends.by ?_ (fun _ k => XS.sipush X.here hx rfl (hb hby d3_53) k)
          show Ends p e below s _ _ _ (T.setTop (mkF m 56 #[.val (.int x0)] [(.int (879 : Int32)), (.int x0)]))
          by_cases hc65 : (879 : Int32) < x0
          · have hv66 := hv64.trans (if_pos hc65)
            refine Ends.by ?_ (fun _ k => XS.icmpNo X.here hx rfl (hb hby d3_56) rfl (XT.ii_le_f hc65) k)
            show Ends p e below s _ _ _ (T.setTop (mkF m 59 #[.val (.int x0)] []))
            exact j59 T _ X eT N hv66
          · have hv67 := hv64.trans (if_neg hc65)
            refine Ends.by ?_ (fun _ k => XS.icmpYes X.here hx rfl (pc0 := 56) (pc' := 158) rfl (hb hby d3_56) rfl (XT.ii_le_t hc65) (by decide) (by decide) k)
            show Ends p e below s _ _ _ (T.setTop (mkF m 158 #[.val (.int x0)] []))
            exact j158 T _ X eT N hv67
  have j12 : ∀ (T : State) (locs : List Loc) (X : Stand p l e ({ frames := 0, cells := 0, slots := 0, locals := 0 } : Room) s m #[(.int x0)] below meth c T locs 0 0) (eT : T.heap = h0) (N : Fr n0 locs) (hv68 : f3 x0 = f3_12 x0), Ends p e below s (QP (some (.int (f3 x0))) h0 n0) ({ frames := 0, cells := 0, slots := 0, locals := 0 } : Room).cells ({ frames := 0, cells := 0, slots := 0, locals := 0 } : Room).slots (T.setTop (mkF m 12 #[.val (.int x0)] [])) := by
    intro T locs X eT N  hv68
    refine Ends.by ?_ (fun _ k => XS.iloadN X.here hx rfl (hb hby d3_12) rfl k)
    show Ends p e below s _ _ _ (T.setTop (mkF m 13 #[.val (.int x0)] [(.int x0)]))
    refine Ends.by ?_ (fun _ k => XS.bipush X.here hx rfl (hb hby d3_13) k)
    show Ends p e below s _ _ _ (T.setTop (mkF m 15 #[.val (.int x0)] [(.int (96 : Int32)), (.int x0)]))
    by_cases hc69 : x0 = (96 : Int32)
    · have hv70 := hv68.trans (if_pos hc69)
      refine Ends.by ?_ (fun _ k => XS.icmpYes X.here hx rfl (pc0 := 15) (pc' := 158) rfl (hb hby d3_15) rfl (XT.ii_eq_t hc69) (by decide) (by decide) k)
      show Ends p e below s _ _ _ (T.setTop (mkF m 158 #[.val (.int x0)] []))
      exact j158 T _ X eT N hv70
    · have hv71 := hv68.trans (if_neg hc69)
      refine Ends.by ?_ (fun _ k => XS.icmpNo X.here hx rfl (hb hby d3_15) rfl (XT.ii_eq_f hc69) k)
      show Ends p e below s _ _ _ (T.setTop (mkF m 18 #[.val (.int x0)] []))
      refine Ends.by ?_ (fun _ k => XS.iloadN X.here hx rfl (hb hby d3_18) rfl k)
      show Ends p e below s _ _ _ (T.setTop (mkF m 19 #[.val (.int x0)] [(.int x0)]))
      refine Ends.by ?_ (fun _ k => XS.bipush X.here hx rfl (hb hby d3_19) k)
      show Ends p e below s _ _ _ (T.setTop (mkF m 21 #[.val (.int x0)] [(.int (123 : Int32)), (.int x0)]))
      by_cases hc72 : x0 < (123 : Int32)
      · have hv73 := hv71.trans (if_pos hc72)
        refine Ends.by ?_ (fun _ k => XS.icmpYes X.here hx rfl (pc0 := 21) (pc' := 31) rfl (hb hby d3_21) rfl (XT.ii_lt_t hc72) (by decide) (by decide) k)
        show Ends p e below s _ _ _ (T.setTop (mkF m 31 #[.val (.int x0)] []))
        exact j31 T _ X eT N hv73
      · have hv74 := hv71.trans (if_neg hc72)
        refine Ends.by ?_ (fun _ k => XS.icmpNo X.here hx rfl (hb hby d3_21) rfl (XT.ii_lt_f hc72) k)
        show Ends p e below s _ _ _ (T.setTop (mkF m 24 #[.val (.int x0)] []))
        refine Ends.by ?_ (fun _ k => XS.iloadN X.here hx rfl (hb hby d3_24) rfl k)
        show Ends p e below s _ _ _ (T.setTop (mkF m 25 #[.val (.int x0)] [(.int x0)]))
        refine Ends.by ?_ (fun _ k => XS.sipush X.here hx rfl (hb hby d3_25) k)
        show Ends p e below s _ _ _ (T.setTop (mkF m 28 #[.val (.int x0)] [(.int (191 : Int32)), (.int x0)]))
        by_cases hc75 : (191 : Int32) < x0
        · have hv76 := hv74.trans (if_pos hc75)
          refine Ends.by ?_ (fun _ k => XS.icmpNo X.here hx rfl (hb hby d3_28) rfl (XT.ii_le_f hc75) k)
          show Ends p e below s _ _ _ (T.setTop (mkF m 31 #[.val (.int x0)] []))
          exact j31 T _ X eT N hv76
        · have hv77 := hv74.trans (if_neg hc75)
          refine Ends.by ?_ (fun _ k => XS.icmpYes X.here hx rfl (pc0 := 28) (pc' := 158) rfl (hb hby d3_28) rfl (XT.ii_le_t hc75) (by decide) (by decide) k)
          show Ends p e below s _ _ _ (T.setTop (mkF m 158 #[.val (.int x0)] []))
          exact j158 T _ X eT N hv77
  refine Ends.by ?_ (fun _ k => XS.iloadN X0.here hx rfl (hb hby d3_0) rfl k)
  show Ends p e below s _ _ _ (s₁.setTop (mkF m 1 #[.val (.int x0)] [(.int x0)]))
  refine Ends.by ?_ (fun _ k => XS.bipush X0.here hx rfl (hb hby d3_1) k)
  show Ends p e below s _ _ _ (s₁.setTop (mkF m 3 #[.val (.int x0)] [(.int (91 : Int32)), (.int x0)]))
  by_cases hc78 : x0 < (91 : Int32)
  · have hv79 := hv0.trans (if_pos hc78)
    refine Ends.by ?_ (fun _ k => XS.icmpYes X0.here hx rfl (pc0 := 3) (pc' := 12) rfl (hb hby d3_3) rfl (XT.ii_lt_t hc78) (by decide) (by decide) k)
    show Ends p e below s _ _ _ (s₁.setTop (mkF m 12 #[.val (.int x0)] []))
    exact j12 s₁ _ X0 e0 N0 hv79
  · have hv80 := hv0.trans (if_neg hc78)
    refine Ends.by ?_ (fun _ k => XS.icmpNo X0.here hx rfl (hb hby d3_3) rfl (XT.ii_lt_f hc78) k)
    show Ends p e below s _ _ _ (s₁.setTop (mkF m 6 #[.val (.int x0)] []))
    refine Ends.by ?_ (fun _ k => XS.iloadN X0.here hx rfl (hb hby d3_6) rfl k)
    show Ends p e below s _ _ _ (s₁.setTop (mkF m 7 #[.val (.int x0)] [(.int x0)]))
    refine Ends.by ?_ (fun _ k => XS.bipush X0.here hx rfl (hb hby d3_7) k)
    show Ends p e below s _ _ _ (s₁.setTop (mkF m 9 #[.val (.int x0)] [(.int (94 : Int32)), (.int x0)]))
    by_cases hc81 : (94 : Int32) < x0
    · have hv82 := hv80.trans (if_pos hc81)
      refine Ends.by ?_ (fun _ k => XS.icmpNo X0.here hx rfl (hb hby d3_9) rfl (XT.ii_le_f hc81) k)
      show Ends p e below s _ _ _ (s₁.setTop (mkF m 12 #[.val (.int x0)] []))
      exact j12 s₁ _ X0 e0 N0 hv82
    · have hv83 := hv80.trans (if_neg hc81)
      refine Ends.by ?_ (fun _ k => XS.icmpYes X0.here hx rfl (pc0 := 9) (pc' := 158) rfl (hb hby d3_9) rfl (XT.ii_le_t hc81) (by decide) (by decide) k)
      show Ends p e below s _ _ _ (s₁.setTop (mkF m 158 #[.val (.int x0)] []))
      exact j158 s₁ _ X0 e0 N0 hv83

theorem d2_0 : decode method_3_code 0 = .ok (.iload_n 0, 1) := by decide +kernel
theorem d2_1 : decode method_3_code 1 = .ok (.bipush 65, 2) := by decide +kernel
theorem d2_3 : decode method_3_code 3 = .ok (.if_icmp .ge 5, 3) := by decide +kernel
theorem d2_6 : decode method_3_code 6 = .ok (.iconst 0, 1) := by decide +kernel
theorem d2_7 : decode method_3_code 7 = .ok (.ireturn, 1) := by decide +kernel
theorem d2_8 : decode method_3_code 8 = .ok (.iload_n 0, 1) := by decide +kernel
theorem d2_9 : decode method_3_code 9 = .ok (.ldc 13, 2) := by decide +kernel
theorem d2_11 : decode method_3_code 11 = .ok (.if_icmp .le 5, 3) := by decide +kernel
theorem d2_14 : decode method_3_code 14 = .ok (.iconst 0, 1) := by decide +kernel
theorem d2_15 : decode method_3_code 15 = .ok (.ireturn, 1) := by decide +kernel
theorem d2_16 : decode method_3_code 16 = .ok (.iload_n 0, 1) := by decide +kernel
theorem d2_17 : decode method_3_code 17 = .ok (.invokestatic 14, 3) := by decide +kernel
theorem pd_0 : parseMethodDescriptor "(I)Z" = some ⟨[.int], some .boolean⟩ := by decide +kernel
theorem d2_20 : decode method_3_code 20 = .ok (.ifCond .ne 7, 3) := by decide +kernel
theorem d2_23 : decode method_3_code 23 = .ok (.iconst 1, 1) := by decide +kernel
theorem d2_24 : decode method_3_code 24 = .ok (.goto 4, 3) := by decide +kernel
theorem d2_28 : decode method_3_code 28 = .ok (.ireturn, 1) := by decide +kernel
theorem d2_27 : decode method_3_code 27 = .ok (.iconst 0, 1) := by decide +kernel
def f2 (x0 : Int32) : Int32 := (if x0 < (65 : Int32) then (0 : Int32) else (if (983039 : Int32) < x0 then (0 : Int32) else (if (f3 x0) = (0 : Int32) then (1 : Int32) else (0 : Int32))))
theorem ef_rm2 (m : MethodId) (x0 : Int32) : entryFrame m #[(.int x0)] 1 = mkF m 0 #[.val (.int x0)] [] := by first | (simp [entryFrame, mkF, argsToLocals, Value.category]; done) | rfl
set_option maxRecDepth 65536 in
set_option maxHeartbeats 40000000 in
theorem rm2 (l : Launch) (Z : State) (a0 : Array Value) (hw : ∀ d ∈ tables_1, d.before a0 Z = true) (ws : List Jvm.Cond) (x0 : Int32) (h0 : Heap) (n0 : Nat) (Z0 : n0 ≤ h0.size) :
    MetFree l (⟨"com/example/hardy_stream/hardystream/xml/XmlCharsIsNameStartCharPinLaw", "ref", "(I)Z"⟩ : MethodName) (head1 (Jvm.Cond.code (⟨"com/example/hardy_stream/hardystream/xml/XmlCharsIsNameStartCharPinLaw", "ref", "(I)Z"⟩ : MethodName) method_3_code 1 (some .boolean) :: ws) ({ frames := 1, cells := 0, slots := 0, locals := 12 } : Room)) (fun a U => a = #[(.int x0)] ∧ Z.Warmed39 U.vm ∧ U.heap = h0) (fun _ _ _ _ _ => True) (fun _ U o U' => ∃ v L, o = .returned v ∧ (QP (some (.int (f2 x0))) h0 n0) v U'.heap L ∧ FrameEnd U o U' L ({ frames := 1, cells := 0, slots := 0, locals := 12 } : Room).cells ({ frames := 1, cells := 0, slots := 0, locals := 12 } : Room).slots) := by
  refine MetFree.of_bodySF (plainFor_of_name pn_1) hisR ?_
  intro p e s m args below meth c s₁ Bd hml0 hP hK
  obtain ⟨rfl, hZ, hh⟩ := hP
  have hx := Bd.exec
  have hby := Bd.bytes
  have hml : c.maxLocals = 1 := hml0
  have hown : s.vm.findClass "com/example/hardy_stream/hardystream/xml/XmlCharsIsNameStartCharPinLaw" = some m.cls := findClass_of_methodNamed Bd.named
  have hnm := (name_of_methodNamed Bd.named Bd.method).1
  have X0 : Stand p l e ({ frames := 1, cells := 0, slots := 0, locals := 12 } : Room) s m #[(.int x0)] below meth c s₁ [] 0 0 := Stand.of_body Bd
  have e0 : s₁.heap = h0 := by rw [← hh, Bd.state]; rfl
  have N0 := Fr.nil n0
  show Ends p e below s (QP (some (.int (f2 x0))) h0 n0) ({ frames := 1, cells := 0, slots := 0, locals := 12 } : Room).cells ({ frames := 1, cells := 0, slots := 0, locals := 12 } : Room).slots (s₁.setTop (entryFrame m #[(.int x0)] 1))
  rw [ef_rm2 m x0]
  have hv0 : f2 x0 = f2 x0 := rfl
  show Ends p e below s _ _ _ (s₁.setTop (mkF m 0 #[.val (.int x0)] []))
  refine Ends.by ?_ (fun _ k => XS.iloadN X0.here hx rfl (hb hby d2_0) rfl k)
  show Ends p e below s _ _ _ (s₁.setTop (mkF m 1 #[.val (.int x0)] [(.int x0)]))
  refine Ends.by ?_ (fun _ k => XS.bipush X0.here hx rfl (hb hby d2_1) k)
  show Ends p e below s _ _ _ (s₁.setTop (mkF m 3 #[.val (.int x0)] [(.int (65 : Int32)), (.int x0)]))
  by_cases hc1 : x0 < (65 : Int32)
  · have hv2 := hv0.trans (if_pos hc1)
    refine Ends.by ?_ (fun _ k => XS.icmpNo X0.here hx rfl (hb hby d2_3) rfl (XT.ii_ge_f hc1) k)
    show Ends p e below s _ _ _ (s₁.setTop (mkF m 6 #[.val (.int x0)] []))
    refine Ends.by ?_ (fun _ k => XS.iconst X0.here hx rfl (hb hby d2_6) k)
    show Ends p e below s _ _ _ (s₁.setTop (mkF m 7 #[.val (.int x0)] [(.int (0 : Int32))]))
    exact Ends.retN X0 hx Bd.notSynchronized Bd.returns (t := .boolean) (by simp) (hb hby d2_7) (w := (0 : Int32)) rfl ⟨by rw [hv2]; first | done | rfl, N0, e0⟩ (by decide) (by decide)
  · have hv3 := hv0.trans (if_neg hc1)
    refine Ends.by ?_ (fun _ k => XS.icmpYes X0.here hx rfl (pc0 := 3) (pc' := 8) rfl (hb hby d2_3) rfl (XT.ii_ge_t hc1) (by decide) (by decide) k)
    show Ends p e below s _ _ _ (s₁.setTop (mkF m 8 #[.val (.int x0)] []))
    refine Ends.by ?_ (fun _ k => XS.iloadN X0.here hx rfl (hb hby d2_8) rfl k)
    show Ends p e below s _ _ _ (s₁.setTop (mkF m 9 #[.val (.int x0)] [(.int x0)]))
    refine Ends.by ?_ (X0.ldcInt hx hown (mvT hZ (hw _ (List.mem_of_getElem? (i := 12) rfl))) (g := (mkF m 9 #[.val (.int x0)] [(.int x0)])) rfl (hb hby d2_9))
    show Ends p e below s _ _ _ (s₁.setTop (mkF m 11 #[.val (.int x0)] [(.int (983039 : Int32)), (.int x0)]))
    by_cases hc4 : (983039 : Int32) < x0
    · have hv5 := hv3.trans (if_pos hc4)
      refine Ends.by ?_ (fun _ k => XS.icmpNo X0.here hx rfl (hb hby d2_11) rfl (XT.ii_le_f hc4) k)
      show Ends p e below s _ _ _ (s₁.setTop (mkF m 14 #[.val (.int x0)] []))
      refine Ends.by ?_ (fun _ k => XS.iconst X0.here hx rfl (hb hby d2_14) k)
      show Ends p e below s _ _ _ (s₁.setTop (mkF m 15 #[.val (.int x0)] [(.int (0 : Int32))]))
      exact Ends.retN X0 hx Bd.notSynchronized Bd.returns (t := .boolean) (by simp) (hb hby d2_15) (w := (0 : Int32)) rfl ⟨by rw [hv5]; first | done | rfl, N0, e0⟩ (by decide) (by decide)
    · have hv6 := hv3.trans (if_neg hc4)
      refine Ends.by ?_ (fun _ k => XS.icmpYes X0.here hx rfl (pc0 := 11) (pc' := 16) rfl (hb hby d2_11) rfl (XT.ii_le_t hc4) (by decide) (by decide) k)
      show Ends p e below s _ _ _ (s₁.setTop (mkF m 16 #[.val (.int x0)] []))
      refine Ends.by ?_ (fun _ k => XS.iloadN X0.here hx rfl (hb hby d2_16) rfl k)
      show Ends p e below s _ _ _ (s₁.setTop (mkF m 17 #[.val (.int x0)] [(.int x0)]))
      obtain ⟨v7, _, ⟨T7, L7, k7, n7⟩, -, X7, ⟨Lc7, hQ7, l7, y7, z7⟩, st7⟩ := Jvm.LawKit.callS X0 hx (y := (⟨"com/example/hardy_stream/hardystream/xml/XmlCharsIsNameStartCharPinLaw", "inGap", "(I)Z"⟩ : MethodName)) hown (mvT hZ (hw _ (List.mem_of_getElem? (i := 13) rfl))) (mvT hZ (hw _ (List.mem_of_getElem? (i := 14) rfl))) (mvT hZ (hw _ (List.mem_of_getElem? (i := 10) rfl))) (mvT hZ (hw _ (List.mem_of_getElem? (i := 15) rfl))) (by decide) (backOf (W := 0) (rm3 l Z a0 hw [] x0 h0 n0 Z0) hZ (hw _ (List.mem_of_getElem? (i := 15) rfl)) (hw _ (List.mem_of_getElem? (i := 10) rfl)) (by decide) (by decide)) (g := (mkF m 17 #[.val (.int x0)] [(.int x0)])) rfl (by rw [hml]; rfl) (argsL := [(.int x0)]) (rest := []) (lenOf pd_0 rfl) rfl (by show 2 * 0 + _ ≤ _; exact Nat.le_of_eq rfl) (hb hby d2_17) (fun _ _ => ⟨rfl, e0, (by decide : 0 + 0 ≤ _), (by decide : 0 + 0 ≤ _)⟩)
      dsimp only [Pt.U, Pt.locs, Pt.cells, Pt.slots] at X7 l7 y7 z7 st7 hQ7
      subst l7 y7 z7
      obtain ⟨rfl, N7q, e7⟩ := hQ7
      have N7 := Fr.app N0 N7q
      refine Ends.by ?_ st7
      show Ends p e below s _ _ _ (T7.setTop (mkF m 20 #[.val (.int x0)] [(.int (f3 x0))]))
      by_cases hc8 : (f3 x0) = (0 : Int32)
      · have hv9 := hv6.trans (if_pos hc8)
        refine Ends.by ?_ (fun _ k => XS.ifNo X7.here hx rfl (hb hby d2_20) rfl (XT.i0_ne_f hc8) k)
        show Ends p e below s _ _ _ (T7.setTop (mkF m 23 #[.val (.int x0)] []))
        refine Ends.by ?_ (fun _ k => XS.iconst X7.here hx rfl (hb hby d2_23) k)
        show Ends p e below s _ _ _ (T7.setTop (mkF m 24 #[.val (.int x0)] [(.int (1 : Int32))]))
        refine Ends.by ?_ (fun _ k => XS.goto X7.here hx rfl (pc0 := 24) (pc' := 28) rfl (hb hby d2_24) (by decide) (by decide) k)
        show Ends p e below s _ _ _ (T7.setTop (mkF m 28 #[.val (.int x0)] [(.int (1 : Int32))]))
        exact Ends.retN X7 hx Bd.notSynchronized Bd.returns (t := .boolean) (by simp) (hb hby d2_28) (w := (1 : Int32)) rfl ⟨by rw [hv9]; first | done | rfl, N7, e7⟩ (by decide) (by decide)
      · have hv10 := hv6.trans (if_neg hc8)
        refine Ends.by ?_ (fun _ k => XS.ifYes X7.here hx rfl (pc0 := 20) (pc' := 27) rfl (hb hby d2_20) rfl (XT.i0_ne_t hc8) (by decide) (by decide) k)
        show Ends p e below s _ _ _ (T7.setTop (mkF m 27 #[.val (.int x0)] []))
        refine Ends.by ?_ (fun _ k => XS.iconst X7.here hx rfl (hb hby d2_27) k)
        show Ends p e below s _ _ _ (T7.setTop (mkF m 28 #[.val (.int x0)] [(.int (0 : Int32))]))
        exact Ends.retN X7 hx Bd.notSynchronized Bd.returns (t := .boolean) (by simp) (hb hby d2_28) (w := (0 : Int32)) rfl ⟨by rw [hv10]; first | done | rfl, N7, e7⟩ (by decide) (by decide)

theorem own_lt {x k : Int32} (n : Int) (hk : k.toInt = n) (h : x.toInt < n) : x < k := by rw [Int32.lt_iff_toInt_lt, hk]; exact h
theorem own_nlt {x k : Int32} (n : Int) (hk : k.toInt = n) (h : n ≤ x.toInt) : ¬ x < k := by rw [Int32.lt_iff_toInt_lt, hk]; omega
theorem own_gt {x k : Int32} (n : Int) (hk : k.toInt = n) (h : n < x.toInt) : k < x := by rw [Int32.lt_iff_toInt_lt, hk]; exact h
theorem own_ngt {x k : Int32} (n : Int) (hk : k.toInt = n) (h : x.toInt ≤ n) : ¬ k < x := by rw [Int32.lt_iff_toInt_lt, hk]; omega
theorem own_eqk {x k : Int32} (n : Int) (hk : k.toInt = n) (h : x.toInt = n) : x = k := Int32.toInt_inj.mp (h.trans hk.symm)
theorem own_nek {x k : Int32} (n : Int) (hk : k.toInt = n) (h : x.toInt ≠ n) : ¬ x = k := fun q => h (by rw [q]; exact hk)
theorem own_eq_0 (x : Int32) (h : x.toInt ≤ 64) : f1 x = f2 x := by
  have c0 : x < (97 : Int32) := own_lt 97 (by decide) (by omega)
  have c1 : x < (65 : Int32) := own_lt 65 (by decide) (by omega)
  have c2 : ¬ (x = (95 : Int32)) := own_nek 95 (by decide) (by omega)
  have c3 : x < (192 : Int32) := own_lt 192 (by decide) (by omega)
  have c4 : x < (216 : Int32) := own_lt 216 (by decide) (by omega)
  have c5 : x < (248 : Int32) := own_lt 248 (by decide) (by omega)
  have c6 : x < (880 : Int32) := own_lt 880 (by decide) (by omega)
  have c7 : x < (895 : Int32) := own_lt 895 (by decide) (by omega)
  have c8 : x < (8204 : Int32) := own_lt 8204 (by decide) (by omega)
  have c9 : x < (8304 : Int32) := own_lt 8304 (by decide) (by omega)
  have c10 : x < (11264 : Int32) := own_lt 11264 (by decide) (by omega)
  have c11 : x < (12289 : Int32) := own_lt 12289 (by decide) (by omega)
  have c12 : x < (63744 : Int32) := own_lt 63744 (by decide) (by omega)
  have c13 : x < (65008 : Int32) := own_lt 65008 (by decide) (by omega)
  have c14 : x < (65536 : Int32) := own_lt 65536 (by decide) (by omega)
  simp only [f1_195, f1_191, f1_179, f1_167, f1_155, f1_142, f1_128, f1_114, f1_100, f1_86, f1_72, f1_58, f1_44, f1_24, f1_12, f1, f3_162, f3_158, f3_146, f3_134, f3_122, f3_108, f3_94, f3_80, f3_59, f3_31, f3_12, f3, f2, c0, c1, c2, c3, c4, c5, c6, c7, c8, c9, c10, c11, c12, c13, c14, if_true, if_false, ite_true, ite_false, reduceIte]
  try first | rfl | decide
theorem own_eq_1 (x : Int32) (h : (65 ≤ x.toInt ∧ x.toInt ≤ 90)) : f1 x = f2 x := by
  have c0 : x < (97 : Int32) := own_lt 97 (by decide) (by omega)
  have c1 : ¬ (x < (65 : Int32)) := own_nlt 65 (by decide) (by omega)
  have c2 : ¬ ((90 : Int32) < x) := own_ngt 90 (by decide) (by omega)
  have c4 : ¬ ((983039 : Int32) < x) := own_ngt 983039 (by decide) (by omega)
  have c5 : x < (91 : Int32) := own_lt 91 (by decide) (by omega)
  have c6 : ¬ (x = (96 : Int32)) := own_nek 96 (by decide) (by omega)
  have c7 : x < (123 : Int32) := own_lt 123 (by decide) (by omega)
  have c8 : ¬ (x = (215 : Int32)) := own_nek 215 (by decide) (by omega)
  have c9 : ¬ (x = (247 : Int32)) := own_nek 247 (by decide) (by omega)
  have c10 : x < (768 : Int32) := own_lt 768 (by decide) (by omega)
  have c11 : ¬ (x = (894 : Int32)) := own_nek 894 (by decide) (by omega)
  have c12 : x < (8192 : Int32) := own_lt 8192 (by decide) (by omega)
  have c13 : x < (8206 : Int32) := own_lt 8206 (by decide) (by omega)
  have c14 : x < (8592 : Int32) := own_lt 8592 (by decide) (by omega)
  have c15 : x < (12272 : Int32) := own_lt 12272 (by decide) (by omega)
  have c16 : x < (55296 : Int32) := own_lt 55296 (by decide) (by omega)
  have c17 : x < (64976 : Int32) := own_lt 64976 (by decide) (by omega)
  have c18 : x < (65534 : Int32) := own_lt 65534 (by decide) (by omega)
  simp only [f1_195, f1_191, f1_179, f1_167, f1_155, f1_142, f1_128, f1_114, f1_100, f1_86, f1_72, f1_58, f1_44, f1_24, f1_12, f1, f3_162, f3_158, f3_146, f3_134, f3_122, f3_108, f3_94, f3_80, f3_59, f3_31, f3_12, f3, f2, c0, c1, c2, c4, c5, c6, c7, c8, c9, c10, c11, c12, c13, c14, c15, c16, c17, c18, if_true, if_false, ite_true, ite_false, reduceIte]
  try first | rfl | decide
theorem own_eq_2 (x : Int32) (h : (91 ≤ x.toInt ∧ x.toInt ≤ 94)) : f1 x = f2 x := by
  have c0 : x < (97 : Int32) := own_lt 97 (by decide) (by omega)
  have c1 : ¬ (x < (65 : Int32)) := own_nlt 65 (by decide) (by omega)
  have c2 : (90 : Int32) < x := own_gt 90 (by decide) (by omega)
  have c3 : ¬ (x = (95 : Int32)) := own_nek 95 (by decide) (by omega)
  have c4 : x < (192 : Int32) := own_lt 192 (by decide) (by omega)
  have c5 : x < (216 : Int32) := own_lt 216 (by decide) (by omega)
  have c6 : x < (248 : Int32) := own_lt 248 (by decide) (by omega)
  have c7 : x < (880 : Int32) := own_lt 880 (by decide) (by omega)
  have c8 : x < (895 : Int32) := own_lt 895 (by decide) (by omega)
  have c9 : x < (8204 : Int32) := own_lt 8204 (by decide) (by omega)
  have c10 : x < (8304 : Int32) := own_lt 8304 (by decide) (by omega)
  have c11 : x < (11264 : Int32) := own_lt 11264 (by decide) (by omega)
  have c12 : x < (12289 : Int32) := own_lt 12289 (by decide) (by omega)
  have c13 : x < (63744 : Int32) := own_lt 63744 (by decide) (by omega)
  have c14 : x < (65008 : Int32) := own_lt 65008 (by decide) (by omega)
  have c15 : x < (65536 : Int32) := own_lt 65536 (by decide) (by omega)
  have c17 : ¬ ((983039 : Int32) < x) := own_ngt 983039 (by decide) (by omega)
  have c18 : ¬ (x < (91 : Int32)) := own_nlt 91 (by decide) (by omega)
  have c19 : ¬ ((94 : Int32) < x) := own_ngt 94 (by decide) (by omega)
  simp only [f1_195, f1_191, f1_179, f1_167, f1_155, f1_142, f1_128, f1_114, f1_100, f1_86, f1_72, f1_58, f1_44, f1_24, f1_12, f1, f3_162, f3_158, f3_146, f3_134, f3_122, f3_108, f3_94, f3_80, f3_59, f3_31, f3_12, f3, f2, c0, c1, c2, c3, c4, c5, c6, c7, c8, c9, c10, c11, c12, c13, c14, c15, c17, c18, c19, if_true, if_false, ite_true, ite_false, reduceIte]
  try first | rfl | decide
theorem own_eq_3 (x : Int32) (h : (95 ≤ x.toInt ∧ x.toInt ≤ 95)) : f1 x = f2 x := by
  have c0 : x < (97 : Int32) := own_lt 97 (by decide) (by omega)
  have c1 : ¬ (x < (65 : Int32)) := own_nlt 65 (by decide) (by omega)
  have c2 : (90 : Int32) < x := own_gt 90 (by decide) (by omega)
  have c3 : (x = (95 : Int32)) = True := eq_true (own_eqk 95 (by decide) (by omega))
  have c5 : ¬ ((983039 : Int32) < x) := own_ngt 983039 (by decide) (by omega)
  have c6 : ¬ (x < (91 : Int32)) := own_nlt 91 (by decide) (by omega)
  have c7 : (94 : Int32) < x := own_gt 94 (by decide) (by omega)
  have c8 : ¬ (x = (96 : Int32)) := own_nek 96 (by decide) (by omega)
  have c9 : x < (123 : Int32) := own_lt 123 (by decide) (by omega)
  have c10 : ¬ (x = (215 : Int32)) := own_nek 215 (by decide) (by omega)
  have c11 : ¬ (x = (247 : Int32)) := own_nek 247 (by decide) (by omega)
  have c12 : x < (768 : Int32) := own_lt 768 (by decide) (by omega)
  have c13 : ¬ (x = (894 : Int32)) := own_nek 894 (by decide) (by omega)
  have c14 : x < (8192 : Int32) := own_lt 8192 (by decide) (by omega)
  have c15 : x < (8206 : Int32) := own_lt 8206 (by decide) (by omega)
  have c16 : x < (8592 : Int32) := own_lt 8592 (by decide) (by omega)
  have c17 : x < (12272 : Int32) := own_lt 12272 (by decide) (by omega)
  have c18 : x < (55296 : Int32) := own_lt 55296 (by decide) (by omega)
  have c19 : x < (64976 : Int32) := own_lt 64976 (by decide) (by omega)
  have c20 : x < (65534 : Int32) := own_lt 65534 (by decide) (by omega)
  simp only [f1_195, f1_191, f1_179, f1_167, f1_155, f1_142, f1_128, f1_114, f1_100, f1_86, f1_72, f1_58, f1_44, f1_24, f1_12, f1, f3_162, f3_158, f3_146, f3_134, f3_122, f3_108, f3_94, f3_80, f3_59, f3_31, f3_12, f3, f2, c0, c1, c2, c3, c5, c6, c7, c8, c9, c10, c11, c12, c13, c14, c15, c16, c17, c18, c19, c20, if_true, if_false, ite_true, ite_false, reduceIte]
  try first | rfl | decide
theorem own_eq_4 (x : Int32) (h : (96 ≤ x.toInt ∧ x.toInt ≤ 96)) : f1 x = f2 x := by
  have c0 : x < (97 : Int32) := own_lt 97 (by decide) (by omega)
  have c1 : ¬ (x < (65 : Int32)) := own_nlt 65 (by decide) (by omega)
  have c2 : (90 : Int32) < x := own_gt 90 (by decide) (by omega)
  have c3 : ¬ (x = (95 : Int32)) := own_nek 95 (by decide) (by omega)
  have c4 : x < (192 : Int32) := own_lt 192 (by decide) (by omega)
  have c5 : x < (216 : Int32) := own_lt 216 (by decide) (by omega)
  have c6 : x < (248 : Int32) := own_lt 248 (by decide) (by omega)
  have c7 : x < (880 : Int32) := own_lt 880 (by decide) (by omega)
  have c8 : x < (895 : Int32) := own_lt 895 (by decide) (by omega)
  have c9 : x < (8204 : Int32) := own_lt 8204 (by decide) (by omega)
  have c10 : x < (8304 : Int32) := own_lt 8304 (by decide) (by omega)
  have c11 : x < (11264 : Int32) := own_lt 11264 (by decide) (by omega)
  have c12 : x < (12289 : Int32) := own_lt 12289 (by decide) (by omega)
  have c13 : x < (63744 : Int32) := own_lt 63744 (by decide) (by omega)
  have c14 : x < (65008 : Int32) := own_lt 65008 (by decide) (by omega)
  have c15 : x < (65536 : Int32) := own_lt 65536 (by decide) (by omega)
  have c17 : ¬ ((983039 : Int32) < x) := own_ngt 983039 (by decide) (by omega)
  have c18 : ¬ (x < (91 : Int32)) := own_nlt 91 (by decide) (by omega)
  have c19 : (94 : Int32) < x := own_gt 94 (by decide) (by omega)
  have c20 : (x = (96 : Int32)) = True := eq_true (own_eqk 96 (by decide) (by omega))
  simp only [f1_195, f1_191, f1_179, f1_167, f1_155, f1_142, f1_128, f1_114, f1_100, f1_86, f1_72, f1_58, f1_44, f1_24, f1_12, f1, f3_162, f3_158, f3_146, f3_134, f3_122, f3_108, f3_94, f3_80, f3_59, f3_31, f3_12, f3, f2, c0, c1, c2, c3, c4, c5, c6, c7, c8, c9, c10, c11, c12, c13, c14, c15, c17, c18, c19, c20, if_true, if_false, ite_true, ite_false, reduceIte]
  try first | rfl | decide
theorem own_eq_5 (x : Int32) (h : (97 ≤ x.toInt ∧ x.toInt ≤ 122)) : f1 x = f2 x := by
  have c0 : ¬ (x < (97 : Int32)) := own_nlt 97 (by decide) (by omega)
  have c1 : ¬ ((122 : Int32) < x) := own_ngt 122 (by decide) (by omega)
  have c2 : ¬ (x < (65 : Int32)) := own_nlt 65 (by decide) (by omega)
  have c3 : ¬ ((983039 : Int32) < x) := own_ngt 983039 (by decide) (by omega)
  have c4 : ¬ (x < (91 : Int32)) := own_nlt 91 (by decide) (by omega)
  have c5 : (94 : Int32) < x := own_gt 94 (by decide) (by omega)
  have c6 : ¬ (x = (96 : Int32)) := own_nek 96 (by decide) (by omega)
  have c7 : x < (123 : Int32) := own_lt 123 (by decide) (by omega)
  have c8 : ¬ (x = (215 : Int32)) := own_nek 215 (by decide) (by omega)
  have c9 : ¬ (x = (247 : Int32)) := own_nek 247 (by decide) (by omega)
  have c10 : x < (768 : Int32) := own_lt 768 (by decide) (by omega)
  have c11 : ¬ (x = (894 : Int32)) := own_nek 894 (by decide) (by omega)
  have c12 : x < (8192 : Int32) := own_lt 8192 (by decide) (by omega)
  have c13 : x < (8206 : Int32) := own_lt 8206 (by decide) (by omega)
  have c14 : x < (8592 : Int32) := own_lt 8592 (by decide) (by omega)
  have c15 : x < (12272 : Int32) := own_lt 12272 (by decide) (by omega)
  have c16 : x < (55296 : Int32) := own_lt 55296 (by decide) (by omega)
  have c17 : x < (64976 : Int32) := own_lt 64976 (by decide) (by omega)
  have c18 : x < (65534 : Int32) := own_lt 65534 (by decide) (by omega)
  simp only [f1_195, f1_191, f1_179, f1_167, f1_155, f1_142, f1_128, f1_114, f1_100, f1_86, f1_72, f1_58, f1_44, f1_24, f1_12, f1, f3_162, f3_158, f3_146, f3_134, f3_122, f3_108, f3_94, f3_80, f3_59, f3_31, f3_12, f3, f2, c0, c1, c2, c3, c4, c5, c6, c7, c8, c9, c10, c11, c12, c13, c14, c15, c16, c17, c18, if_true, if_false, ite_true, ite_false, reduceIte]
  try first | rfl | decide
theorem own_eq_6 (x : Int32) (h : (123 ≤ x.toInt ∧ x.toInt ≤ 191)) : f1 x = f2 x := by
  have c0 : ¬ (x < (97 : Int32)) := own_nlt 97 (by decide) (by omega)
  have c1 : (122 : Int32) < x := own_gt 122 (by decide) (by omega)
  have c2 : ¬ (x < (65 : Int32)) := own_nlt 65 (by decide) (by omega)
  have c3 : (90 : Int32) < x := own_gt 90 (by decide) (by omega)
  have c4 : ¬ (x = (95 : Int32)) := own_nek 95 (by decide) (by omega)
  have c5 : x < (192 : Int32) := own_lt 192 (by decide) (by omega)
  have c6 : x < (216 : Int32) := own_lt 216 (by decide) (by omega)
  have c7 : x < (248 : Int32) := own_lt 248 (by decide) (by omega)
  have c8 : x < (880 : Int32) := own_lt 880 (by decide) (by omega)
  have c9 : x < (895 : Int32) := own_lt 895 (by decide) (by omega)
  have c10 : x < (8204 : Int32) := own_lt 8204 (by decide) (by omega)
  have c11 : x < (8304 : Int32) := own_lt 8304 (by decide) (by omega)
  have c12 : x < (11264 : Int32) := own_lt 11264 (by decide) (by omega)
  have c13 : x < (12289 : Int32) := own_lt 12289 (by decide) (by omega)
  have c14 : x < (63744 : Int32) := own_lt 63744 (by decide) (by omega)
  have c15 : x < (65008 : Int32) := own_lt 65008 (by decide) (by omega)
  have c16 : x < (65536 : Int32) := own_lt 65536 (by decide) (by omega)
  have c18 : ¬ ((983039 : Int32) < x) := own_ngt 983039 (by decide) (by omega)
  have c19 : ¬ (x < (91 : Int32)) := own_nlt 91 (by decide) (by omega)
  have c20 : (94 : Int32) < x := own_gt 94 (by decide) (by omega)
  have c21 : ¬ (x = (96 : Int32)) := own_nek 96 (by decide) (by omega)
  have c22 : ¬ (x < (123 : Int32)) := own_nlt 123 (by decide) (by omega)
  have c23 : ¬ ((191 : Int32) < x) := own_ngt 191 (by decide) (by omega)
  simp only [f1_195, f1_191, f1_179, f1_167, f1_155, f1_142, f1_128, f1_114, f1_100, f1_86, f1_72, f1_58, f1_44, f1_24, f1_12, f1, f3_162, f3_158, f3_146, f3_134, f3_122, f3_108, f3_94, f3_80, f3_59, f3_31, f3_12, f3, f2, c0, c1, c2, c3, c4, c5, c6, c7, c8, c9, c10, c11, c12, c13, c14, c15, c16, c18, c19, c20, c21, c22, c23, if_true, if_false, ite_true, ite_false, reduceIte]
  try first | rfl | decide
theorem own_eq_7 (x : Int32) (h : (192 ≤ x.toInt ∧ x.toInt ≤ 214)) : f1 x = f2 x := by
  have c0 : ¬ (x < (97 : Int32)) := own_nlt 97 (by decide) (by omega)
  have c1 : (122 : Int32) < x := own_gt 122 (by decide) (by omega)
  have c2 : ¬ (x < (65 : Int32)) := own_nlt 65 (by decide) (by omega)
  have c3 : (90 : Int32) < x := own_gt 90 (by decide) (by omega)
  have c4 : ¬ (x = (95 : Int32)) := own_nek 95 (by decide) (by omega)
  have c5 : ¬ (x < (192 : Int32)) := own_nlt 192 (by decide) (by omega)
  have c6 : ¬ ((214 : Int32) < x) := own_ngt 214 (by decide) (by omega)
  have c8 : ¬ ((983039 : Int32) < x) := own_ngt 983039 (by decide) (by omega)
  have c9 : ¬ (x < (91 : Int32)) := own_nlt 91 (by decide) (by omega)
  have c10 : (94 : Int32) < x := own_gt 94 (by decide) (by omega)
  have c11 : ¬ (x = (96 : Int32)) := own_nek 96 (by decide) (by omega)
  have c12 : ¬ (x < (123 : Int32)) := own_nlt 123 (by decide) (by omega)
  have c13 : (191 : Int32) < x := own_gt 191 (by decide) (by omega)
  have c14 : ¬ (x = (215 : Int32)) := own_nek 215 (by decide) (by omega)
  have c15 : ¬ (x = (247 : Int32)) := own_nek 247 (by decide) (by omega)
  have c16 : x < (768 : Int32) := own_lt 768 (by decide) (by omega)
  have c17 : ¬ (x = (894 : Int32)) := own_nek 894 (by decide) (by omega)
  have c18 : x < (8192 : Int32) := own_lt 8192 (by decide) (by omega)
  have c19 : x < (8206 : Int32) := own_lt 8206 (by decide) (by omega)
  have c20 : x < (8592 : Int32) := own_lt 8592 (by decide) (by omega)
  have c21 : x < (12272 : Int32) := own_lt 12272 (by decide) (by omega)
  have c22 : x < (55296 : Int32) := own_lt 55296 (by decide) (by omega)
  have c23 : x < (64976 : Int32) := own_lt 64976 (by decide) (by omega)
  have c24 : x < (65534 : Int32) := own_lt 65534 (by decide) (by omega)
  simp only [f1_195, f1_191, f1_179, f1_167, f1_155, f1_142, f1_128, f1_114, f1_100, f1_86, f1_72, f1_58, f1_44, f1_24, f1_12, f1, f3_162, f3_158, f3_146, f3_134, f3_122, f3_108, f3_94, f3_80, f3_59, f3_31, f3_12, f3, f2, c0, c1, c2, c3, c4, c5, c6, c8, c9, c10, c11, c12, c13, c14, c15, c16, c17, c18, c19, c20, c21, c22, c23, c24, if_true, if_false, ite_true, ite_false, reduceIte]
  try first | rfl | decide
theorem own_eq_8 (x : Int32) (h : (215 ≤ x.toInt ∧ x.toInt ≤ 215)) : f1 x = f2 x := by
  have c0 : ¬ (x < (97 : Int32)) := own_nlt 97 (by decide) (by omega)
  have c1 : (122 : Int32) < x := own_gt 122 (by decide) (by omega)
  have c2 : ¬ (x < (65 : Int32)) := own_nlt 65 (by decide) (by omega)
  have c3 : (90 : Int32) < x := own_gt 90 (by decide) (by omega)
  have c4 : ¬ (x = (95 : Int32)) := own_nek 95 (by decide) (by omega)
  have c5 : ¬ (x < (192 : Int32)) := own_nlt 192 (by decide) (by omega)
  have c6 : (214 : Int32) < x := own_gt 214 (by decide) (by omega)
  have c7 : x < (216 : Int32) := own_lt 216 (by decide) (by omega)
  have c8 : x < (248 : Int32) := own_lt 248 (by decide) (by omega)
  have c9 : x < (880 : Int32) := own_lt 880 (by decide) (by omega)
  have c10 : x < (895 : Int32) := own_lt 895 (by decide) (by omega)
  have c11 : x < (8204 : Int32) := own_lt 8204 (by decide) (by omega)
  have c12 : x < (8304 : Int32) := own_lt 8304 (by decide) (by omega)
  have c13 : x < (11264 : Int32) := own_lt 11264 (by decide) (by omega)
  have c14 : x < (12289 : Int32) := own_lt 12289 (by decide) (by omega)
  have c15 : x < (63744 : Int32) := own_lt 63744 (by decide) (by omega)
  have c16 : x < (65008 : Int32) := own_lt 65008 (by decide) (by omega)
  have c17 : x < (65536 : Int32) := own_lt 65536 (by decide) (by omega)
  have c19 : ¬ ((983039 : Int32) < x) := own_ngt 983039 (by decide) (by omega)
  have c20 : ¬ (x < (91 : Int32)) := own_nlt 91 (by decide) (by omega)
  have c21 : (94 : Int32) < x := own_gt 94 (by decide) (by omega)
  have c22 : ¬ (x = (96 : Int32)) := own_nek 96 (by decide) (by omega)
  have c23 : ¬ (x < (123 : Int32)) := own_nlt 123 (by decide) (by omega)
  have c24 : (191 : Int32) < x := own_gt 191 (by decide) (by omega)
  have c25 : (x = (215 : Int32)) = True := eq_true (own_eqk 215 (by decide) (by omega))
  simp only [f1_195, f1_191, f1_179, f1_167, f1_155, f1_142, f1_128, f1_114, f1_100, f1_86, f1_72, f1_58, f1_44, f1_24, f1_12, f1, f3_162, f3_158, f3_146, f3_134, f3_122, f3_108, f3_94, f3_80, f3_59, f3_31, f3_12, f3, f2, c0, c1, c2, c3, c4, c5, c6, c7, c8, c9, c10, c11, c12, c13, c14, c15, c16, c17, c19, c20, c21, c22, c23, c24, c25, if_true, if_false, ite_true, ite_false, reduceIte]
  try first | rfl | decide
theorem own_eq_9 (x : Int32) (h : (216 ≤ x.toInt ∧ x.toInt ≤ 246)) : f1 x = f2 x := by
  have c0 : ¬ (x < (97 : Int32)) := own_nlt 97 (by decide) (by omega)
  have c1 : (122 : Int32) < x := own_gt 122 (by decide) (by omega)
  have c2 : ¬ (x < (65 : Int32)) := own_nlt 65 (by decide) (by omega)
  have c3 : (90 : Int32) < x := own_gt 90 (by decide) (by omega)
  have c4 : ¬ (x = (95 : Int32)) := own_nek 95 (by decide) (by omega)
  have c5 : ¬ (x < (192 : Int32)) := own_nlt 192 (by decide) (by omega)
  have c6 : (214 : Int32) < x := own_gt 214 (by decide) (by omega)
  have c7 : ¬ (x < (216 : Int32)) := own_nlt 216 (by decide) (by omega)
  have c8 : ¬ ((246 : Int32) < x) := own_ngt 246 (by decide) (by omega)
  have c10 : ¬ ((983039 : Int32) < x) := own_ngt 983039 (by decide) (by omega)
  have c11 : ¬ (x < (91 : Int32)) := own_nlt 91 (by decide) (by omega)
  have c12 : (94 : Int32) < x := own_gt 94 (by decide) (by omega)
  have c13 : ¬ (x = (96 : Int32)) := own_nek 96 (by decide) (by omega)
  have c14 : ¬ (x < (123 : Int32)) := own_nlt 123 (by decide) (by omega)
  have c15 : (191 : Int32) < x := own_gt 191 (by decide) (by omega)
  have c16 : ¬ (x = (215 : Int32)) := own_nek 215 (by decide) (by omega)
  have c17 : ¬ (x = (247 : Int32)) := own_nek 247 (by decide) (by omega)
  have c18 : x < (768 : Int32) := own_lt 768 (by decide) (by omega)
  have c19 : ¬ (x = (894 : Int32)) := own_nek 894 (by decide) (by omega)
  have c20 : x < (8192 : Int32) := own_lt 8192 (by decide) (by omega)
  have c21 : x < (8206 : Int32) := own_lt 8206 (by decide) (by omega)
  have c22 : x < (8592 : Int32) := own_lt 8592 (by decide) (by omega)
  have c23 : x < (12272 : Int32) := own_lt 12272 (by decide) (by omega)
  have c24 : x < (55296 : Int32) := own_lt 55296 (by decide) (by omega)
  have c25 : x < (64976 : Int32) := own_lt 64976 (by decide) (by omega)
  have c26 : x < (65534 : Int32) := own_lt 65534 (by decide) (by omega)
  simp only [f1_195, f1_191, f1_179, f1_167, f1_155, f1_142, f1_128, f1_114, f1_100, f1_86, f1_72, f1_58, f1_44, f1_24, f1_12, f1, f3_162, f3_158, f3_146, f3_134, f3_122, f3_108, f3_94, f3_80, f3_59, f3_31, f3_12, f3, f2, c0, c1, c2, c3, c4, c5, c6, c7, c8, c10, c11, c12, c13, c14, c15, c16, c17, c18, c19, c20, c21, c22, c23, c24, c25, c26, if_true, if_false, ite_true, ite_false, reduceIte]
  try first | rfl | decide
theorem own_eq_10 (x : Int32) (h : (247 ≤ x.toInt ∧ x.toInt ≤ 247)) : f1 x = f2 x := by
  have c0 : ¬ (x < (97 : Int32)) := own_nlt 97 (by decide) (by omega)
  have c1 : (122 : Int32) < x := own_gt 122 (by decide) (by omega)
  have c2 : ¬ (x < (65 : Int32)) := own_nlt 65 (by decide) (by omega)
  have c3 : (90 : Int32) < x := own_gt 90 (by decide) (by omega)
  have c4 : ¬ (x = (95 : Int32)) := own_nek 95 (by decide) (by omega)
  have c5 : ¬ (x < (192 : Int32)) := own_nlt 192 (by decide) (by omega)
  have c6 : (214 : Int32) < x := own_gt 214 (by decide) (by omega)
  have c7 : ¬ (x < (216 : Int32)) := own_nlt 216 (by decide) (by omega)
  have c8 : (246 : Int32) < x := own_gt 246 (by decide) (by omega)
  have c9 : x < (248 : Int32) := own_lt 248 (by decide) (by omega)
  have c10 : x < (880 : Int32) := own_lt 880 (by decide) (by omega)
  have c11 : x < (895 : Int32) := own_lt 895 (by decide) (by omega)
  have c12 : x < (8204 : Int32) := own_lt 8204 (by decide) (by omega)
  have c13 : x < (8304 : Int32) := own_lt 8304 (by decide) (by omega)
  have c14 : x < (11264 : Int32) := own_lt 11264 (by decide) (by omega)
  have c15 : x < (12289 : Int32) := own_lt 12289 (by decide) (by omega)
  have c16 : x < (63744 : Int32) := own_lt 63744 (by decide) (by omega)
  have c17 : x < (65008 : Int32) := own_lt 65008 (by decide) (by omega)
  have c18 : x < (65536 : Int32) := own_lt 65536 (by decide) (by omega)
  have c20 : ¬ ((983039 : Int32) < x) := own_ngt 983039 (by decide) (by omega)
  have c21 : ¬ (x < (91 : Int32)) := own_nlt 91 (by decide) (by omega)
  have c22 : (94 : Int32) < x := own_gt 94 (by decide) (by omega)
  have c23 : ¬ (x = (96 : Int32)) := own_nek 96 (by decide) (by omega)
  have c24 : ¬ (x < (123 : Int32)) := own_nlt 123 (by decide) (by omega)
  have c25 : (191 : Int32) < x := own_gt 191 (by decide) (by omega)
  have c26 : ¬ (x = (215 : Int32)) := own_nek 215 (by decide) (by omega)
  have c27 : (x = (247 : Int32)) = True := eq_true (own_eqk 247 (by decide) (by omega))
  simp only [f1_195, f1_191, f1_179, f1_167, f1_155, f1_142, f1_128, f1_114, f1_100, f1_86, f1_72, f1_58, f1_44, f1_24, f1_12, f1, f3_162, f3_158, f3_146, f3_134, f3_122, f3_108, f3_94, f3_80, f3_59, f3_31, f3_12, f3, f2, c0, c1, c2, c3, c4, c5, c6, c7, c8, c9, c10, c11, c12, c13, c14, c15, c16, c17, c18, c20, c21, c22, c23, c24, c25, c26, c27, if_true, if_false, ite_true, ite_false, reduceIte]
  try first | rfl | decide
theorem own_eq_11 (x : Int32) (h : (248 ≤ x.toInt ∧ x.toInt ≤ 767)) : f1 x = f2 x := by
  have c0 : ¬ (x < (97 : Int32)) := own_nlt 97 (by decide) (by omega)
  have c1 : (122 : Int32) < x := own_gt 122 (by decide) (by omega)
  have c2 : ¬ (x < (65 : Int32)) := own_nlt 65 (by decide) (by omega)
  have c3 : (90 : Int32) < x := own_gt 90 (by decide) (by omega)
  have c4 : ¬ (x = (95 : Int32)) := own_nek 95 (by decide) (by omega)
  have c5 : ¬ (x < (192 : Int32)) := own_nlt 192 (by decide) (by omega)
  have c6 : (214 : Int32) < x := own_gt 214 (by decide) (by omega)
  have c7 : ¬ (x < (216 : Int32)) := own_nlt 216 (by decide) (by omega)
  have c8 : (246 : Int32) < x := own_gt 246 (by decide) (by omega)
  have c9 : ¬ (x < (248 : Int32)) := own_nlt 248 (by decide) (by omega)
  have c10 : ¬ ((767 : Int32) < x) := own_ngt 767 (by decide) (by omega)
  have c12 : ¬ ((983039 : Int32) < x) := own_ngt 983039 (by decide) (by omega)
  have c13 : ¬ (x < (91 : Int32)) := own_nlt 91 (by decide) (by omega)
  have c14 : (94 : Int32) < x := own_gt 94 (by decide) (by omega)
  have c15 : ¬ (x = (96 : Int32)) := own_nek 96 (by decide) (by omega)
  have c16 : ¬ (x < (123 : Int32)) := own_nlt 123 (by decide) (by omega)
  have c17 : (191 : Int32) < x := own_gt 191 (by decide) (by omega)
  have c18 : ¬ (x = (215 : Int32)) := own_nek 215 (by decide) (by omega)
  have c19 : ¬ (x = (247 : Int32)) := own_nek 247 (by decide) (by omega)
  have c20 : x < (768 : Int32) := own_lt 768 (by decide) (by omega)
  have c21 : ¬ (x = (894 : Int32)) := own_nek 894 (by decide) (by omega)
  have c22 : x < (8192 : Int32) := own_lt 8192 (by decide) (by omega)
  have c23 : x < (8206 : Int32) := own_lt 8206 (by decide) (by omega)
  have c24 : x < (8592 : Int32) := own_lt 8592 (by decide) (by omega)
  have c25 : x < (12272 : Int32) := own_lt 12272 (by decide) (by omega)
  have c26 : x < (55296 : Int32) := own_lt 55296 (by decide) (by omega)
  have c27 : x < (64976 : Int32) := own_lt 64976 (by decide) (by omega)
  have c28 : x < (65534 : Int32) := own_lt 65534 (by decide) (by omega)
  simp only [f1_195, f1_191, f1_179, f1_167, f1_155, f1_142, f1_128, f1_114, f1_100, f1_86, f1_72, f1_58, f1_44, f1_24, f1_12, f1, f3_162, f3_158, f3_146, f3_134, f3_122, f3_108, f3_94, f3_80, f3_59, f3_31, f3_12, f3, f2, c0, c1, c2, c3, c4, c5, c6, c7, c8, c9, c10, c12, c13, c14, c15, c16, c17, c18, c19, c20, c21, c22, c23, c24, c25, c26, c27, c28, if_true, if_false, ite_true, ite_false, reduceIte]
  try first | rfl | decide
theorem own_eq_12 (x : Int32) (h : (768 ≤ x.toInt ∧ x.toInt ≤ 879)) : f1 x = f2 x := by
  have c0 : ¬ (x < (97 : Int32)) := own_nlt 97 (by decide) (by omega)
  have c1 : (122 : Int32) < x := own_gt 122 (by decide) (by omega)
  have c2 : ¬ (x < (65 : Int32)) := own_nlt 65 (by decide) (by omega)
  have c3 : (90 : Int32) < x := own_gt 90 (by decide) (by omega)
  have c4 : ¬ (x = (95 : Int32)) := own_nek 95 (by decide) (by omega)
  have c5 : ¬ (x < (192 : Int32)) := own_nlt 192 (by decide) (by omega)
  have c6 : (214 : Int32) < x := own_gt 214 (by decide) (by omega)
  have c7 : ¬ (x < (216 : Int32)) := own_nlt 216 (by decide) (by omega)
  have c8 : (246 : Int32) < x := own_gt 246 (by decide) (by omega)
  have c9 : ¬ (x < (248 : Int32)) := own_nlt 248 (by decide) (by omega)
  have c10 : (767 : Int32) < x := own_gt 767 (by decide) (by omega)
  have c11 : x < (880 : Int32) := own_lt 880 (by decide) (by omega)
  have c12 : x < (895 : Int32) := own_lt 895 (by decide) (by omega)
  have c13 : x < (8204 : Int32) := own_lt 8204 (by decide) (by omega)
  have c14 : x < (8304 : Int32) := own_lt 8304 (by decide) (by omega)
  have c15 : x < (11264 : Int32) := own_lt 11264 (by decide) (by omega)
  have c16 : x < (12289 : Int32) := own_lt 12289 (by decide) (by omega)
  have c17 : x < (63744 : Int32) := own_lt 63744 (by decide) (by omega)
  have c18 : x < (65008 : Int32) := own_lt 65008 (by decide) (by omega)
  have c19 : x < (65536 : Int32) := own_lt 65536 (by decide) (by omega)
  have c21 : ¬ ((983039 : Int32) < x) := own_ngt 983039 (by decide) (by omega)
  have c22 : ¬ (x < (91 : Int32)) := own_nlt 91 (by decide) (by omega)
  have c23 : (94 : Int32) < x := own_gt 94 (by decide) (by omega)
  have c24 : ¬ (x = (96 : Int32)) := own_nek 96 (by decide) (by omega)
  have c25 : ¬ (x < (123 : Int32)) := own_nlt 123 (by decide) (by omega)
  have c26 : (191 : Int32) < x := own_gt 191 (by decide) (by omega)
  have c27 : ¬ (x = (215 : Int32)) := own_nek 215 (by decide) (by omega)
  have c28 : ¬ (x = (247 : Int32)) := own_nek 247 (by decide) (by omega)
  have c29 : ¬ (x < (768 : Int32)) := own_nlt 768 (by decide) (by omega)
  have c30 : ¬ ((879 : Int32) < x) := own_ngt 879 (by decide) (by omega)
  simp only [f1_195, f1_191, f1_179, f1_167, f1_155, f1_142, f1_128, f1_114, f1_100, f1_86, f1_72, f1_58, f1_44, f1_24, f1_12, f1, f3_162, f3_158, f3_146, f3_134, f3_122, f3_108, f3_94, f3_80, f3_59, f3_31, f3_12, f3, f2, c0, c1, c2, c3, c4, c5, c6, c7, c8, c9, c10, c11, c12, c13, c14, c15, c16, c17, c18, c19, c21, c22, c23, c24, c25, c26, c27, c28, c29, c30, if_true, if_false, ite_true, ite_false, reduceIte]
  try first | rfl | decide
theorem own_eq_13 (x : Int32) (h : (880 ≤ x.toInt ∧ x.toInt ≤ 893)) : f1 x = f2 x := by
  have c0 : ¬ (x < (97 : Int32)) := own_nlt 97 (by decide) (by omega)
  have c1 : (122 : Int32) < x := own_gt 122 (by decide) (by omega)
  have c2 : ¬ (x < (65 : Int32)) := own_nlt 65 (by decide) (by omega)
  have c3 : (90 : Int32) < x := own_gt 90 (by decide) (by omega)
  have c4 : ¬ (x = (95 : Int32)) := own_nek 95 (by decide) (by omega)
  have c5 : ¬ (x < (192 : Int32)) := own_nlt 192 (by decide) (by omega)
  have c6 : (214 : Int32) < x := own_gt 214 (by decide) (by omega)
  have c7 : ¬ (x < (216 : Int32)) := own_nlt 216 (by decide) (by omega)
  have c8 : (246 : Int32) < x := own_gt 246 (by decide) (by omega)
  have c9 : ¬ (x < (248 : Int32)) := own_nlt 248 (by decide) (by omega)
  have c10 : (767 : Int32) < x := own_gt 767 (by decide) (by omega)
  have c11 : ¬ (x < (880 : Int32)) := own_nlt 880 (by decide) (by omega)
  have c12 : ¬ ((893 : Int32) < x) := own_ngt 893 (by decide) (by omega)
  have c14 : ¬ ((983039 : Int32) < x) := own_ngt 983039 (by decide) (by omega)
  have c15 : ¬ (x < (91 : Int32)) := own_nlt 91 (by decide) (by omega)
  have c16 : (94 : Int32) < x := own_gt 94 (by decide) (by omega)
  have c17 : ¬ (x = (96 : Int32)) := own_nek 96 (by decide) (by omega)
  have c18 : ¬ (x < (123 : Int32)) := own_nlt 123 (by decide) (by omega)
  have c19 : (191 : Int32) < x := own_gt 191 (by decide) (by omega)
  have c20 : ¬ (x = (215 : Int32)) := own_nek 215 (by decide) (by omega)
  have c21 : ¬ (x = (247 : Int32)) := own_nek 247 (by decide) (by omega)
  have c22 : ¬ (x < (768 : Int32)) := own_nlt 768 (by decide) (by omega)
  have c23 : (879 : Int32) < x := own_gt 879 (by decide) (by omega)
  have c24 : ¬ (x = (894 : Int32)) := own_nek 894 (by decide) (by omega)
  have c25 : x < (8192 : Int32) := own_lt 8192 (by decide) (by omega)
  have c26 : x < (8206 : Int32) := own_lt 8206 (by decide) (by omega)
  have c27 : x < (8592 : Int32) := own_lt 8592 (by decide) (by omega)
  have c28 : x < (12272 : Int32) := own_lt 12272 (by decide) (by omega)
  have c29 : x < (55296 : Int32) := own_lt 55296 (by decide) (by omega)
  have c30 : x < (64976 : Int32) := own_lt 64976 (by decide) (by omega)
  have c31 : x < (65534 : Int32) := own_lt 65534 (by decide) (by omega)
  simp only [f1_195, f1_191, f1_179, f1_167, f1_155, f1_142, f1_128, f1_114, f1_100, f1_86, f1_72, f1_58, f1_44, f1_24, f1_12, f1, f3_162, f3_158, f3_146, f3_134, f3_122, f3_108, f3_94, f3_80, f3_59, f3_31, f3_12, f3, f2, c0, c1, c2, c3, c4, c5, c6, c7, c8, c9, c10, c11, c12, c14, c15, c16, c17, c18, c19, c20, c21, c22, c23, c24, c25, c26, c27, c28, c29, c30, c31, if_true, if_false, ite_true, ite_false, reduceIte]
  try first | rfl | decide
theorem own_eq_14 (x : Int32) (h : (894 ≤ x.toInt ∧ x.toInt ≤ 894)) : f1 x = f2 x := by
  have c0 : ¬ (x < (97 : Int32)) := own_nlt 97 (by decide) (by omega)
  have c1 : (122 : Int32) < x := own_gt 122 (by decide) (by omega)
  have c2 : ¬ (x < (65 : Int32)) := own_nlt 65 (by decide) (by omega)
  have c3 : (90 : Int32) < x := own_gt 90 (by decide) (by omega)
  have c4 : ¬ (x = (95 : Int32)) := own_nek 95 (by decide) (by omega)
  have c5 : ¬ (x < (192 : Int32)) := own_nlt 192 (by decide) (by omega)
  have c6 : (214 : Int32) < x := own_gt 214 (by decide) (by omega)
  have c7 : ¬ (x < (216 : Int32)) := own_nlt 216 (by decide) (by omega)
  have c8 : (246 : Int32) < x := own_gt 246 (by decide) (by omega)
  have c9 : ¬ (x < (248 : Int32)) := own_nlt 248 (by decide) (by omega)
  have c10 : (767 : Int32) < x := own_gt 767 (by decide) (by omega)
  have c11 : ¬ (x < (880 : Int32)) := own_nlt 880 (by decide) (by omega)
  have c12 : (893 : Int32) < x := own_gt 893 (by decide) (by omega)
  have c13 : x < (895 : Int32) := own_lt 895 (by decide) (by omega)
  have c14 : x < (8204 : Int32) := own_lt 8204 (by decide) (by omega)
  have c15 : x < (8304 : Int32) := own_lt 8304 (by decide) (by omega)
  have c16 : x < (11264 : Int32) := own_lt 11264 (by decide) (by omega)
  have c17 : x < (12289 : Int32) := own_lt 12289 (by decide) (by omega)
  have c18 : x < (63744 : Int32) := own_lt 63744 (by decide) (by omega)
  have c19 : x < (65008 : Int32) := own_lt 65008 (by decide) (by omega)
  have c20 : x < (65536 : Int32) := own_lt 65536 (by decide) (by omega)
  have c22 : ¬ ((983039 : Int32) < x) := own_ngt 983039 (by decide) (by omega)
  have c23 : ¬ (x < (91 : Int32)) := own_nlt 91 (by decide) (by omega)
  have c24 : (94 : Int32) < x := own_gt 94 (by decide) (by omega)
  have c25 : ¬ (x = (96 : Int32)) := own_nek 96 (by decide) (by omega)
  have c26 : ¬ (x < (123 : Int32)) := own_nlt 123 (by decide) (by omega)
  have c27 : (191 : Int32) < x := own_gt 191 (by decide) (by omega)
  have c28 : ¬ (x = (215 : Int32)) := own_nek 215 (by decide) (by omega)
  have c29 : ¬ (x = (247 : Int32)) := own_nek 247 (by decide) (by omega)
  have c30 : ¬ (x < (768 : Int32)) := own_nlt 768 (by decide) (by omega)
  have c31 : (879 : Int32) < x := own_gt 879 (by decide) (by omega)
  have c32 : (x = (894 : Int32)) = True := eq_true (own_eqk 894 (by decide) (by omega))
  simp only [f1_195, f1_191, f1_179, f1_167, f1_155, f1_142, f1_128, f1_114, f1_100, f1_86, f1_72, f1_58, f1_44, f1_24, f1_12, f1, f3_162, f3_158, f3_146, f3_134, f3_122, f3_108, f3_94, f3_80, f3_59, f3_31, f3_12, f3, f2, c0, c1, c2, c3, c4, c5, c6, c7, c8, c9, c10, c11, c12, c13, c14, c15, c16, c17, c18, c19, c20, c22, c23, c24, c25, c26, c27, c28, c29, c30, c31, c32, if_true, if_false, ite_true, ite_false, reduceIte]
  try first | rfl | decide
theorem own_eq_15 (x : Int32) (h : (895 ≤ x.toInt ∧ x.toInt ≤ 8191)) : f1 x = f2 x := by
  have c0 : ¬ (x < (97 : Int32)) := own_nlt 97 (by decide) (by omega)
  have c1 : (122 : Int32) < x := own_gt 122 (by decide) (by omega)
  have c2 : ¬ (x < (65 : Int32)) := own_nlt 65 (by decide) (by omega)
  have c3 : (90 : Int32) < x := own_gt 90 (by decide) (by omega)
  have c4 : ¬ (x = (95 : Int32)) := own_nek 95 (by decide) (by omega)
  have c5 : ¬ (x < (192 : Int32)) := own_nlt 192 (by decide) (by omega)
  have c6 : (214 : Int32) < x := own_gt 214 (by decide) (by omega)
  have c7 : ¬ (x < (216 : Int32)) := own_nlt 216 (by decide) (by omega)
  have c8 : (246 : Int32) < x := own_gt 246 (by decide) (by omega)
  have c9 : ¬ (x < (248 : Int32)) := own_nlt 248 (by decide) (by omega)
  have c10 : (767 : Int32) < x := own_gt 767 (by decide) (by omega)
  have c11 : ¬ (x < (880 : Int32)) := own_nlt 880 (by decide) (by omega)
  have c12 : (893 : Int32) < x := own_gt 893 (by decide) (by omega)
  have c13 : ¬ (x < (895 : Int32)) := own_nlt 895 (by decide) (by omega)
  have c14 : ¬ ((8191 : Int32) < x) := own_ngt 8191 (by decide) (by omega)
  have c16 : ¬ ((983039 : Int32) < x) := own_ngt 983039 (by decide) (by omega)
  have c17 : ¬ (x < (91 : Int32)) := own_nlt 91 (by decide) (by omega)
  have c18 : (94 : Int32) < x := own_gt 94 (by decide) (by omega)
  have c19 : ¬ (x = (96 : Int32)) := own_nek 96 (by decide) (by omega)
  have c20 : ¬ (x < (123 : Int32)) := own_nlt 123 (by decide) (by omega)
  have c21 : (191 : Int32) < x := own_gt 191 (by decide) (by omega)
  have c22 : ¬ (x = (215 : Int32)) := own_nek 215 (by decide) (by omega)
  have c23 : ¬ (x = (247 : Int32)) := own_nek 247 (by decide) (by omega)
  have c24 : ¬ (x < (768 : Int32)) := own_nlt 768 (by decide) (by omega)
  have c25 : (879 : Int32) < x := own_gt 879 (by decide) (by omega)
  have c26 : ¬ (x = (894 : Int32)) := own_nek 894 (by decide) (by omega)
  have c27 : x < (8192 : Int32) := own_lt 8192 (by decide) (by omega)
  have c28 : x < (8206 : Int32) := own_lt 8206 (by decide) (by omega)
  have c29 : x < (8592 : Int32) := own_lt 8592 (by decide) (by omega)
  have c30 : x < (12272 : Int32) := own_lt 12272 (by decide) (by omega)
  have c31 : x < (55296 : Int32) := own_lt 55296 (by decide) (by omega)
  have c32 : x < (64976 : Int32) := own_lt 64976 (by decide) (by omega)
  have c33 : x < (65534 : Int32) := own_lt 65534 (by decide) (by omega)
  simp only [f1_195, f1_191, f1_179, f1_167, f1_155, f1_142, f1_128, f1_114, f1_100, f1_86, f1_72, f1_58, f1_44, f1_24, f1_12, f1, f3_162, f3_158, f3_146, f3_134, f3_122, f3_108, f3_94, f3_80, f3_59, f3_31, f3_12, f3, f2, c0, c1, c2, c3, c4, c5, c6, c7, c8, c9, c10, c11, c12, c13, c14, c16, c17, c18, c19, c20, c21, c22, c23, c24, c25, c26, c27, c28, c29, c30, c31, c32, c33, if_true, if_false, ite_true, ite_false, reduceIte]
  try first | rfl | decide
theorem own_eq_16 (x : Int32) (h : (8192 ≤ x.toInt ∧ x.toInt ≤ 8203)) : f1 x = f2 x := by
  have c0 : ¬ (x < (97 : Int32)) := own_nlt 97 (by decide) (by omega)
  have c1 : (122 : Int32) < x := own_gt 122 (by decide) (by omega)
  have c2 : ¬ (x < (65 : Int32)) := own_nlt 65 (by decide) (by omega)
  have c3 : (90 : Int32) < x := own_gt 90 (by decide) (by omega)
  have c4 : ¬ (x = (95 : Int32)) := own_nek 95 (by decide) (by omega)
  have c5 : ¬ (x < (192 : Int32)) := own_nlt 192 (by decide) (by omega)
  have c6 : (214 : Int32) < x := own_gt 214 (by decide) (by omega)
  have c7 : ¬ (x < (216 : Int32)) := own_nlt 216 (by decide) (by omega)
  have c8 : (246 : Int32) < x := own_gt 246 (by decide) (by omega)
  have c9 : ¬ (x < (248 : Int32)) := own_nlt 248 (by decide) (by omega)
  have c10 : (767 : Int32) < x := own_gt 767 (by decide) (by omega)
  have c11 : ¬ (x < (880 : Int32)) := own_nlt 880 (by decide) (by omega)
  have c12 : (893 : Int32) < x := own_gt 893 (by decide) (by omega)
  have c13 : ¬ (x < (895 : Int32)) := own_nlt 895 (by decide) (by omega)
  have c14 : (8191 : Int32) < x := own_gt 8191 (by decide) (by omega)
  have c15 : x < (8204 : Int32) := own_lt 8204 (by decide) (by omega)
  have c16 : x < (8304 : Int32) := own_lt 8304 (by decide) (by omega)
  have c17 : x < (11264 : Int32) := own_lt 11264 (by decide) (by omega)
  have c18 : x < (12289 : Int32) := own_lt 12289 (by decide) (by omega)
  have c19 : x < (63744 : Int32) := own_lt 63744 (by decide) (by omega)
  have c20 : x < (65008 : Int32) := own_lt 65008 (by decide) (by omega)
  have c21 : x < (65536 : Int32) := own_lt 65536 (by decide) (by omega)
  have c23 : ¬ ((983039 : Int32) < x) := own_ngt 983039 (by decide) (by omega)
  have c24 : ¬ (x < (91 : Int32)) := own_nlt 91 (by decide) (by omega)
  have c25 : (94 : Int32) < x := own_gt 94 (by decide) (by omega)
  have c26 : ¬ (x = (96 : Int32)) := own_nek 96 (by decide) (by omega)
  have c27 : ¬ (x < (123 : Int32)) := own_nlt 123 (by decide) (by omega)
  have c28 : (191 : Int32) < x := own_gt 191 (by decide) (by omega)
  have c29 : ¬ (x = (215 : Int32)) := own_nek 215 (by decide) (by omega)
  have c30 : ¬ (x = (247 : Int32)) := own_nek 247 (by decide) (by omega)
  have c31 : ¬ (x < (768 : Int32)) := own_nlt 768 (by decide) (by omega)
  have c32 : (879 : Int32) < x := own_gt 879 (by decide) (by omega)
  have c33 : ¬ (x = (894 : Int32)) := own_nek 894 (by decide) (by omega)
  have c34 : ¬ (x < (8192 : Int32)) := own_nlt 8192 (by decide) (by omega)
  have c35 : ¬ ((8203 : Int32) < x) := own_ngt 8203 (by decide) (by omega)
  simp only [f1_195, f1_191, f1_179, f1_167, f1_155, f1_142, f1_128, f1_114, f1_100, f1_86, f1_72, f1_58, f1_44, f1_24, f1_12, f1, f3_162, f3_158, f3_146, f3_134, f3_122, f3_108, f3_94, f3_80, f3_59, f3_31, f3_12, f3, f2, c0, c1, c2, c3, c4, c5, c6, c7, c8, c9, c10, c11, c12, c13, c14, c15, c16, c17, c18, c19, c20, c21, c23, c24, c25, c26, c27, c28, c29, c30, c31, c32, c33, c34, c35, if_true, if_false, ite_true, ite_false, reduceIte]
  try first | rfl | decide
theorem own_eq_17 (x : Int32) (h : (8204 ≤ x.toInt ∧ x.toInt ≤ 8205)) : f1 x = f2 x := by
  have c0 : ¬ (x < (97 : Int32)) := own_nlt 97 (by decide) (by omega)
  have c1 : (122 : Int32) < x := own_gt 122 (by decide) (by omega)
  have c2 : ¬ (x < (65 : Int32)) := own_nlt 65 (by decide) (by omega)
  have c3 : (90 : Int32) < x := own_gt 90 (by decide) (by omega)
  have c4 : ¬ (x = (95 : Int32)) := own_nek 95 (by decide) (by omega)
  have c5 : ¬ (x < (192 : Int32)) := own_nlt 192 (by decide) (by omega)
  have c6 : (214 : Int32) < x := own_gt 214 (by decide) (by omega)
  have c7 : ¬ (x < (216 : Int32)) := own_nlt 216 (by decide) (by omega)
  have c8 : (246 : Int32) < x := own_gt 246 (by decide) (by omega)
  have c9 : ¬ (x < (248 : Int32)) := own_nlt 248 (by decide) (by omega)
  have c10 : (767 : Int32) < x := own_gt 767 (by decide) (by omega)
  have c11 : ¬ (x < (880 : Int32)) := own_nlt 880 (by decide) (by omega)
  have c12 : (893 : Int32) < x := own_gt 893 (by decide) (by omega)
  have c13 : ¬ (x < (895 : Int32)) := own_nlt 895 (by decide) (by omega)
  have c14 : (8191 : Int32) < x := own_gt 8191 (by decide) (by omega)
  have c15 : ¬ (x < (8204 : Int32)) := own_nlt 8204 (by decide) (by omega)
  have c16 : ¬ ((8205 : Int32) < x) := own_ngt 8205 (by decide) (by omega)
  have c18 : ¬ ((983039 : Int32) < x) := own_ngt 983039 (by decide) (by omega)
  have c19 : ¬ (x < (91 : Int32)) := own_nlt 91 (by decide) (by omega)
  have c20 : (94 : Int32) < x := own_gt 94 (by decide) (by omega)
  have c21 : ¬ (x = (96 : Int32)) := own_nek 96 (by decide) (by omega)
  have c22 : ¬ (x < (123 : Int32)) := own_nlt 123 (by decide) (by omega)
  have c23 : (191 : Int32) < x := own_gt 191 (by decide) (by omega)
  have c24 : ¬ (x = (215 : Int32)) := own_nek 215 (by decide) (by omega)
  have c25 : ¬ (x = (247 : Int32)) := own_nek 247 (by decide) (by omega)
  have c26 : ¬ (x < (768 : Int32)) := own_nlt 768 (by decide) (by omega)
  have c27 : (879 : Int32) < x := own_gt 879 (by decide) (by omega)
  have c28 : ¬ (x = (894 : Int32)) := own_nek 894 (by decide) (by omega)
  have c29 : ¬ (x < (8192 : Int32)) := own_nlt 8192 (by decide) (by omega)
  have c30 : (8203 : Int32) < x := own_gt 8203 (by decide) (by omega)
  have c31 : x < (8206 : Int32) := own_lt 8206 (by decide) (by omega)
  have c32 : x < (8592 : Int32) := own_lt 8592 (by decide) (by omega)
  have c33 : x < (12272 : Int32) := own_lt 12272 (by decide) (by omega)
  have c34 : x < (55296 : Int32) := own_lt 55296 (by decide) (by omega)
  have c35 : x < (64976 : Int32) := own_lt 64976 (by decide) (by omega)
  have c36 : x < (65534 : Int32) := own_lt 65534 (by decide) (by omega)
  simp only [f1_195, f1_191, f1_179, f1_167, f1_155, f1_142, f1_128, f1_114, f1_100, f1_86, f1_72, f1_58, f1_44, f1_24, f1_12, f1, f3_162, f3_158, f3_146, f3_134, f3_122, f3_108, f3_94, f3_80, f3_59, f3_31, f3_12, f3, f2, c0, c1, c2, c3, c4, c5, c6, c7, c8, c9, c10, c11, c12, c13, c14, c15, c16, c18, c19, c20, c21, c22, c23, c24, c25, c26, c27, c28, c29, c30, c31, c32, c33, c34, c35, c36, if_true, if_false, ite_true, ite_false, reduceIte]
  try first | rfl | decide
theorem own_eq_18 (x : Int32) (h : (8206 ≤ x.toInt ∧ x.toInt ≤ 8303)) : f1 x = f2 x := by
  have c0 : ¬ (x < (97 : Int32)) := own_nlt 97 (by decide) (by omega)
  have c1 : (122 : Int32) < x := own_gt 122 (by decide) (by omega)
  have c2 : ¬ (x < (65 : Int32)) := own_nlt 65 (by decide) (by omega)
  have c3 : (90 : Int32) < x := own_gt 90 (by decide) (by omega)
  have c4 : ¬ (x = (95 : Int32)) := own_nek 95 (by decide) (by omega)
  have c5 : ¬ (x < (192 : Int32)) := own_nlt 192 (by decide) (by omega)
  have c6 : (214 : Int32) < x := own_gt 214 (by decide) (by omega)
  have c7 : ¬ (x < (216 : Int32)) := own_nlt 216 (by decide) (by omega)
  have c8 : (246 : Int32) < x := own_gt 246 (by decide) (by omega)
  have c9 : ¬ (x < (248 : Int32)) := own_nlt 248 (by decide) (by omega)
  have c10 : (767 : Int32) < x := own_gt 767 (by decide) (by omega)
  have c11 : ¬ (x < (880 : Int32)) := own_nlt 880 (by decide) (by omega)
  have c12 : (893 : Int32) < x := own_gt 893 (by decide) (by omega)
  have c13 : ¬ (x < (895 : Int32)) := own_nlt 895 (by decide) (by omega)
  have c14 : (8191 : Int32) < x := own_gt 8191 (by decide) (by omega)
  have c15 : ¬ (x < (8204 : Int32)) := own_nlt 8204 (by decide) (by omega)
  have c16 : (8205 : Int32) < x := own_gt 8205 (by decide) (by omega)
  have c17 : x < (8304 : Int32) := own_lt 8304 (by decide) (by omega)
  have c18 : x < (11264 : Int32) := own_lt 11264 (by decide) (by omega)
  have c19 : x < (12289 : Int32) := own_lt 12289 (by decide) (by omega)
  have c20 : x < (63744 : Int32) := own_lt 63744 (by decide) (by omega)
  have c21 : x < (65008 : Int32) := own_lt 65008 (by decide) (by omega)
  have c22 : x < (65536 : Int32) := own_lt 65536 (by decide) (by omega)
  have c24 : ¬ ((983039 : Int32) < x) := own_ngt 983039 (by decide) (by omega)
  have c25 : ¬ (x < (91 : Int32)) := own_nlt 91 (by decide) (by omega)
  have c26 : (94 : Int32) < x := own_gt 94 (by decide) (by omega)
  have c27 : ¬ (x = (96 : Int32)) := own_nek 96 (by decide) (by omega)
  have c28 : ¬ (x < (123 : Int32)) := own_nlt 123 (by decide) (by omega)
  have c29 : (191 : Int32) < x := own_gt 191 (by decide) (by omega)
  have c30 : ¬ (x = (215 : Int32)) := own_nek 215 (by decide) (by omega)
  have c31 : ¬ (x = (247 : Int32)) := own_nek 247 (by decide) (by omega)
  have c32 : ¬ (x < (768 : Int32)) := own_nlt 768 (by decide) (by omega)
  have c33 : (879 : Int32) < x := own_gt 879 (by decide) (by omega)
  have c34 : ¬ (x = (894 : Int32)) := own_nek 894 (by decide) (by omega)
  have c35 : ¬ (x < (8192 : Int32)) := own_nlt 8192 (by decide) (by omega)
  have c36 : (8203 : Int32) < x := own_gt 8203 (by decide) (by omega)
  have c37 : ¬ (x < (8206 : Int32)) := own_nlt 8206 (by decide) (by omega)
  have c38 : ¬ ((8303 : Int32) < x) := own_ngt 8303 (by decide) (by omega)
  simp only [f1_195, f1_191, f1_179, f1_167, f1_155, f1_142, f1_128, f1_114, f1_100, f1_86, f1_72, f1_58, f1_44, f1_24, f1_12, f1, f3_162, f3_158, f3_146, f3_134, f3_122, f3_108, f3_94, f3_80, f3_59, f3_31, f3_12, f3, f2, c0, c1, c2, c3, c4, c5, c6, c7, c8, c9, c10, c11, c12, c13, c14, c15, c16, c17, c18, c19, c20, c21, c22, c24, c25, c26, c27, c28, c29, c30, c31, c32, c33, c34, c35, c36, c37, c38, if_true, if_false, ite_true, ite_false, reduceIte]
  try first | rfl | decide
theorem own_eq_19 (x : Int32) (h : (8304 ≤ x.toInt ∧ x.toInt ≤ 8591)) : f1 x = f2 x := by
  have c0 : ¬ (x < (97 : Int32)) := own_nlt 97 (by decide) (by omega)
  have c1 : (122 : Int32) < x := own_gt 122 (by decide) (by omega)
  have c2 : ¬ (x < (65 : Int32)) := own_nlt 65 (by decide) (by omega)
  have c3 : (90 : Int32) < x := own_gt 90 (by decide) (by omega)
  have c4 : ¬ (x = (95 : Int32)) := own_nek 95 (by decide) (by omega)
  have c5 : ¬ (x < (192 : Int32)) := own_nlt 192 (by decide) (by omega)
  have c6 : (214 : Int32) < x := own_gt 214 (by decide) (by omega)
  have c7 : ¬ (x < (216 : Int32)) := own_nlt 216 (by decide) (by omega)
  have c8 : (246 : Int32) < x := own_gt 246 (by decide) (by omega)
  have c9 : ¬ (x < (248 : Int32)) := own_nlt 248 (by decide) (by omega)
  have c10 : (767 : Int32) < x := own_gt 767 (by decide) (by omega)
  have c11 : ¬ (x < (880 : Int32)) := own_nlt 880 (by decide) (by omega)
  have c12 : (893 : Int32) < x := own_gt 893 (by decide) (by omega)
  have c13 : ¬ (x < (895 : Int32)) := own_nlt 895 (by decide) (by omega)
  have c14 : (8191 : Int32) < x := own_gt 8191 (by decide) (by omega)
  have c15 : ¬ (x < (8204 : Int32)) := own_nlt 8204 (by decide) (by omega)
  have c16 : (8205 : Int32) < x := own_gt 8205 (by decide) (by omega)
  have c17 : ¬ (x < (8304 : Int32)) := own_nlt 8304 (by decide) (by omega)
  have c18 : ¬ ((8591 : Int32) < x) := own_ngt 8591 (by decide) (by omega)
  have c20 : ¬ ((983039 : Int32) < x) := own_ngt 983039 (by decide) (by omega)
  have c21 : ¬ (x < (91 : Int32)) := own_nlt 91 (by decide) (by omega)
  have c22 : (94 : Int32) < x := own_gt 94 (by decide) (by omega)
  have c23 : ¬ (x = (96 : Int32)) := own_nek 96 (by decide) (by omega)
  have c24 : ¬ (x < (123 : Int32)) := own_nlt 123 (by decide) (by omega)
  have c25 : (191 : Int32) < x := own_gt 191 (by decide) (by omega)
  have c26 : ¬ (x = (215 : Int32)) := own_nek 215 (by decide) (by omega)
  have c27 : ¬ (x = (247 : Int32)) := own_nek 247 (by decide) (by omega)
  have c28 : ¬ (x < (768 : Int32)) := own_nlt 768 (by decide) (by omega)
  have c29 : (879 : Int32) < x := own_gt 879 (by decide) (by omega)
  have c30 : ¬ (x = (894 : Int32)) := own_nek 894 (by decide) (by omega)
  have c31 : ¬ (x < (8192 : Int32)) := own_nlt 8192 (by decide) (by omega)
  have c32 : (8203 : Int32) < x := own_gt 8203 (by decide) (by omega)
  have c33 : ¬ (x < (8206 : Int32)) := own_nlt 8206 (by decide) (by omega)
  have c34 : (8303 : Int32) < x := own_gt 8303 (by decide) (by omega)
  have c35 : x < (8592 : Int32) := own_lt 8592 (by decide) (by omega)
  have c36 : x < (12272 : Int32) := own_lt 12272 (by decide) (by omega)
  have c37 : x < (55296 : Int32) := own_lt 55296 (by decide) (by omega)
  have c38 : x < (64976 : Int32) := own_lt 64976 (by decide) (by omega)
  have c39 : x < (65534 : Int32) := own_lt 65534 (by decide) (by omega)
  simp only [f1_195, f1_191, f1_179, f1_167, f1_155, f1_142, f1_128, f1_114, f1_100, f1_86, f1_72, f1_58, f1_44, f1_24, f1_12, f1, f3_162, f3_158, f3_146, f3_134, f3_122, f3_108, f3_94, f3_80, f3_59, f3_31, f3_12, f3, f2, c0, c1, c2, c3, c4, c5, c6, c7, c8, c9, c10, c11, c12, c13, c14, c15, c16, c17, c18, c20, c21, c22, c23, c24, c25, c26, c27, c28, c29, c30, c31, c32, c33, c34, c35, c36, c37, c38, c39, if_true, if_false, ite_true, ite_false, reduceIte]
  try first | rfl | decide
theorem own_eq_20 (x : Int32) (h : (8592 ≤ x.toInt ∧ x.toInt ≤ 11263)) : f1 x = f2 x := by
  have c0 : ¬ (x < (97 : Int32)) := own_nlt 97 (by decide) (by omega)
  have c1 : (122 : Int32) < x := own_gt 122 (by decide) (by omega)
  have c2 : ¬ (x < (65 : Int32)) := own_nlt 65 (by decide) (by omega)
  have c3 : (90 : Int32) < x := own_gt 90 (by decide) (by omega)
  have c4 : ¬ (x = (95 : Int32)) := own_nek 95 (by decide) (by omega)
  have c5 : ¬ (x < (192 : Int32)) := own_nlt 192 (by decide) (by omega)
  have c6 : (214 : Int32) < x := own_gt 214 (by decide) (by omega)
  have c7 : ¬ (x < (216 : Int32)) := own_nlt 216 (by decide) (by omega)
  have c8 : (246 : Int32) < x := own_gt 246 (by decide) (by omega)
  have c9 : ¬ (x < (248 : Int32)) := own_nlt 248 (by decide) (by omega)
  have c10 : (767 : Int32) < x := own_gt 767 (by decide) (by omega)
  have c11 : ¬ (x < (880 : Int32)) := own_nlt 880 (by decide) (by omega)
  have c12 : (893 : Int32) < x := own_gt 893 (by decide) (by omega)
  have c13 : ¬ (x < (895 : Int32)) := own_nlt 895 (by decide) (by omega)
  have c14 : (8191 : Int32) < x := own_gt 8191 (by decide) (by omega)
  have c15 : ¬ (x < (8204 : Int32)) := own_nlt 8204 (by decide) (by omega)
  have c16 : (8205 : Int32) < x := own_gt 8205 (by decide) (by omega)
  have c17 : ¬ (x < (8304 : Int32)) := own_nlt 8304 (by decide) (by omega)
  have c18 : (8591 : Int32) < x := own_gt 8591 (by decide) (by omega)
  have c19 : x < (11264 : Int32) := own_lt 11264 (by decide) (by omega)
  have c20 : x < (12289 : Int32) := own_lt 12289 (by decide) (by omega)
  have c21 : x < (63744 : Int32) := own_lt 63744 (by decide) (by omega)
  have c22 : x < (65008 : Int32) := own_lt 65008 (by decide) (by omega)
  have c23 : x < (65536 : Int32) := own_lt 65536 (by decide) (by omega)
  have c25 : ¬ ((983039 : Int32) < x) := own_ngt 983039 (by decide) (by omega)
  have c26 : ¬ (x < (91 : Int32)) := own_nlt 91 (by decide) (by omega)
  have c27 : (94 : Int32) < x := own_gt 94 (by decide) (by omega)
  have c28 : ¬ (x = (96 : Int32)) := own_nek 96 (by decide) (by omega)
  have c29 : ¬ (x < (123 : Int32)) := own_nlt 123 (by decide) (by omega)
  have c30 : (191 : Int32) < x := own_gt 191 (by decide) (by omega)
  have c31 : ¬ (x = (215 : Int32)) := own_nek 215 (by decide) (by omega)
  have c32 : ¬ (x = (247 : Int32)) := own_nek 247 (by decide) (by omega)
  have c33 : ¬ (x < (768 : Int32)) := own_nlt 768 (by decide) (by omega)
  have c34 : (879 : Int32) < x := own_gt 879 (by decide) (by omega)
  have c35 : ¬ (x = (894 : Int32)) := own_nek 894 (by decide) (by omega)
  have c36 : ¬ (x < (8192 : Int32)) := own_nlt 8192 (by decide) (by omega)
  have c37 : (8203 : Int32) < x := own_gt 8203 (by decide) (by omega)
  have c38 : ¬ (x < (8206 : Int32)) := own_nlt 8206 (by decide) (by omega)
  have c39 : (8303 : Int32) < x := own_gt 8303 (by decide) (by omega)
  have c40 : ¬ (x < (8592 : Int32)) := own_nlt 8592 (by decide) (by omega)
  have c41 : ¬ ((11263 : Int32) < x) := own_ngt 11263 (by decide) (by omega)
  simp only [f1_195, f1_191, f1_179, f1_167, f1_155, f1_142, f1_128, f1_114, f1_100, f1_86, f1_72, f1_58, f1_44, f1_24, f1_12, f1, f3_162, f3_158, f3_146, f3_134, f3_122, f3_108, f3_94, f3_80, f3_59, f3_31, f3_12, f3, f2, c0, c1, c2, c3, c4, c5, c6, c7, c8, c9, c10, c11, c12, c13, c14, c15, c16, c17, c18, c19, c20, c21, c22, c23, c25, c26, c27, c28, c29, c30, c31, c32, c33, c34, c35, c36, c37, c38, c39, c40, c41, if_true, if_false, ite_true, ite_false, reduceIte]
  try first | rfl | decide
theorem own_eq_21 (x : Int32) (h : (11264 ≤ x.toInt ∧ x.toInt ≤ 12271)) : f1 x = f2 x := by
  have c0 : ¬ (x < (97 : Int32)) := own_nlt 97 (by decide) (by omega)
  have c1 : (122 : Int32) < x := own_gt 122 (by decide) (by omega)
  have c2 : ¬ (x < (65 : Int32)) := own_nlt 65 (by decide) (by omega)
  have c3 : (90 : Int32) < x := own_gt 90 (by decide) (by omega)
  have c4 : ¬ (x = (95 : Int32)) := own_nek 95 (by decide) (by omega)
  have c5 : ¬ (x < (192 : Int32)) := own_nlt 192 (by decide) (by omega)
  have c6 : (214 : Int32) < x := own_gt 214 (by decide) (by omega)
  have c7 : ¬ (x < (216 : Int32)) := own_nlt 216 (by decide) (by omega)
  have c8 : (246 : Int32) < x := own_gt 246 (by decide) (by omega)
  have c9 : ¬ (x < (248 : Int32)) := own_nlt 248 (by decide) (by omega)
  have c10 : (767 : Int32) < x := own_gt 767 (by decide) (by omega)
  have c11 : ¬ (x < (880 : Int32)) := own_nlt 880 (by decide) (by omega)
  have c12 : (893 : Int32) < x := own_gt 893 (by decide) (by omega)
  have c13 : ¬ (x < (895 : Int32)) := own_nlt 895 (by decide) (by omega)
  have c14 : (8191 : Int32) < x := own_gt 8191 (by decide) (by omega)
  have c15 : ¬ (x < (8204 : Int32)) := own_nlt 8204 (by decide) (by omega)
  have c16 : (8205 : Int32) < x := own_gt 8205 (by decide) (by omega)
  have c17 : ¬ (x < (8304 : Int32)) := own_nlt 8304 (by decide) (by omega)
  have c18 : (8591 : Int32) < x := own_gt 8591 (by decide) (by omega)
  have c19 : ¬ (x < (11264 : Int32)) := own_nlt 11264 (by decide) (by omega)
  have c20 : ¬ ((12271 : Int32) < x) := own_ngt 12271 (by decide) (by omega)
  have c22 : ¬ ((983039 : Int32) < x) := own_ngt 983039 (by decide) (by omega)
  have c23 : ¬ (x < (91 : Int32)) := own_nlt 91 (by decide) (by omega)
  have c24 : (94 : Int32) < x := own_gt 94 (by decide) (by omega)
  have c25 : ¬ (x = (96 : Int32)) := own_nek 96 (by decide) (by omega)
  have c26 : ¬ (x < (123 : Int32)) := own_nlt 123 (by decide) (by omega)
  have c27 : (191 : Int32) < x := own_gt 191 (by decide) (by omega)
  have c28 : ¬ (x = (215 : Int32)) := own_nek 215 (by decide) (by omega)
  have c29 : ¬ (x = (247 : Int32)) := own_nek 247 (by decide) (by omega)
  have c30 : ¬ (x < (768 : Int32)) := own_nlt 768 (by decide) (by omega)
  have c31 : (879 : Int32) < x := own_gt 879 (by decide) (by omega)
  have c32 : ¬ (x = (894 : Int32)) := own_nek 894 (by decide) (by omega)
  have c33 : ¬ (x < (8192 : Int32)) := own_nlt 8192 (by decide) (by omega)
  have c34 : (8203 : Int32) < x := own_gt 8203 (by decide) (by omega)
  have c35 : ¬ (x < (8206 : Int32)) := own_nlt 8206 (by decide) (by omega)
  have c36 : (8303 : Int32) < x := own_gt 8303 (by decide) (by omega)
  have c37 : ¬ (x < (8592 : Int32)) := own_nlt 8592 (by decide) (by omega)
  have c38 : (11263 : Int32) < x := own_gt 11263 (by decide) (by omega)
  have c39 : x < (12272 : Int32) := own_lt 12272 (by decide) (by omega)
  have c40 : x < (55296 : Int32) := own_lt 55296 (by decide) (by omega)
  have c41 : x < (64976 : Int32) := own_lt 64976 (by decide) (by omega)
  have c42 : x < (65534 : Int32) := own_lt 65534 (by decide) (by omega)
  simp only [f1_195, f1_191, f1_179, f1_167, f1_155, f1_142, f1_128, f1_114, f1_100, f1_86, f1_72, f1_58, f1_44, f1_24, f1_12, f1, f3_162, f3_158, f3_146, f3_134, f3_122, f3_108, f3_94, f3_80, f3_59, f3_31, f3_12, f3, f2, c0, c1, c2, c3, c4, c5, c6, c7, c8, c9, c10, c11, c12, c13, c14, c15, c16, c17, c18, c19, c20, c22, c23, c24, c25, c26, c27, c28, c29, c30, c31, c32, c33, c34, c35, c36, c37, c38, c39, c40, c41, c42, if_true, if_false, ite_true, ite_false, reduceIte]
  try first | rfl | decide
theorem own_eq_22 (x : Int32) (h : (12272 ≤ x.toInt ∧ x.toInt ≤ 12288)) : f1 x = f2 x := by
  have c0 : ¬ (x < (97 : Int32)) := own_nlt 97 (by decide) (by omega)
  have c1 : (122 : Int32) < x := own_gt 122 (by decide) (by omega)
  have c2 : ¬ (x < (65 : Int32)) := own_nlt 65 (by decide) (by omega)
  have c3 : (90 : Int32) < x := own_gt 90 (by decide) (by omega)
  have c4 : ¬ (x = (95 : Int32)) := own_nek 95 (by decide) (by omega)
  have c5 : ¬ (x < (192 : Int32)) := own_nlt 192 (by decide) (by omega)
  have c6 : (214 : Int32) < x := own_gt 214 (by decide) (by omega)
  have c7 : ¬ (x < (216 : Int32)) := own_nlt 216 (by decide) (by omega)
  have c8 : (246 : Int32) < x := own_gt 246 (by decide) (by omega)
  have c9 : ¬ (x < (248 : Int32)) := own_nlt 248 (by decide) (by omega)
  have c10 : (767 : Int32) < x := own_gt 767 (by decide) (by omega)
  have c11 : ¬ (x < (880 : Int32)) := own_nlt 880 (by decide) (by omega)
  have c12 : (893 : Int32) < x := own_gt 893 (by decide) (by omega)
  have c13 : ¬ (x < (895 : Int32)) := own_nlt 895 (by decide) (by omega)
  have c14 : (8191 : Int32) < x := own_gt 8191 (by decide) (by omega)
  have c15 : ¬ (x < (8204 : Int32)) := own_nlt 8204 (by decide) (by omega)
  have c16 : (8205 : Int32) < x := own_gt 8205 (by decide) (by omega)
  have c17 : ¬ (x < (8304 : Int32)) := own_nlt 8304 (by decide) (by omega)
  have c18 : (8591 : Int32) < x := own_gt 8591 (by decide) (by omega)
  have c19 : ¬ (x < (11264 : Int32)) := own_nlt 11264 (by decide) (by omega)
  have c20 : (12271 : Int32) < x := own_gt 12271 (by decide) (by omega)
  have c21 : x < (12289 : Int32) := own_lt 12289 (by decide) (by omega)
  have c22 : x < (63744 : Int32) := own_lt 63744 (by decide) (by omega)
  have c23 : x < (65008 : Int32) := own_lt 65008 (by decide) (by omega)
  have c24 : x < (65536 : Int32) := own_lt 65536 (by decide) (by omega)
  have c26 : ¬ ((983039 : Int32) < x) := own_ngt 983039 (by decide) (by omega)
  have c27 : ¬ (x < (91 : Int32)) := own_nlt 91 (by decide) (by omega)
  have c28 : (94 : Int32) < x := own_gt 94 (by decide) (by omega)
  have c29 : ¬ (x = (96 : Int32)) := own_nek 96 (by decide) (by omega)
  have c30 : ¬ (x < (123 : Int32)) := own_nlt 123 (by decide) (by omega)
  have c31 : (191 : Int32) < x := own_gt 191 (by decide) (by omega)
  have c32 : ¬ (x = (215 : Int32)) := own_nek 215 (by decide) (by omega)
  have c33 : ¬ (x = (247 : Int32)) := own_nek 247 (by decide) (by omega)
  have c34 : ¬ (x < (768 : Int32)) := own_nlt 768 (by decide) (by omega)
  have c35 : (879 : Int32) < x := own_gt 879 (by decide) (by omega)
  have c36 : ¬ (x = (894 : Int32)) := own_nek 894 (by decide) (by omega)
  have c37 : ¬ (x < (8192 : Int32)) := own_nlt 8192 (by decide) (by omega)
  have c38 : (8203 : Int32) < x := own_gt 8203 (by decide) (by omega)
  have c39 : ¬ (x < (8206 : Int32)) := own_nlt 8206 (by decide) (by omega)
  have c40 : (8303 : Int32) < x := own_gt 8303 (by decide) (by omega)
  have c41 : ¬ (x < (8592 : Int32)) := own_nlt 8592 (by decide) (by omega)
  have c42 : (11263 : Int32) < x := own_gt 11263 (by decide) (by omega)
  have c43 : ¬ (x < (12272 : Int32)) := own_nlt 12272 (by decide) (by omega)
  have c44 : ¬ ((12288 : Int32) < x) := own_ngt 12288 (by decide) (by omega)
  simp only [f1_195, f1_191, f1_179, f1_167, f1_155, f1_142, f1_128, f1_114, f1_100, f1_86, f1_72, f1_58, f1_44, f1_24, f1_12, f1, f3_162, f3_158, f3_146, f3_134, f3_122, f3_108, f3_94, f3_80, f3_59, f3_31, f3_12, f3, f2, c0, c1, c2, c3, c4, c5, c6, c7, c8, c9, c10, c11, c12, c13, c14, c15, c16, c17, c18, c19, c20, c21, c22, c23, c24, c26, c27, c28, c29, c30, c31, c32, c33, c34, c35, c36, c37, c38, c39, c40, c41, c42, c43, c44, if_true, if_false, ite_true, ite_false, reduceIte]
  try first | rfl | decide
theorem own_eq_23 (x : Int32) (h : (12289 ≤ x.toInt ∧ x.toInt ≤ 55295)) : f1 x = f2 x := by
  have c0 : ¬ (x < (97 : Int32)) := own_nlt 97 (by decide) (by omega)
  have c1 : (122 : Int32) < x := own_gt 122 (by decide) (by omega)
  have c2 : ¬ (x < (65 : Int32)) := own_nlt 65 (by decide) (by omega)
  have c3 : (90 : Int32) < x := own_gt 90 (by decide) (by omega)
  have c4 : ¬ (x = (95 : Int32)) := own_nek 95 (by decide) (by omega)
  have c5 : ¬ (x < (192 : Int32)) := own_nlt 192 (by decide) (by omega)
  have c6 : (214 : Int32) < x := own_gt 214 (by decide) (by omega)
  have c7 : ¬ (x < (216 : Int32)) := own_nlt 216 (by decide) (by omega)
  have c8 : (246 : Int32) < x := own_gt 246 (by decide) (by omega)
  have c9 : ¬ (x < (248 : Int32)) := own_nlt 248 (by decide) (by omega)
  have c10 : (767 : Int32) < x := own_gt 767 (by decide) (by omega)
  have c11 : ¬ (x < (880 : Int32)) := own_nlt 880 (by decide) (by omega)
  have c12 : (893 : Int32) < x := own_gt 893 (by decide) (by omega)
  have c13 : ¬ (x < (895 : Int32)) := own_nlt 895 (by decide) (by omega)
  have c14 : (8191 : Int32) < x := own_gt 8191 (by decide) (by omega)
  have c15 : ¬ (x < (8204 : Int32)) := own_nlt 8204 (by decide) (by omega)
  have c16 : (8205 : Int32) < x := own_gt 8205 (by decide) (by omega)
  have c17 : ¬ (x < (8304 : Int32)) := own_nlt 8304 (by decide) (by omega)
  have c18 : (8591 : Int32) < x := own_gt 8591 (by decide) (by omega)
  have c19 : ¬ (x < (11264 : Int32)) := own_nlt 11264 (by decide) (by omega)
  have c20 : (12271 : Int32) < x := own_gt 12271 (by decide) (by omega)
  have c21 : ¬ (x < (12289 : Int32)) := own_nlt 12289 (by decide) (by omega)
  have c22 : ¬ ((55295 : Int32) < x) := own_ngt 55295 (by decide) (by omega)
  have c24 : ¬ ((983039 : Int32) < x) := own_ngt 983039 (by decide) (by omega)
  have c25 : ¬ (x < (91 : Int32)) := own_nlt 91 (by decide) (by omega)
  have c26 : (94 : Int32) < x := own_gt 94 (by decide) (by omega)
  have c27 : ¬ (x = (96 : Int32)) := own_nek 96 (by decide) (by omega)
  have c28 : ¬ (x < (123 : Int32)) := own_nlt 123 (by decide) (by omega)
  have c29 : (191 : Int32) < x := own_gt 191 (by decide) (by omega)
  have c30 : ¬ (x = (215 : Int32)) := own_nek 215 (by decide) (by omega)
  have c31 : ¬ (x = (247 : Int32)) := own_nek 247 (by decide) (by omega)
  have c32 : ¬ (x < (768 : Int32)) := own_nlt 768 (by decide) (by omega)
  have c33 : (879 : Int32) < x := own_gt 879 (by decide) (by omega)
  have c34 : ¬ (x = (894 : Int32)) := own_nek 894 (by decide) (by omega)
  have c35 : ¬ (x < (8192 : Int32)) := own_nlt 8192 (by decide) (by omega)
  have c36 : (8203 : Int32) < x := own_gt 8203 (by decide) (by omega)
  have c37 : ¬ (x < (8206 : Int32)) := own_nlt 8206 (by decide) (by omega)
  have c38 : (8303 : Int32) < x := own_gt 8303 (by decide) (by omega)
  have c39 : ¬ (x < (8592 : Int32)) := own_nlt 8592 (by decide) (by omega)
  have c40 : (11263 : Int32) < x := own_gt 11263 (by decide) (by omega)
  have c41 : ¬ (x < (12272 : Int32)) := own_nlt 12272 (by decide) (by omega)
  have c42 : (12288 : Int32) < x := own_gt 12288 (by decide) (by omega)
  have c43 : x < (55296 : Int32) := own_lt 55296 (by decide) (by omega)
  have c44 : x < (64976 : Int32) := own_lt 64976 (by decide) (by omega)
  have c45 : x < (65534 : Int32) := own_lt 65534 (by decide) (by omega)
  simp only [f1_195, f1_191, f1_179, f1_167, f1_155, f1_142, f1_128, f1_114, f1_100, f1_86, f1_72, f1_58, f1_44, f1_24, f1_12, f1, f3_162, f3_158, f3_146, f3_134, f3_122, f3_108, f3_94, f3_80, f3_59, f3_31, f3_12, f3, f2, c0, c1, c2, c3, c4, c5, c6, c7, c8, c9, c10, c11, c12, c13, c14, c15, c16, c17, c18, c19, c20, c21, c22, c24, c25, c26, c27, c28, c29, c30, c31, c32, c33, c34, c35, c36, c37, c38, c39, c40, c41, c42, c43, c44, c45, if_true, if_false, ite_true, ite_false, reduceIte]
  try first | rfl | decide
theorem own_eq_24 (x : Int32) (h : (55296 ≤ x.toInt ∧ x.toInt ≤ 63743)) : f1 x = f2 x := by
  have c0 : ¬ (x < (97 : Int32)) := own_nlt 97 (by decide) (by omega)
  have c1 : (122 : Int32) < x := own_gt 122 (by decide) (by omega)
  have c2 : ¬ (x < (65 : Int32)) := own_nlt 65 (by decide) (by omega)
  have c3 : (90 : Int32) < x := own_gt 90 (by decide) (by omega)
  have c4 : ¬ (x = (95 : Int32)) := own_nek 95 (by decide) (by omega)
  have c5 : ¬ (x < (192 : Int32)) := own_nlt 192 (by decide) (by omega)
  have c6 : (214 : Int32) < x := own_gt 214 (by decide) (by omega)
  have c7 : ¬ (x < (216 : Int32)) := own_nlt 216 (by decide) (by omega)
  have c8 : (246 : Int32) < x := own_gt 246 (by decide) (by omega)
  have c9 : ¬ (x < (248 : Int32)) := own_nlt 248 (by decide) (by omega)
  have c10 : (767 : Int32) < x := own_gt 767 (by decide) (by omega)
  have c11 : ¬ (x < (880 : Int32)) := own_nlt 880 (by decide) (by omega)
  have c12 : (893 : Int32) < x := own_gt 893 (by decide) (by omega)
  have c13 : ¬ (x < (895 : Int32)) := own_nlt 895 (by decide) (by omega)
  have c14 : (8191 : Int32) < x := own_gt 8191 (by decide) (by omega)
  have c15 : ¬ (x < (8204 : Int32)) := own_nlt 8204 (by decide) (by omega)
  have c16 : (8205 : Int32) < x := own_gt 8205 (by decide) (by omega)
  have c17 : ¬ (x < (8304 : Int32)) := own_nlt 8304 (by decide) (by omega)
  have c18 : (8591 : Int32) < x := own_gt 8591 (by decide) (by omega)
  have c19 : ¬ (x < (11264 : Int32)) := own_nlt 11264 (by decide) (by omega)
  have c20 : (12271 : Int32) < x := own_gt 12271 (by decide) (by omega)
  have c21 : ¬ (x < (12289 : Int32)) := own_nlt 12289 (by decide) (by omega)
  have c22 : (55295 : Int32) < x := own_gt 55295 (by decide) (by omega)
  have c23 : x < (63744 : Int32) := own_lt 63744 (by decide) (by omega)
  have c24 : x < (65008 : Int32) := own_lt 65008 (by decide) (by omega)
  have c25 : x < (65536 : Int32) := own_lt 65536 (by decide) (by omega)
  have c27 : ¬ ((983039 : Int32) < x) := own_ngt 983039 (by decide) (by omega)
  have c28 : ¬ (x < (91 : Int32)) := own_nlt 91 (by decide) (by omega)
  have c29 : (94 : Int32) < x := own_gt 94 (by decide) (by omega)
  have c30 : ¬ (x = (96 : Int32)) := own_nek 96 (by decide) (by omega)
  have c31 : ¬ (x < (123 : Int32)) := own_nlt 123 (by decide) (by omega)
  have c32 : (191 : Int32) < x := own_gt 191 (by decide) (by omega)
  have c33 : ¬ (x = (215 : Int32)) := own_nek 215 (by decide) (by omega)
  have c34 : ¬ (x = (247 : Int32)) := own_nek 247 (by decide) (by omega)
  have c35 : ¬ (x < (768 : Int32)) := own_nlt 768 (by decide) (by omega)
  have c36 : (879 : Int32) < x := own_gt 879 (by decide) (by omega)
  have c37 : ¬ (x = (894 : Int32)) := own_nek 894 (by decide) (by omega)
  have c38 : ¬ (x < (8192 : Int32)) := own_nlt 8192 (by decide) (by omega)
  have c39 : (8203 : Int32) < x := own_gt 8203 (by decide) (by omega)
  have c40 : ¬ (x < (8206 : Int32)) := own_nlt 8206 (by decide) (by omega)
  have c41 : (8303 : Int32) < x := own_gt 8303 (by decide) (by omega)
  have c42 : ¬ (x < (8592 : Int32)) := own_nlt 8592 (by decide) (by omega)
  have c43 : (11263 : Int32) < x := own_gt 11263 (by decide) (by omega)
  have c44 : ¬ (x < (12272 : Int32)) := own_nlt 12272 (by decide) (by omega)
  have c45 : (12288 : Int32) < x := own_gt 12288 (by decide) (by omega)
  have c46 : ¬ (x < (55296 : Int32)) := own_nlt 55296 (by decide) (by omega)
  have c47 : ¬ ((63743 : Int32) < x) := own_ngt 63743 (by decide) (by omega)
  simp only [f1_195, f1_191, f1_179, f1_167, f1_155, f1_142, f1_128, f1_114, f1_100, f1_86, f1_72, f1_58, f1_44, f1_24, f1_12, f1, f3_162, f3_158, f3_146, f3_134, f3_122, f3_108, f3_94, f3_80, f3_59, f3_31, f3_12, f3, f2, c0, c1, c2, c3, c4, c5, c6, c7, c8, c9, c10, c11, c12, c13, c14, c15, c16, c17, c18, c19, c20, c21, c22, c23, c24, c25, c27, c28, c29, c30, c31, c32, c33, c34, c35, c36, c37, c38, c39, c40, c41, c42, c43, c44, c45, c46, c47, if_true, if_false, ite_true, ite_false, reduceIte]
  try first | rfl | decide
theorem own_eq_25 (x : Int32) (h : (63744 ≤ x.toInt ∧ x.toInt ≤ 64975)) : f1 x = f2 x := by
  have c0 : ¬ (x < (97 : Int32)) := own_nlt 97 (by decide) (by omega)
  have c1 : (122 : Int32) < x := own_gt 122 (by decide) (by omega)
  have c2 : ¬ (x < (65 : Int32)) := own_nlt 65 (by decide) (by omega)
  have c3 : (90 : Int32) < x := own_gt 90 (by decide) (by omega)
  have c4 : ¬ (x = (95 : Int32)) := own_nek 95 (by decide) (by omega)
  have c5 : ¬ (x < (192 : Int32)) := own_nlt 192 (by decide) (by omega)
  have c6 : (214 : Int32) < x := own_gt 214 (by decide) (by omega)
  have c7 : ¬ (x < (216 : Int32)) := own_nlt 216 (by decide) (by omega)
  have c8 : (246 : Int32) < x := own_gt 246 (by decide) (by omega)
  have c9 : ¬ (x < (248 : Int32)) := own_nlt 248 (by decide) (by omega)
  have c10 : (767 : Int32) < x := own_gt 767 (by decide) (by omega)
  have c11 : ¬ (x < (880 : Int32)) := own_nlt 880 (by decide) (by omega)
  have c12 : (893 : Int32) < x := own_gt 893 (by decide) (by omega)
  have c13 : ¬ (x < (895 : Int32)) := own_nlt 895 (by decide) (by omega)
  have c14 : (8191 : Int32) < x := own_gt 8191 (by decide) (by omega)
  have c15 : ¬ (x < (8204 : Int32)) := own_nlt 8204 (by decide) (by omega)
  have c16 : (8205 : Int32) < x := own_gt 8205 (by decide) (by omega)
  have c17 : ¬ (x < (8304 : Int32)) := own_nlt 8304 (by decide) (by omega)
  have c18 : (8591 : Int32) < x := own_gt 8591 (by decide) (by omega)
  have c19 : ¬ (x < (11264 : Int32)) := own_nlt 11264 (by decide) (by omega)
  have c20 : (12271 : Int32) < x := own_gt 12271 (by decide) (by omega)
  have c21 : ¬ (x < (12289 : Int32)) := own_nlt 12289 (by decide) (by omega)
  have c22 : (55295 : Int32) < x := own_gt 55295 (by decide) (by omega)
  have c23 : ¬ (x < (63744 : Int32)) := own_nlt 63744 (by decide) (by omega)
  have c24 : ¬ ((64975 : Int32) < x) := own_ngt 64975 (by decide) (by omega)
  have c26 : ¬ ((983039 : Int32) < x) := own_ngt 983039 (by decide) (by omega)
  have c27 : ¬ (x < (91 : Int32)) := own_nlt 91 (by decide) (by omega)
  have c28 : (94 : Int32) < x := own_gt 94 (by decide) (by omega)
  have c29 : ¬ (x = (96 : Int32)) := own_nek 96 (by decide) (by omega)
  have c30 : ¬ (x < (123 : Int32)) := own_nlt 123 (by decide) (by omega)
  have c31 : (191 : Int32) < x := own_gt 191 (by decide) (by omega)
  have c32 : ¬ (x = (215 : Int32)) := own_nek 215 (by decide) (by omega)
  have c33 : ¬ (x = (247 : Int32)) := own_nek 247 (by decide) (by omega)
  have c34 : ¬ (x < (768 : Int32)) := own_nlt 768 (by decide) (by omega)
  have c35 : (879 : Int32) < x := own_gt 879 (by decide) (by omega)
  have c36 : ¬ (x = (894 : Int32)) := own_nek 894 (by decide) (by omega)
  have c37 : ¬ (x < (8192 : Int32)) := own_nlt 8192 (by decide) (by omega)
  have c38 : (8203 : Int32) < x := own_gt 8203 (by decide) (by omega)
  have c39 : ¬ (x < (8206 : Int32)) := own_nlt 8206 (by decide) (by omega)
  have c40 : (8303 : Int32) < x := own_gt 8303 (by decide) (by omega)
  have c41 : ¬ (x < (8592 : Int32)) := own_nlt 8592 (by decide) (by omega)
  have c42 : (11263 : Int32) < x := own_gt 11263 (by decide) (by omega)
  have c43 : ¬ (x < (12272 : Int32)) := own_nlt 12272 (by decide) (by omega)
  have c44 : (12288 : Int32) < x := own_gt 12288 (by decide) (by omega)
  have c45 : ¬ (x < (55296 : Int32)) := own_nlt 55296 (by decide) (by omega)
  have c46 : (63743 : Int32) < x := own_gt 63743 (by decide) (by omega)
  have c47 : x < (64976 : Int32) := own_lt 64976 (by decide) (by omega)
  have c48 : x < (65534 : Int32) := own_lt 65534 (by decide) (by omega)
  simp only [f1_195, f1_191, f1_179, f1_167, f1_155, f1_142, f1_128, f1_114, f1_100, f1_86, f1_72, f1_58, f1_44, f1_24, f1_12, f1, f3_162, f3_158, f3_146, f3_134, f3_122, f3_108, f3_94, f3_80, f3_59, f3_31, f3_12, f3, f2, c0, c1, c2, c3, c4, c5, c6, c7, c8, c9, c10, c11, c12, c13, c14, c15, c16, c17, c18, c19, c20, c21, c22, c23, c24, c26, c27, c28, c29, c30, c31, c32, c33, c34, c35, c36, c37, c38, c39, c40, c41, c42, c43, c44, c45, c46, c47, c48, if_true, if_false, ite_true, ite_false, reduceIte]
  try first | rfl | decide
theorem own_eq_26 (x : Int32) (h : (64976 ≤ x.toInt ∧ x.toInt ≤ 65007)) : f1 x = f2 x := by
  have c0 : ¬ (x < (97 : Int32)) := own_nlt 97 (by decide) (by omega)
  have c1 : (122 : Int32) < x := own_gt 122 (by decide) (by omega)
  have c2 : ¬ (x < (65 : Int32)) := own_nlt 65 (by decide) (by omega)
  have c3 : (90 : Int32) < x := own_gt 90 (by decide) (by omega)
  have c4 : ¬ (x = (95 : Int32)) := own_nek 95 (by decide) (by omega)
  have c5 : ¬ (x < (192 : Int32)) := own_nlt 192 (by decide) (by omega)
  have c6 : (214 : Int32) < x := own_gt 214 (by decide) (by omega)
  have c7 : ¬ (x < (216 : Int32)) := own_nlt 216 (by decide) (by omega)
  have c8 : (246 : Int32) < x := own_gt 246 (by decide) (by omega)
  have c9 : ¬ (x < (248 : Int32)) := own_nlt 248 (by decide) (by omega)
  have c10 : (767 : Int32) < x := own_gt 767 (by decide) (by omega)
  have c11 : ¬ (x < (880 : Int32)) := own_nlt 880 (by decide) (by omega)
  have c12 : (893 : Int32) < x := own_gt 893 (by decide) (by omega)
  have c13 : ¬ (x < (895 : Int32)) := own_nlt 895 (by decide) (by omega)
  have c14 : (8191 : Int32) < x := own_gt 8191 (by decide) (by omega)
  have c15 : ¬ (x < (8204 : Int32)) := own_nlt 8204 (by decide) (by omega)
  have c16 : (8205 : Int32) < x := own_gt 8205 (by decide) (by omega)
  have c17 : ¬ (x < (8304 : Int32)) := own_nlt 8304 (by decide) (by omega)
  have c18 : (8591 : Int32) < x := own_gt 8591 (by decide) (by omega)
  have c19 : ¬ (x < (11264 : Int32)) := own_nlt 11264 (by decide) (by omega)
  have c20 : (12271 : Int32) < x := own_gt 12271 (by decide) (by omega)
  have c21 : ¬ (x < (12289 : Int32)) := own_nlt 12289 (by decide) (by omega)
  have c22 : (55295 : Int32) < x := own_gt 55295 (by decide) (by omega)
  have c23 : ¬ (x < (63744 : Int32)) := own_nlt 63744 (by decide) (by omega)
  have c24 : (64975 : Int32) < x := own_gt 64975 (by decide) (by omega)
  have c25 : x < (65008 : Int32) := own_lt 65008 (by decide) (by omega)
  have c26 : x < (65536 : Int32) := own_lt 65536 (by decide) (by omega)
  have c28 : ¬ ((983039 : Int32) < x) := own_ngt 983039 (by decide) (by omega)
  have c29 : ¬ (x < (91 : Int32)) := own_nlt 91 (by decide) (by omega)
  have c30 : (94 : Int32) < x := own_gt 94 (by decide) (by omega)
  have c31 : ¬ (x = (96 : Int32)) := own_nek 96 (by decide) (by omega)
  have c32 : ¬ (x < (123 : Int32)) := own_nlt 123 (by decide) (by omega)
  have c33 : (191 : Int32) < x := own_gt 191 (by decide) (by omega)
  have c34 : ¬ (x = (215 : Int32)) := own_nek 215 (by decide) (by omega)
  have c35 : ¬ (x = (247 : Int32)) := own_nek 247 (by decide) (by omega)
  have c36 : ¬ (x < (768 : Int32)) := own_nlt 768 (by decide) (by omega)
  have c37 : (879 : Int32) < x := own_gt 879 (by decide) (by omega)
  have c38 : ¬ (x = (894 : Int32)) := own_nek 894 (by decide) (by omega)
  have c39 : ¬ (x < (8192 : Int32)) := own_nlt 8192 (by decide) (by omega)
  have c40 : (8203 : Int32) < x := own_gt 8203 (by decide) (by omega)
  have c41 : ¬ (x < (8206 : Int32)) := own_nlt 8206 (by decide) (by omega)
  have c42 : (8303 : Int32) < x := own_gt 8303 (by decide) (by omega)
  have c43 : ¬ (x < (8592 : Int32)) := own_nlt 8592 (by decide) (by omega)
  have c44 : (11263 : Int32) < x := own_gt 11263 (by decide) (by omega)
  have c45 : ¬ (x < (12272 : Int32)) := own_nlt 12272 (by decide) (by omega)
  have c46 : (12288 : Int32) < x := own_gt 12288 (by decide) (by omega)
  have c47 : ¬ (x < (55296 : Int32)) := own_nlt 55296 (by decide) (by omega)
  have c48 : (63743 : Int32) < x := own_gt 63743 (by decide) (by omega)
  have c49 : ¬ (x < (64976 : Int32)) := own_nlt 64976 (by decide) (by omega)
  have c50 : ¬ ((65007 : Int32) < x) := own_ngt 65007 (by decide) (by omega)
  simp only [f1_195, f1_191, f1_179, f1_167, f1_155, f1_142, f1_128, f1_114, f1_100, f1_86, f1_72, f1_58, f1_44, f1_24, f1_12, f1, f3_162, f3_158, f3_146, f3_134, f3_122, f3_108, f3_94, f3_80, f3_59, f3_31, f3_12, f3, f2, c0, c1, c2, c3, c4, c5, c6, c7, c8, c9, c10, c11, c12, c13, c14, c15, c16, c17, c18, c19, c20, c21, c22, c23, c24, c25, c26, c28, c29, c30, c31, c32, c33, c34, c35, c36, c37, c38, c39, c40, c41, c42, c43, c44, c45, c46, c47, c48, c49, c50, if_true, if_false, ite_true, ite_false, reduceIte]
  try first | rfl | decide
theorem own_eq_27 (x : Int32) (h : (65008 ≤ x.toInt ∧ x.toInt ≤ 65533)) : f1 x = f2 x := by
  have c0 : ¬ (x < (97 : Int32)) := own_nlt 97 (by decide) (by omega)
  have c1 : (122 : Int32) < x := own_gt 122 (by decide) (by omega)
  have c2 : ¬ (x < (65 : Int32)) := own_nlt 65 (by decide) (by omega)
  have c3 : (90 : Int32) < x := own_gt 90 (by decide) (by omega)
  have c4 : ¬ (x = (95 : Int32)) := own_nek 95 (by decide) (by omega)
  have c5 : ¬ (x < (192 : Int32)) := own_nlt 192 (by decide) (by omega)
  have c6 : (214 : Int32) < x := own_gt 214 (by decide) (by omega)
  have c7 : ¬ (x < (216 : Int32)) := own_nlt 216 (by decide) (by omega)
  have c8 : (246 : Int32) < x := own_gt 246 (by decide) (by omega)
  have c9 : ¬ (x < (248 : Int32)) := own_nlt 248 (by decide) (by omega)
  have c10 : (767 : Int32) < x := own_gt 767 (by decide) (by omega)
  have c11 : ¬ (x < (880 : Int32)) := own_nlt 880 (by decide) (by omega)
  have c12 : (893 : Int32) < x := own_gt 893 (by decide) (by omega)
  have c13 : ¬ (x < (895 : Int32)) := own_nlt 895 (by decide) (by omega)
  have c14 : (8191 : Int32) < x := own_gt 8191 (by decide) (by omega)
  have c15 : ¬ (x < (8204 : Int32)) := own_nlt 8204 (by decide) (by omega)
  have c16 : (8205 : Int32) < x := own_gt 8205 (by decide) (by omega)
  have c17 : ¬ (x < (8304 : Int32)) := own_nlt 8304 (by decide) (by omega)
  have c18 : (8591 : Int32) < x := own_gt 8591 (by decide) (by omega)
  have c19 : ¬ (x < (11264 : Int32)) := own_nlt 11264 (by decide) (by omega)
  have c20 : (12271 : Int32) < x := own_gt 12271 (by decide) (by omega)
  have c21 : ¬ (x < (12289 : Int32)) := own_nlt 12289 (by decide) (by omega)
  have c22 : (55295 : Int32) < x := own_gt 55295 (by decide) (by omega)
  have c23 : ¬ (x < (63744 : Int32)) := own_nlt 63744 (by decide) (by omega)
  have c24 : (64975 : Int32) < x := own_gt 64975 (by decide) (by omega)
  have c25 : ¬ (x < (65008 : Int32)) := own_nlt 65008 (by decide) (by omega)
  have c26 : ¬ ((65533 : Int32) < x) := own_ngt 65533 (by decide) (by omega)
  have c28 : ¬ ((983039 : Int32) < x) := own_ngt 983039 (by decide) (by omega)
  have c29 : ¬ (x < (91 : Int32)) := own_nlt 91 (by decide) (by omega)
  have c30 : (94 : Int32) < x := own_gt 94 (by decide) (by omega)
  have c31 : ¬ (x = (96 : Int32)) := own_nek 96 (by decide) (by omega)
  have c32 : ¬ (x < (123 : Int32)) := own_nlt 123 (by decide) (by omega)
  have c33 : (191 : Int32) < x := own_gt 191 (by decide) (by omega)
  have c34 : ¬ (x = (215 : Int32)) := own_nek 215 (by decide) (by omega)
  have c35 : ¬ (x = (247 : Int32)) := own_nek 247 (by decide) (by omega)
  have c36 : ¬ (x < (768 : Int32)) := own_nlt 768 (by decide) (by omega)
  have c37 : (879 : Int32) < x := own_gt 879 (by decide) (by omega)
  have c38 : ¬ (x = (894 : Int32)) := own_nek 894 (by decide) (by omega)
  have c39 : ¬ (x < (8192 : Int32)) := own_nlt 8192 (by decide) (by omega)
  have c40 : (8203 : Int32) < x := own_gt 8203 (by decide) (by omega)
  have c41 : ¬ (x < (8206 : Int32)) := own_nlt 8206 (by decide) (by omega)
  have c42 : (8303 : Int32) < x := own_gt 8303 (by decide) (by omega)
  have c43 : ¬ (x < (8592 : Int32)) := own_nlt 8592 (by decide) (by omega)
  have c44 : (11263 : Int32) < x := own_gt 11263 (by decide) (by omega)
  have c45 : ¬ (x < (12272 : Int32)) := own_nlt 12272 (by decide) (by omega)
  have c46 : (12288 : Int32) < x := own_gt 12288 (by decide) (by omega)
  have c47 : ¬ (x < (55296 : Int32)) := own_nlt 55296 (by decide) (by omega)
  have c48 : (63743 : Int32) < x := own_gt 63743 (by decide) (by omega)
  have c49 : ¬ (x < (64976 : Int32)) := own_nlt 64976 (by decide) (by omega)
  have c50 : (65007 : Int32) < x := own_gt 65007 (by decide) (by omega)
  have c51 : x < (65534 : Int32) := own_lt 65534 (by decide) (by omega)
  simp only [f1_195, f1_191, f1_179, f1_167, f1_155, f1_142, f1_128, f1_114, f1_100, f1_86, f1_72, f1_58, f1_44, f1_24, f1_12, f1, f3_162, f3_158, f3_146, f3_134, f3_122, f3_108, f3_94, f3_80, f3_59, f3_31, f3_12, f3, f2, c0, c1, c2, c3, c4, c5, c6, c7, c8, c9, c10, c11, c12, c13, c14, c15, c16, c17, c18, c19, c20, c21, c22, c23, c24, c25, c26, c28, c29, c30, c31, c32, c33, c34, c35, c36, c37, c38, c39, c40, c41, c42, c43, c44, c45, c46, c47, c48, c49, c50, c51, if_true, if_false, ite_true, ite_false, reduceIte]
  try first | rfl | decide
theorem own_eq_28 (x : Int32) (h : (65534 ≤ x.toInt ∧ x.toInt ≤ 65535)) : f1 x = f2 x := by
  have c0 : ¬ (x < (97 : Int32)) := own_nlt 97 (by decide) (by omega)
  have c1 : (122 : Int32) < x := own_gt 122 (by decide) (by omega)
  have c2 : ¬ (x < (65 : Int32)) := own_nlt 65 (by decide) (by omega)
  have c3 : (90 : Int32) < x := own_gt 90 (by decide) (by omega)
  have c4 : ¬ (x = (95 : Int32)) := own_nek 95 (by decide) (by omega)
  have c5 : ¬ (x < (192 : Int32)) := own_nlt 192 (by decide) (by omega)
  have c6 : (214 : Int32) < x := own_gt 214 (by decide) (by omega)
  have c7 : ¬ (x < (216 : Int32)) := own_nlt 216 (by decide) (by omega)
  have c8 : (246 : Int32) < x := own_gt 246 (by decide) (by omega)
  have c9 : ¬ (x < (248 : Int32)) := own_nlt 248 (by decide) (by omega)
  have c10 : (767 : Int32) < x := own_gt 767 (by decide) (by omega)
  have c11 : ¬ (x < (880 : Int32)) := own_nlt 880 (by decide) (by omega)
  have c12 : (893 : Int32) < x := own_gt 893 (by decide) (by omega)
  have c13 : ¬ (x < (895 : Int32)) := own_nlt 895 (by decide) (by omega)
  have c14 : (8191 : Int32) < x := own_gt 8191 (by decide) (by omega)
  have c15 : ¬ (x < (8204 : Int32)) := own_nlt 8204 (by decide) (by omega)
  have c16 : (8205 : Int32) < x := own_gt 8205 (by decide) (by omega)
  have c17 : ¬ (x < (8304 : Int32)) := own_nlt 8304 (by decide) (by omega)
  have c18 : (8591 : Int32) < x := own_gt 8591 (by decide) (by omega)
  have c19 : ¬ (x < (11264 : Int32)) := own_nlt 11264 (by decide) (by omega)
  have c20 : (12271 : Int32) < x := own_gt 12271 (by decide) (by omega)
  have c21 : ¬ (x < (12289 : Int32)) := own_nlt 12289 (by decide) (by omega)
  have c22 : (55295 : Int32) < x := own_gt 55295 (by decide) (by omega)
  have c23 : ¬ (x < (63744 : Int32)) := own_nlt 63744 (by decide) (by omega)
  have c24 : (64975 : Int32) < x := own_gt 64975 (by decide) (by omega)
  have c25 : ¬ (x < (65008 : Int32)) := own_nlt 65008 (by decide) (by omega)
  have c26 : (65533 : Int32) < x := own_gt 65533 (by decide) (by omega)
  have c27 : x < (65536 : Int32) := own_lt 65536 (by decide) (by omega)
  have c29 : ¬ ((983039 : Int32) < x) := own_ngt 983039 (by decide) (by omega)
  have c30 : ¬ (x < (91 : Int32)) := own_nlt 91 (by decide) (by omega)
  have c31 : (94 : Int32) < x := own_gt 94 (by decide) (by omega)
  have c32 : ¬ (x = (96 : Int32)) := own_nek 96 (by decide) (by omega)
  have c33 : ¬ (x < (123 : Int32)) := own_nlt 123 (by decide) (by omega)
  have c34 : (191 : Int32) < x := own_gt 191 (by decide) (by omega)
  have c35 : ¬ (x = (215 : Int32)) := own_nek 215 (by decide) (by omega)
  have c36 : ¬ (x = (247 : Int32)) := own_nek 247 (by decide) (by omega)
  have c37 : ¬ (x < (768 : Int32)) := own_nlt 768 (by decide) (by omega)
  have c38 : (879 : Int32) < x := own_gt 879 (by decide) (by omega)
  have c39 : ¬ (x = (894 : Int32)) := own_nek 894 (by decide) (by omega)
  have c40 : ¬ (x < (8192 : Int32)) := own_nlt 8192 (by decide) (by omega)
  have c41 : (8203 : Int32) < x := own_gt 8203 (by decide) (by omega)
  have c42 : ¬ (x < (8206 : Int32)) := own_nlt 8206 (by decide) (by omega)
  have c43 : (8303 : Int32) < x := own_gt 8303 (by decide) (by omega)
  have c44 : ¬ (x < (8592 : Int32)) := own_nlt 8592 (by decide) (by omega)
  have c45 : (11263 : Int32) < x := own_gt 11263 (by decide) (by omega)
  have c46 : ¬ (x < (12272 : Int32)) := own_nlt 12272 (by decide) (by omega)
  have c47 : (12288 : Int32) < x := own_gt 12288 (by decide) (by omega)
  have c48 : ¬ (x < (55296 : Int32)) := own_nlt 55296 (by decide) (by omega)
  have c49 : (63743 : Int32) < x := own_gt 63743 (by decide) (by omega)
  have c50 : ¬ (x < (64976 : Int32)) := own_nlt 64976 (by decide) (by omega)
  have c51 : (65007 : Int32) < x := own_gt 65007 (by decide) (by omega)
  have c52 : ¬ (x < (65534 : Int32)) := own_nlt 65534 (by decide) (by omega)
  have c53 : ¬ ((65535 : Int32) < x) := own_ngt 65535 (by decide) (by omega)
  simp only [f1_195, f1_191, f1_179, f1_167, f1_155, f1_142, f1_128, f1_114, f1_100, f1_86, f1_72, f1_58, f1_44, f1_24, f1_12, f1, f3_162, f3_158, f3_146, f3_134, f3_122, f3_108, f3_94, f3_80, f3_59, f3_31, f3_12, f3, f2, c0, c1, c2, c3, c4, c5, c6, c7, c8, c9, c10, c11, c12, c13, c14, c15, c16, c17, c18, c19, c20, c21, c22, c23, c24, c25, c26, c27, c29, c30, c31, c32, c33, c34, c35, c36, c37, c38, c39, c40, c41, c42, c43, c44, c45, c46, c47, c48, c49, c50, c51, c52, c53, if_true, if_false, ite_true, ite_false, reduceIte]
  try first | rfl | decide
theorem own_eq_29 (x : Int32) (h : (65536 ≤ x.toInt ∧ x.toInt ≤ 983039)) : f1 x = f2 x := by
  have c0 : ¬ (x < (97 : Int32)) := own_nlt 97 (by decide) (by omega)
  have c1 : (122 : Int32) < x := own_gt 122 (by decide) (by omega)
  have c2 : ¬ (x < (65 : Int32)) := own_nlt 65 (by decide) (by omega)
  have c3 : (90 : Int32) < x := own_gt 90 (by decide) (by omega)
  have c4 : ¬ (x = (95 : Int32)) := own_nek 95 (by decide) (by omega)
  have c5 : ¬ (x < (192 : Int32)) := own_nlt 192 (by decide) (by omega)
  have c6 : (214 : Int32) < x := own_gt 214 (by decide) (by omega)
  have c7 : ¬ (x < (216 : Int32)) := own_nlt 216 (by decide) (by omega)
  have c8 : (246 : Int32) < x := own_gt 246 (by decide) (by omega)
  have c9 : ¬ (x < (248 : Int32)) := own_nlt 248 (by decide) (by omega)
  have c10 : (767 : Int32) < x := own_gt 767 (by decide) (by omega)
  have c11 : ¬ (x < (880 : Int32)) := own_nlt 880 (by decide) (by omega)
  have c12 : (893 : Int32) < x := own_gt 893 (by decide) (by omega)
  have c13 : ¬ (x < (895 : Int32)) := own_nlt 895 (by decide) (by omega)
  have c14 : (8191 : Int32) < x := own_gt 8191 (by decide) (by omega)
  have c15 : ¬ (x < (8204 : Int32)) := own_nlt 8204 (by decide) (by omega)
  have c16 : (8205 : Int32) < x := own_gt 8205 (by decide) (by omega)
  have c17 : ¬ (x < (8304 : Int32)) := own_nlt 8304 (by decide) (by omega)
  have c18 : (8591 : Int32) < x := own_gt 8591 (by decide) (by omega)
  have c19 : ¬ (x < (11264 : Int32)) := own_nlt 11264 (by decide) (by omega)
  have c20 : (12271 : Int32) < x := own_gt 12271 (by decide) (by omega)
  have c21 : ¬ (x < (12289 : Int32)) := own_nlt 12289 (by decide) (by omega)
  have c22 : (55295 : Int32) < x := own_gt 55295 (by decide) (by omega)
  have c23 : ¬ (x < (63744 : Int32)) := own_nlt 63744 (by decide) (by omega)
  have c24 : (64975 : Int32) < x := own_gt 64975 (by decide) (by omega)
  have c25 : ¬ (x < (65008 : Int32)) := own_nlt 65008 (by decide) (by omega)
  have c26 : (65533 : Int32) < x := own_gt 65533 (by decide) (by omega)
  have c27 : ¬ (x < (65536 : Int32)) := own_nlt 65536 (by decide) (by omega)
  have c28 : ¬ ((983039 : Int32) < x) := own_ngt 983039 (by decide) (by omega)
  have c31 : ¬ (x < (91 : Int32)) := own_nlt 91 (by decide) (by omega)
  have c32 : (94 : Int32) < x := own_gt 94 (by decide) (by omega)
  have c33 : ¬ (x = (96 : Int32)) := own_nek 96 (by decide) (by omega)
  have c34 : ¬ (x < (123 : Int32)) := own_nlt 123 (by decide) (by omega)
  have c35 : (191 : Int32) < x := own_gt 191 (by decide) (by omega)
  have c36 : ¬ (x = (215 : Int32)) := own_nek 215 (by decide) (by omega)
  have c37 : ¬ (x = (247 : Int32)) := own_nek 247 (by decide) (by omega)
  have c38 : ¬ (x < (768 : Int32)) := own_nlt 768 (by decide) (by omega)
  have c39 : (879 : Int32) < x := own_gt 879 (by decide) (by omega)
  have c40 : ¬ (x = (894 : Int32)) := own_nek 894 (by decide) (by omega)
  have c41 : ¬ (x < (8192 : Int32)) := own_nlt 8192 (by decide) (by omega)
  have c42 : (8203 : Int32) < x := own_gt 8203 (by decide) (by omega)
  have c43 : ¬ (x < (8206 : Int32)) := own_nlt 8206 (by decide) (by omega)
  have c44 : (8303 : Int32) < x := own_gt 8303 (by decide) (by omega)
  have c45 : ¬ (x < (8592 : Int32)) := own_nlt 8592 (by decide) (by omega)
  have c46 : (11263 : Int32) < x := own_gt 11263 (by decide) (by omega)
  have c47 : ¬ (x < (12272 : Int32)) := own_nlt 12272 (by decide) (by omega)
  have c48 : (12288 : Int32) < x := own_gt 12288 (by decide) (by omega)
  have c49 : ¬ (x < (55296 : Int32)) := own_nlt 55296 (by decide) (by omega)
  have c50 : (63743 : Int32) < x := own_gt 63743 (by decide) (by omega)
  have c51 : ¬ (x < (64976 : Int32)) := own_nlt 64976 (by decide) (by omega)
  have c52 : (65007 : Int32) < x := own_gt 65007 (by decide) (by omega)
  have c53 : ¬ (x < (65534 : Int32)) := own_nlt 65534 (by decide) (by omega)
  have c54 : (65535 : Int32) < x := own_gt 65535 (by decide) (by omega)
  simp only [f1_195, f1_191, f1_179, f1_167, f1_155, f1_142, f1_128, f1_114, f1_100, f1_86, f1_72, f1_58, f1_44, f1_24, f1_12, f1, f3_162, f3_158, f3_146, f3_134, f3_122, f3_108, f3_94, f3_80, f3_59, f3_31, f3_12, f3, f2, c0, c1, c2, c3, c4, c5, c6, c7, c8, c9, c10, c11, c12, c13, c14, c15, c16, c17, c18, c19, c20, c21, c22, c23, c24, c25, c26, c27, c28, c31, c32, c33, c34, c35, c36, c37, c38, c39, c40, c41, c42, c43, c44, c45, c46, c47, c48, c49, c50, c51, c52, c53, c54, if_true, if_false, ite_true, ite_false, reduceIte]
  try first | rfl | decide
theorem own_eq_30 (x : Int32) (h : 983040 ≤ x.toInt) : f1 x = f2 x := by
  have c0 : ¬ (x < (97 : Int32)) := own_nlt 97 (by decide) (by omega)
  have c1 : (122 : Int32) < x := own_gt 122 (by decide) (by omega)
  have c2 : ¬ (x < (65 : Int32)) := own_nlt 65 (by decide) (by omega)
  have c3 : (90 : Int32) < x := own_gt 90 (by decide) (by omega)
  have c4 : ¬ (x = (95 : Int32)) := own_nek 95 (by decide) (by omega)
  have c5 : ¬ (x < (192 : Int32)) := own_nlt 192 (by decide) (by omega)
  have c6 : (214 : Int32) < x := own_gt 214 (by decide) (by omega)
  have c7 : ¬ (x < (216 : Int32)) := own_nlt 216 (by decide) (by omega)
  have c8 : (246 : Int32) < x := own_gt 246 (by decide) (by omega)
  have c9 : ¬ (x < (248 : Int32)) := own_nlt 248 (by decide) (by omega)
  have c10 : (767 : Int32) < x := own_gt 767 (by decide) (by omega)
  have c11 : ¬ (x < (880 : Int32)) := own_nlt 880 (by decide) (by omega)
  have c12 : (893 : Int32) < x := own_gt 893 (by decide) (by omega)
  have c13 : ¬ (x < (895 : Int32)) := own_nlt 895 (by decide) (by omega)
  have c14 : (8191 : Int32) < x := own_gt 8191 (by decide) (by omega)
  have c15 : ¬ (x < (8204 : Int32)) := own_nlt 8204 (by decide) (by omega)
  have c16 : (8205 : Int32) < x := own_gt 8205 (by decide) (by omega)
  have c17 : ¬ (x < (8304 : Int32)) := own_nlt 8304 (by decide) (by omega)
  have c18 : (8591 : Int32) < x := own_gt 8591 (by decide) (by omega)
  have c19 : ¬ (x < (11264 : Int32)) := own_nlt 11264 (by decide) (by omega)
  have c20 : (12271 : Int32) < x := own_gt 12271 (by decide) (by omega)
  have c21 : ¬ (x < (12289 : Int32)) := own_nlt 12289 (by decide) (by omega)
  have c22 : (55295 : Int32) < x := own_gt 55295 (by decide) (by omega)
  have c23 : ¬ (x < (63744 : Int32)) := own_nlt 63744 (by decide) (by omega)
  have c24 : (64975 : Int32) < x := own_gt 64975 (by decide) (by omega)
  have c25 : ¬ (x < (65008 : Int32)) := own_nlt 65008 (by decide) (by omega)
  have c26 : (65533 : Int32) < x := own_gt 65533 (by decide) (by omega)
  have c27 : ¬ (x < (65536 : Int32)) := own_nlt 65536 (by decide) (by omega)
  have c28 : (983039 : Int32) < x := own_gt 983039 (by decide) (by omega)
  simp only [f1_195, f1_191, f1_179, f1_167, f1_155, f1_142, f1_128, f1_114, f1_100, f1_86, f1_72, f1_58, f1_44, f1_24, f1_12, f1, f3_162, f3_158, f3_146, f3_134, f3_122, f3_108, f3_94, f3_80, f3_59, f3_31, f3_12, f3, f2, c0, c1, c2, c3, c4, c5, c6, c7, c8, c9, c10, c11, c12, c13, c14, c15, c16, c17, c18, c19, c20, c21, c22, c23, c24, c25, c26, c27, c28, if_true, if_false, ite_true, ite_false, reduceIte]
  try first | rfl | decide
theorem own_eq (x : Int32) : f1 x = f2 x := by
  rcases (by omega : x.toInt ≤ 64 ∨ (65 ≤ x.toInt ∧ x.toInt ≤ 90) ∨ (91 ≤ x.toInt ∧ x.toInt ≤ 94) ∨ (95 ≤ x.toInt ∧ x.toInt ≤ 95) ∨ (96 ≤ x.toInt ∧ x.toInt ≤ 96) ∨ (97 ≤ x.toInt ∧ x.toInt ≤ 122) ∨ (123 ≤ x.toInt ∧ x.toInt ≤ 191) ∨ (192 ≤ x.toInt ∧ x.toInt ≤ 214) ∨ (215 ≤ x.toInt ∧ x.toInt ≤ 215) ∨ (216 ≤ x.toInt ∧ x.toInt ≤ 246) ∨ (247 ≤ x.toInt ∧ x.toInt ≤ 247) ∨ (248 ≤ x.toInt ∧ x.toInt ≤ 767) ∨ (768 ≤ x.toInt ∧ x.toInt ≤ 879) ∨ (880 ≤ x.toInt ∧ x.toInt ≤ 893) ∨ (894 ≤ x.toInt ∧ x.toInt ≤ 894) ∨ (895 ≤ x.toInt ∧ x.toInt ≤ 8191) ∨ (8192 ≤ x.toInt ∧ x.toInt ≤ 8203) ∨ (8204 ≤ x.toInt ∧ x.toInt ≤ 8205) ∨ (8206 ≤ x.toInt ∧ x.toInt ≤ 8303) ∨ (8304 ≤ x.toInt ∧ x.toInt ≤ 8591) ∨ (8592 ≤ x.toInt ∧ x.toInt ≤ 11263) ∨ (11264 ≤ x.toInt ∧ x.toInt ≤ 12271) ∨ (12272 ≤ x.toInt ∧ x.toInt ≤ 12288) ∨ (12289 ≤ x.toInt ∧ x.toInt ≤ 55295) ∨ (55296 ≤ x.toInt ∧ x.toInt ≤ 63743) ∨ (63744 ≤ x.toInt ∧ x.toInt ≤ 64975) ∨ (64976 ≤ x.toInt ∧ x.toInt ≤ 65007) ∨ (65008 ≤ x.toInt ∧ x.toInt ≤ 65533) ∨ (65534 ≤ x.toInt ∧ x.toInt ≤ 65535) ∨ (65536 ≤ x.toInt ∧ x.toInt ≤ 983039) ∨ 983040 ≤ x.toInt) with h | h | h | h | h | h | h | h | h | h | h | h | h | h | h | h | h | h | h | h | h | h | h | h | h | h | h | h | h | h | h
  · exact own_eq_0 x h
  · exact own_eq_1 x h
  · exact own_eq_2 x h
  · exact own_eq_3 x h
  · exact own_eq_4 x h
  · exact own_eq_5 x h
  · exact own_eq_6 x h
  · exact own_eq_7 x h
  · exact own_eq_8 x h
  · exact own_eq_9 x h
  · exact own_eq_10 x h
  · exact own_eq_11 x h
  · exact own_eq_12 x h
  · exact own_eq_13 x h
  · exact own_eq_14 x h
  · exact own_eq_15 x h
  · exact own_eq_16 x h
  · exact own_eq_17 x h
  · exact own_eq_18 x h
  · exact own_eq_19 x h
  · exact own_eq_20 x h
  · exact own_eq_21 x h
  · exact own_eq_22 x h
  · exact own_eq_23 x h
  · exact own_eq_24 x h
  · exact own_eq_25 x h
  · exact own_eq_26 x h
  · exact own_eq_27 x h
  · exact own_eq_28 x h
  · exact own_eq_29 x h
  · exact own_eq_30 x h
theorem ef_rm0 (m : MethodId) (x0 : Int32) (x1 : Int32) : entryFrame m #[(.int x0), (.int x1)] maxLocals = mkF m 0 #[.val (.int x0), .val (.int x1), .unset, .unset, .unset, .unset, .unset, .unset] [] := by first | (simp [entryFrame, mkF, argsToLocals, Value.category, maxLocals]; done) | rfl
set_option maxRecDepth 65536 in
set_option maxHeartbeats 40000000 in
theorem rm0 (l : Launch) (Z : State) (a0 : Array Value) (hw : ∀ d ∈ tables_1, d.before a0 Z = true) (ws : List Jvm.Cond) (x0 : Int32) (x1 : Int32) (h0 : Heap) (n0 : Nat) (Z0 : n0 ≤ h0.size) :
    MetFree l x (head1 (Jvm.Cond.code x code maxLocals ret :: ws) room_1) (fun a U => a = #[(.int x0), (.int x1)] ∧ Z.Warmed39 U.vm ∧ U.heap = h0) (fun _ _ _ _ _ => True) (fun _ U o U' => ∃ v L, o = .returned v ∧ (QL n0) v U'.heap L ∧ FrameEnd U o U' L room_1.cells room_1.slots) := by
  refine MetFree.of_bodySF (plainFor_of_name pn_1) hisR ?_
  intro p e s m args below meth c s₁ Bd hml0 hP hK
  obtain ⟨rfl, hZ, hh⟩ := hP
  have hx := Bd.exec
  have hby := Bd.bytes
  have hml : c.maxLocals = 8 := hml0
  have hown : s.vm.findClass "com/example/hardy_stream/hardystream/xml/XmlCharsIsNameStartCharPinLaw" = some m.cls := findClass_of_methodNamed Bd.named
  have hnm := (name_of_methodNamed Bd.named Bd.method).1
  have X0 : Stand p l e room_1 s m #[(.int x0), (.int x1)] below meth c s₁ [] 0 0 := Stand.of_body Bd
  have e0 : s₁.heap = h0 := by rw [← hh, Bd.state]; rfl
  have N0 := Fr.nil n0
  show Ends p e below s (QL n0) room_1.cells room_1.slots (s₁.setTop (entryFrame m #[(.int x0), (.int x1)] maxLocals))
  rw [ef_rm0 m x0 x1]
  show Ends p e below s _ _ _ (s₁.setTop (mkF m 0 #[.val (.int x0), .val (.int x1), .unset, .unset, .unset, .unset, .unset, .unset] []))
  refine Ends.by ?_ (fun _ k => XS.iloadN X0.here hx rfl (hb hby at_0) rfl k)
  show Ends p e below s _ _ _ (s₁.setTop (mkF m 1 #[.val (.int x0), .val (.int x1), .unset, .unset, .unset, .unset, .unset, .unset] [(.int x0)]))
  refine Ends.by ?_ (fun _ k => XS.istoreN X0.here hx rfl (hb hby at_1) rfl (l' := #[.val (.int x0), .val (.int x1), .val (.int x0), .unset, .unset, .unset, .unset, .unset]) rfl k)
  show Ends p e below s _ _ _ (s₁.setTop (mkF m 2 #[.val (.int x0), .val (.int x1), .val (.int x0), .unset, .unset, .unset, .unset, .unset] []))
  refine Ends.by ?_ (fun _ k => XS.iloadN X0.here hx rfl (hb hby at_2) rfl k)
  show Ends p e below s _ _ _ (s₁.setTop (mkF m 3 #[.val (.int x0), .val (.int x1), .val (.int x0), .unset, .unset, .unset, .unset, .unset] [(.int x1)]))
  refine Ends.by ?_ (X0.ldcInt hx hown (mvT hZ (hw _ (List.mem_of_getElem? (i := 0) rfl))) (g := (mkF m 3 #[.val (.int x0), .val (.int x1), .val (.int x0), .unset, .unset, .unset, .unset, .unset] [(.int x1)])) rfl (hb hby at_3))
  show Ends p e below s _ _ _ (s₁.setTop (mkF m 5 #[.val (.int x0), .val (.int x1), .val (.int x0), .unset, .unset, .unset, .unset, .unset] [(.int (65535 : Int32)), (.int x1)]))
  refine Ends.by ?_ (fun _ k => XS.iand X0.here hx rfl (hb hby at_5) rfl k)
  show Ends p e below s _ _ _ (s₁.setTop (mkF m 6 #[.val (.int x0), .val (.int x1), .val (.int x0), .unset, .unset, .unset, .unset, .unset] [(.int (x1 &&& (65535 : Int32)))]))
  refine Ends.by ?_ (fun _ k => XS.istoreN X0.here hx rfl (hb hby at_6) rfl (l' := #[.val (.int x0), .val (.int x1), .val (.int x0), .val (.int (x1 &&& (65535 : Int32))), .unset, .unset, .unset, .unset]) rfl k)
  show Ends p e below s _ _ _ (s₁.setTop (mkF m 7 #[.val (.int x0), .val (.int x1), .val (.int x0), .val (.int (x1 &&& (65535 : Int32))), .unset, .unset, .unset, .unset] []))
  refine Ends.by ?_ (fun _ k => XS.iloadN X0.here hx rfl (hb hby at_7) rfl k)
  show Ends p e below s _ _ _ (s₁.setTop (mkF m 8 #[.val (.int x0), .val (.int x1), .val (.int x0), .val (.int (x1 &&& (65535 : Int32))), .unset, .unset, .unset, .unset] [(.int x1)]))
  refine Ends.by ?_ (fun _ k => XS.bipush X0.here hx rfl (hb hby at_8) k)
  show Ends p e below s _ _ _ (s₁.setTop (mkF m 10 #[.val (.int x0), .val (.int x1), .val (.int x0), .val (.int (x1 &&& (65535 : Int32))), .unset, .unset, .unset, .unset] [(.int (12 : Int32)), (.int x1)]))
  refine Ends.by ?_ (fun _ k => XS.iushr X0.here hx rfl (hb hby at_10) rfl k)
  show Ends p e below s _ _ _ (s₁.setTop (mkF m 11 #[.val (.int x0), .val (.int x1), .val (.int x0), .val (.int (x1 &&& (65535 : Int32))), .unset, .unset, .unset, .unset] [(.int ((x1.toUInt32 >>> ((12 : Int32) &&& 31).toUInt32).toInt32))]))
  refine Ends.by ?_ (fun _ k => XS.istore X0.here hx rfl (hb hby at_11) rfl (l' := #[.val (.int x0), .val (.int x1), .val (.int x0), .val (.int (x1 &&& (65535 : Int32))), .val (.int ((x1.toUInt32 >>> ((12 : Int32) &&& 31).toUInt32).toInt32)), .unset, .unset, .unset]) rfl k)
  show Ends p e below s _ _ _ (s₁.setTop (mkF m 13 #[.val (.int x0), .val (.int x1), .val (.int x0), .val (.int (x1 &&& (65535 : Int32))), .val (.int ((x1.toUInt32 >>> ((12 : Int32) &&& 31).toUInt32).toInt32)), .unset, .unset, .unset] []))
  refine Ends.by ?_ (fun _ k => XS.iloadN X0.here hx rfl (hb hby at_13) rfl k)
  show Ends p e below s _ _ _ (s₁.setTop (mkF m 14 #[.val (.int x0), .val (.int x1), .val (.int x0), .val (.int (x1 &&& (65535 : Int32))), .val (.int ((x1.toUInt32 >>> ((12 : Int32) &&& 31).toUInt32).toInt32)), .unset, .unset, .unset] [(.int x0)]))
  obtain ⟨v1, _, ⟨T1, L1, k1, n1⟩, -, X1, ⟨Lc1, hQ1, l1, y1, z1⟩, st1⟩ := Jvm.LawKit.callS X0 hx (y := (⟨"com/example/hardy_stream/hardystream/xml/XmlChars", "isNameStartChar", "(I)Z"⟩ : MethodName)) hown (mvT hZ (hw _ (List.mem_of_getElem? (i := 1) rfl))) (mvT hZ (hw _ (List.mem_of_getElem? (i := 2) rfl))) (mvT hZ (hw _ (List.mem_of_getElem? (i := 3) rfl))) (mvT hZ (hw _ (List.mem_of_getElem? (i := 4) rfl))) (by decide) (backOf (W := 0) (rm1 l Z a0 hw [] x0 h0 n0 Z0) hZ (hw _ (List.mem_of_getElem? (i := 4) rfl)) (hw _ (List.mem_of_getElem? (i := 3) rfl)) (by decide) (by decide)) (g := (mkF m 14 #[.val (.int x0), .val (.int x1), .val (.int x0), .val (.int (x1 &&& (65535 : Int32))), .val (.int ((x1.toUInt32 >>> ((12 : Int32) &&& 31).toUInt32).toInt32)), .unset, .unset, .unset] [(.int x0)])) rfl (by rw [hml]; rfl) (argsL := [(.int x0)]) (rest := []) (lenOf pd_0 rfl) rfl (by show 2 * 0 + _ ≤ _; exact Nat.le_of_eq rfl) (hb hby at_14) (fun _ _ => ⟨rfl, e0, (by decide : 0 + 0 ≤ _), (by decide : 0 + 0 ≤ _)⟩)
  dsimp only [Pt.U, Pt.locs, Pt.cells, Pt.slots] at X1 l1 y1 z1 st1 hQ1
  subst l1 y1 z1
  obtain ⟨rfl, N1q, e1⟩ := hQ1
  have N1 := Fr.app N0 N1q
  refine Ends.by ?_ st1
  show Ends p e below s _ _ _ (T1.setTop (mkF m 17 #[.val (.int x0), .val (.int x1), .val (.int x0), .val (.int (x1 &&& (65535 : Int32))), .val (.int ((x1.toUInt32 >>> ((12 : Int32) &&& 31).toUInt32).toInt32)), .unset, .unset, .unset] [(.int (f1 x0))]))
  refine Ends.by ?_ (fun _ k => XS.iloadN X1.here hx rfl (hb hby at_17) rfl k)
  show Ends p e below s _ _ _ (T1.setTop (mkF m 18 #[.val (.int x0), .val (.int x1), .val (.int x0), .val (.int (x1 &&& (65535 : Int32))), .val (.int ((x1.toUInt32 >>> ((12 : Int32) &&& 31).toUInt32).toInt32)), .unset, .unset, .unset] [(.int x0), (.int (f1 x0))]))
  obtain ⟨v2, _, ⟨T2, L2, k2, n2⟩, -, X2, ⟨Lc2, hQ2, l2, y2, z2⟩, st2⟩ := Jvm.LawKit.callS X1 hx (y := (⟨"com/example/hardy_stream/hardystream/xml/XmlCharsIsNameStartCharPinLaw", "ref", "(I)Z"⟩ : MethodName)) hown (mvT hZ (hw _ (List.mem_of_getElem? (i := 8) rfl))) (mvT hZ (hw _ (List.mem_of_getElem? (i := 9) rfl))) (mvT hZ (hw _ (List.mem_of_getElem? (i := 10) rfl))) (mvT hZ (hw _ (List.mem_of_getElem? (i := 11) rfl))) (by decide) (backOf (W := 1) (rm2 l Z a0 hw [] x0 h0 n0 Z0) hZ (hw _ (List.mem_of_getElem? (i := 11) rfl)) (hw _ (List.mem_of_getElem? (i := 10) rfl)) (by decide) (by decide)) (g := (mkF m 18 #[.val (.int x0), .val (.int x1), .val (.int x0), .val (.int (x1 &&& (65535 : Int32))), .val (.int ((x1.toUInt32 >>> ((12 : Int32) &&& 31).toUInt32).toInt32)), .unset, .unset, .unset] [(.int x0), (.int (f1 x0))])) rfl (by rw [hml]; rfl) (argsL := [(.int x0)]) (rest := [(.int (f1 x0))]) (lenOf pd_0 rfl) rfl (by show 2 * 0 + _ ≤ _; exact Nat.le_of_eq rfl) (hb hby at_18) (fun _ _ => ⟨rfl, e1, (by decide : 0 + 0 ≤ _), (by decide : 0 + 0 ≤ _)⟩)
  dsimp only [Pt.U, Pt.locs, Pt.cells, Pt.slots] at X2 l2 y2 z2 st2 hQ2
  subst l2 y2 z2
  obtain ⟨rfl, N2q, e2⟩ := hQ2
  have N2 := Fr.app N1 N2q
  refine Ends.by ?_ st2
  show Ends p e below s _ _ _ (T2.setTop (mkF m 21 #[.val (.int x0), .val (.int x1), .val (.int x0), .val (.int (x1 &&& (65535 : Int32))), .val (.int ((x1.toUInt32 >>> ((12 : Int32) &&& 31).toUInt32).toInt32)), .unset, .unset, .unset] [(.int (f2 x0)), (.int (f1 x0))]))
  refine Ends.by ?_ (fun _ k => XS.icmpNo X2.here hx rfl (hb hby at_21) rfl (XT.ii_ne_f (own_eq _ : (f1 x0) = (f2 x0))) k)
  show Ends p e below s _ _ _ (T2.setTop (mkF m 24 #[.val (.int x0), .val (.int x1), .val (.int x0), .val (.int (x1 &&& (65535 : Int32))), .val (.int ((x1.toUInt32 >>> ((12 : Int32) &&& 31).toUInt32).toInt32)), .unset, .unset, .unset] []))
  refine Ends.by ?_ (fun _ k => XS.iconst X2.here hx rfl (hb hby at_24) k)
  show Ends p e below s _ _ _ (T2.setTop (mkF m 25 #[.val (.int x0), .val (.int x1), .val (.int x0), .val (.int (x1 &&& (65535 : Int32))), .val (.int ((x1.toUInt32 >>> ((12 : Int32) &&& 31).toUInt32).toInt32)), .unset, .unset, .unset] [(.int (1 : Int32))]))
  refine Ends.by ?_ (fun _ k => XS.goto X2.here hx rfl (pc0 := 25) (pc' := 29) rfl (hb hby at_25) (by decide) (by decide) k)
  show Ends p e below s _ _ _ (T2.setTop (mkF m 29 #[.val (.int x0), .val (.int x1), .val (.int x0), .val (.int (x1 &&& (65535 : Int32))), .val (.int ((x1.toUInt32 >>> ((12 : Int32) &&& 31).toUInt32).toInt32)), .unset, .unset, .unset] [(.int (1 : Int32))]))
  refine Ends.by ?_ (fun _ k => XS.istore X2.here hx rfl (hb hby at_29) rfl (l' := #[.val (.int x0), .val (.int x1), .val (.int x0), .val (.int (x1 &&& (65535 : Int32))), .val (.int ((x1.toUInt32 >>> ((12 : Int32) &&& 31).toUInt32).toInt32)), .val (.int (1 : Int32)), .unset, .unset]) rfl k)
  show Ends p e below s _ _ _ (T2.setTop (mkF m 31 #[.val (.int x0), .val (.int x1), .val (.int x0), .val (.int (x1 &&& (65535 : Int32))), .val (.int ((x1.toUInt32 >>> ((12 : Int32) &&& 31).toUInt32).toInt32)), .val (.int (1 : Int32)), .unset, .unset] []))
  refine Ends.by ?_ (fun _ k => XS.iloadN X2.here hx rfl (hb hby at_31) rfl k)
  show Ends p e below s _ _ _ (T2.setTop (mkF m 32 #[.val (.int x0), .val (.int x1), .val (.int x0), .val (.int (x1 &&& (65535 : Int32))), .val (.int ((x1.toUInt32 >>> ((12 : Int32) &&& 31).toUInt32).toInt32)), .val (.int (1 : Int32)), .unset, .unset] [(.int (x1 &&& (65535 : Int32)))]))
  obtain ⟨v3, _, ⟨T3, L3, k3, n3⟩, -, X3, ⟨Lc3, hQ3, l3, y3, z3⟩, st3⟩ := Jvm.LawKit.callS X2 hx (y := (⟨"com/example/hardy_stream/hardystream/xml/XmlChars", "isNameStartChar", "(I)Z"⟩ : MethodName)) hown (mvT hZ (hw _ (List.mem_of_getElem? (i := 1) rfl))) (mvT hZ (hw _ (List.mem_of_getElem? (i := 2) rfl))) (mvT hZ (hw _ (List.mem_of_getElem? (i := 3) rfl))) (mvT hZ (hw _ (List.mem_of_getElem? (i := 4) rfl))) (by decide) (backOf (W := 0) (rm1 l Z a0 hw [] (x1 &&& (65535 : Int32)) h0 n0 Z0) hZ (hw _ (List.mem_of_getElem? (i := 4) rfl)) (hw _ (List.mem_of_getElem? (i := 3) rfl)) (by decide) (by decide)) (g := (mkF m 32 #[.val (.int x0), .val (.int x1), .val (.int x0), .val (.int (x1 &&& (65535 : Int32))), .val (.int ((x1.toUInt32 >>> ((12 : Int32) &&& 31).toUInt32).toInt32)), .val (.int (1 : Int32)), .unset, .unset] [(.int (x1 &&& (65535 : Int32)))])) rfl (by rw [hml]; rfl) (argsL := [(.int (x1 &&& (65535 : Int32)))]) (rest := []) (lenOf pd_0 rfl) rfl (by show 2 * 0 + _ ≤ _; exact Nat.le_of_eq rfl) (hb hby at_32) (fun _ _ => ⟨rfl, e2, (by decide : 0 + 0 ≤ _), (by decide : 0 + 0 ≤ _)⟩)
  dsimp only [Pt.U, Pt.locs, Pt.cells, Pt.slots] at X3 l3 y3 z3 st3 hQ3
  subst l3 y3 z3
  obtain ⟨rfl, N3q, e3⟩ := hQ3
  have N3 := Fr.app N2 N3q
  refine Ends.by ?_ st3
  show Ends p e below s _ _ _ (T3.setTop (mkF m 35 #[.val (.int x0), .val (.int x1), .val (.int x0), .val (.int (x1 &&& (65535 : Int32))), .val (.int ((x1.toUInt32 >>> ((12 : Int32) &&& 31).toUInt32).toInt32)), .val (.int (1 : Int32)), .unset, .unset] [(.int (f1 (x1 &&& (65535 : Int32))))]))
  refine Ends.by ?_ (fun _ k => XS.iloadN X3.here hx rfl (hb hby at_35) rfl k)
  show Ends p e below s _ _ _ (T3.setTop (mkF m 36 #[.val (.int x0), .val (.int x1), .val (.int x0), .val (.int (x1 &&& (65535 : Int32))), .val (.int ((x1.toUInt32 >>> ((12 : Int32) &&& 31).toUInt32).toInt32)), .val (.int (1 : Int32)), .unset, .unset] [(.int (x1 &&& (65535 : Int32))), (.int (f1 (x1 &&& (65535 : Int32))))]))
  obtain ⟨v4, _, ⟨T4, L4, k4, n4⟩, -, X4, ⟨Lc4, hQ4, l4, y4, z4⟩, st4⟩ := Jvm.LawKit.callS X3 hx (y := (⟨"com/example/hardy_stream/hardystream/xml/XmlCharsIsNameStartCharPinLaw", "ref", "(I)Z"⟩ : MethodName)) hown (mvT hZ (hw _ (List.mem_of_getElem? (i := 8) rfl))) (mvT hZ (hw _ (List.mem_of_getElem? (i := 9) rfl))) (mvT hZ (hw _ (List.mem_of_getElem? (i := 10) rfl))) (mvT hZ (hw _ (List.mem_of_getElem? (i := 11) rfl))) (by decide) (backOf (W := 1) (rm2 l Z a0 hw [] (x1 &&& (65535 : Int32)) h0 n0 Z0) hZ (hw _ (List.mem_of_getElem? (i := 11) rfl)) (hw _ (List.mem_of_getElem? (i := 10) rfl)) (by decide) (by decide)) (g := (mkF m 36 #[.val (.int x0), .val (.int x1), .val (.int x0), .val (.int (x1 &&& (65535 : Int32))), .val (.int ((x1.toUInt32 >>> ((12 : Int32) &&& 31).toUInt32).toInt32)), .val (.int (1 : Int32)), .unset, .unset] [(.int (x1 &&& (65535 : Int32))), (.int (f1 (x1 &&& (65535 : Int32))))])) rfl (by rw [hml]; rfl) (argsL := [(.int (x1 &&& (65535 : Int32)))]) (rest := [(.int (f1 (x1 &&& (65535 : Int32))))]) (lenOf pd_0 rfl) rfl (by show 2 * 0 + _ ≤ _; exact Nat.le_of_eq rfl) (hb hby at_36) (fun _ _ => ⟨rfl, e3, (by decide : 0 + 0 ≤ _), (by decide : 0 + 0 ≤ _)⟩)
  dsimp only [Pt.U, Pt.locs, Pt.cells, Pt.slots] at X4 l4 y4 z4 st4 hQ4
  subst l4 y4 z4
  obtain ⟨rfl, N4q, e4⟩ := hQ4
  have N4 := Fr.app N3 N4q
  refine Ends.by ?_ st4
  show Ends p e below s _ _ _ (T4.setTop (mkF m 39 #[.val (.int x0), .val (.int x1), .val (.int x0), .val (.int (x1 &&& (65535 : Int32))), .val (.int ((x1.toUInt32 >>> ((12 : Int32) &&& 31).toUInt32).toInt32)), .val (.int (1 : Int32)), .unset, .unset] [(.int (f2 (x1 &&& (65535 : Int32)))), (.int (f1 (x1 &&& (65535 : Int32))))]))
  refine Ends.by ?_ (fun _ k => XS.icmpNo X4.here hx rfl (hb hby at_39) rfl (XT.ii_ne_f (own_eq _ : (f1 (x1 &&& (65535 : Int32))) = (f2 (x1 &&& (65535 : Int32))))) k)
  show Ends p e below s _ _ _ (T4.setTop (mkF m 42 #[.val (.int x0), .val (.int x1), .val (.int x0), .val (.int (x1 &&& (65535 : Int32))), .val (.int ((x1.toUInt32 >>> ((12 : Int32) &&& 31).toUInt32).toInt32)), .val (.int (1 : Int32)), .unset, .unset] []))
  refine Ends.by ?_ (fun _ k => XS.iconst X4.here hx rfl (hb hby at_42) k)
  show Ends p e below s _ _ _ (T4.setTop (mkF m 43 #[.val (.int x0), .val (.int x1), .val (.int x0), .val (.int (x1 &&& (65535 : Int32))), .val (.int ((x1.toUInt32 >>> ((12 : Int32) &&& 31).toUInt32).toInt32)), .val (.int (1 : Int32)), .unset, .unset] [(.int (1 : Int32))]))
  refine Ends.by ?_ (fun _ k => XS.goto X4.here hx rfl (pc0 := 43) (pc' := 47) rfl (hb hby at_43) (by decide) (by decide) k)
  show Ends p e below s _ _ _ (T4.setTop (mkF m 47 #[.val (.int x0), .val (.int x1), .val (.int x0), .val (.int (x1 &&& (65535 : Int32))), .val (.int ((x1.toUInt32 >>> ((12 : Int32) &&& 31).toUInt32).toInt32)), .val (.int (1 : Int32)), .unset, .unset] [(.int (1 : Int32))]))
  refine Ends.by ?_ (fun _ k => XS.istore X4.here hx rfl (hb hby at_47) rfl (l' := #[.val (.int x0), .val (.int x1), .val (.int x0), .val (.int (x1 &&& (65535 : Int32))), .val (.int ((x1.toUInt32 >>> ((12 : Int32) &&& 31).toUInt32).toInt32)), .val (.int (1 : Int32)), .val (.int (1 : Int32)), .unset]) rfl k)
  show Ends p e below s _ _ _ (T4.setTop (mkF m 49 #[.val (.int x0), .val (.int x1), .val (.int x0), .val (.int (x1 &&& (65535 : Int32))), .val (.int ((x1.toUInt32 >>> ((12 : Int32) &&& 31).toUInt32).toInt32)), .val (.int (1 : Int32)), .val (.int (1 : Int32)), .unset] []))
  refine Ends.by ?_ (fun _ k => XS.iload X4.here hx rfl (hb hby at_49) rfl k)
  show Ends p e below s _ _ _ (T4.setTop (mkF m 51 #[.val (.int x0), .val (.int x1), .val (.int x0), .val (.int (x1 &&& (65535 : Int32))), .val (.int ((x1.toUInt32 >>> ((12 : Int32) &&& 31).toUInt32).toInt32)), .val (.int (1 : Int32)), .val (.int (1 : Int32)), .unset] [(.int ((x1.toUInt32 >>> ((12 : Int32) &&& 31).toUInt32).toInt32))]))
  obtain ⟨v5, _, ⟨T5, L5, k5, n5⟩, -, X5, ⟨Lc5, hQ5, l5, y5, z5⟩, st5⟩ := Jvm.LawKit.callS X4 hx (y := (⟨"com/example/hardy_stream/hardystream/xml/XmlChars", "isNameStartChar", "(I)Z"⟩ : MethodName)) hown (mvT hZ (hw _ (List.mem_of_getElem? (i := 1) rfl))) (mvT hZ (hw _ (List.mem_of_getElem? (i := 2) rfl))) (mvT hZ (hw _ (List.mem_of_getElem? (i := 3) rfl))) (mvT hZ (hw _ (List.mem_of_getElem? (i := 4) rfl))) (by decide) (backOf (W := 0) (rm1 l Z a0 hw [] ((x1.toUInt32 >>> ((12 : Int32) &&& 31).toUInt32).toInt32) h0 n0 Z0) hZ (hw _ (List.mem_of_getElem? (i := 4) rfl)) (hw _ (List.mem_of_getElem? (i := 3) rfl)) (by decide) (by decide)) (g := (mkF m 51 #[.val (.int x0), .val (.int x1), .val (.int x0), .val (.int (x1 &&& (65535 : Int32))), .val (.int ((x1.toUInt32 >>> ((12 : Int32) &&& 31).toUInt32).toInt32)), .val (.int (1 : Int32)), .val (.int (1 : Int32)), .unset] [(.int ((x1.toUInt32 >>> ((12 : Int32) &&& 31).toUInt32).toInt32))])) rfl (by rw [hml]; rfl) (argsL := [(.int ((x1.toUInt32 >>> ((12 : Int32) &&& 31).toUInt32).toInt32))]) (rest := []) (lenOf pd_0 rfl) rfl (by show 2 * 0 + _ ≤ _; exact Nat.le_of_eq rfl) (hb hby at_51) (fun _ _ => ⟨rfl, e4, (by decide : 0 + 0 ≤ _), (by decide : 0 + 0 ≤ _)⟩)
  dsimp only [Pt.U, Pt.locs, Pt.cells, Pt.slots] at X5 l5 y5 z5 st5 hQ5
  subst l5 y5 z5
  obtain ⟨rfl, N5q, e5⟩ := hQ5
  have N5 := Fr.app N4 N5q
  refine Ends.by ?_ st5
  show Ends p e below s _ _ _ (T5.setTop (mkF m 54 #[.val (.int x0), .val (.int x1), .val (.int x0), .val (.int (x1 &&& (65535 : Int32))), .val (.int ((x1.toUInt32 >>> ((12 : Int32) &&& 31).toUInt32).toInt32)), .val (.int (1 : Int32)), .val (.int (1 : Int32)), .unset] [(.int (f1 ((x1.toUInt32 >>> ((12 : Int32) &&& 31).toUInt32).toInt32)))]))
  refine Ends.by ?_ (fun _ k => XS.iload X5.here hx rfl (hb hby at_54) rfl k)
  show Ends p e below s _ _ _ (T5.setTop (mkF m 56 #[.val (.int x0), .val (.int x1), .val (.int x0), .val (.int (x1 &&& (65535 : Int32))), .val (.int ((x1.toUInt32 >>> ((12 : Int32) &&& 31).toUInt32).toInt32)), .val (.int (1 : Int32)), .val (.int (1 : Int32)), .unset] [(.int ((x1.toUInt32 >>> ((12 : Int32) &&& 31).toUInt32).toInt32)), (.int (f1 ((x1.toUInt32 >>> ((12 : Int32) &&& 31).toUInt32).toInt32)))]))
  obtain ⟨v6, _, ⟨T6, L6, k6, n6⟩, -, X6, ⟨Lc6, hQ6, l6, y6, z6⟩, st6⟩ := Jvm.LawKit.callS X5 hx (y := (⟨"com/example/hardy_stream/hardystream/xml/XmlCharsIsNameStartCharPinLaw", "ref", "(I)Z"⟩ : MethodName)) hown (mvT hZ (hw _ (List.mem_of_getElem? (i := 8) rfl))) (mvT hZ (hw _ (List.mem_of_getElem? (i := 9) rfl))) (mvT hZ (hw _ (List.mem_of_getElem? (i := 10) rfl))) (mvT hZ (hw _ (List.mem_of_getElem? (i := 11) rfl))) (by decide) (backOf (W := 1) (rm2 l Z a0 hw [] ((x1.toUInt32 >>> ((12 : Int32) &&& 31).toUInt32).toInt32) h0 n0 Z0) hZ (hw _ (List.mem_of_getElem? (i := 11) rfl)) (hw _ (List.mem_of_getElem? (i := 10) rfl)) (by decide) (by decide)) (g := (mkF m 56 #[.val (.int x0), .val (.int x1), .val (.int x0), .val (.int (x1 &&& (65535 : Int32))), .val (.int ((x1.toUInt32 >>> ((12 : Int32) &&& 31).toUInt32).toInt32)), .val (.int (1 : Int32)), .val (.int (1 : Int32)), .unset] [(.int ((x1.toUInt32 >>> ((12 : Int32) &&& 31).toUInt32).toInt32)), (.int (f1 ((x1.toUInt32 >>> ((12 : Int32) &&& 31).toUInt32).toInt32)))])) rfl (by rw [hml]; rfl) (argsL := [(.int ((x1.toUInt32 >>> ((12 : Int32) &&& 31).toUInt32).toInt32))]) (rest := [(.int (f1 ((x1.toUInt32 >>> ((12 : Int32) &&& 31).toUInt32).toInt32)))]) (lenOf pd_0 rfl) rfl (by show 2 * 0 + _ ≤ _; exact Nat.le_of_eq rfl) (hb hby at_56) (fun _ _ => ⟨rfl, e5, (by decide : 0 + 0 ≤ _), (by decide : 0 + 0 ≤ _)⟩)
  dsimp only [Pt.U, Pt.locs, Pt.cells, Pt.slots] at X6 l6 y6 z6 st6 hQ6
  subst l6 y6 z6
  obtain ⟨rfl, N6q, e6⟩ := hQ6
  have N6 := Fr.app N5 N6q
  refine Ends.by ?_ st6
  show Ends p e below s _ _ _ (T6.setTop (mkF m 59 #[.val (.int x0), .val (.int x1), .val (.int x0), .val (.int (x1 &&& (65535 : Int32))), .val (.int ((x1.toUInt32 >>> ((12 : Int32) &&& 31).toUInt32).toInt32)), .val (.int (1 : Int32)), .val (.int (1 : Int32)), .unset] [(.int (f2 ((x1.toUInt32 >>> ((12 : Int32) &&& 31).toUInt32).toInt32))), (.int (f1 ((x1.toUInt32 >>> ((12 : Int32) &&& 31).toUInt32).toInt32)))]))
  refine Ends.by ?_ (fun _ k => XS.icmpNo X6.here hx rfl (hb hby at_59) rfl (XT.ii_ne_f (own_eq _ : (f1 ((x1.toUInt32 >>> ((12 : Int32) &&& 31).toUInt32).toInt32)) = (f2 ((x1.toUInt32 >>> ((12 : Int32) &&& 31).toUInt32).toInt32)))) k)
  show Ends p e below s _ _ _ (T6.setTop (mkF m 62 #[.val (.int x0), .val (.int x1), .val (.int x0), .val (.int (x1 &&& (65535 : Int32))), .val (.int ((x1.toUInt32 >>> ((12 : Int32) &&& 31).toUInt32).toInt32)), .val (.int (1 : Int32)), .val (.int (1 : Int32)), .unset] []))
  refine Ends.by ?_ (fun _ k => XS.iconst X6.here hx rfl (hb hby at_62) k)
  show Ends p e below s _ _ _ (T6.setTop (mkF m 63 #[.val (.int x0), .val (.int x1), .val (.int x0), .val (.int (x1 &&& (65535 : Int32))), .val (.int ((x1.toUInt32 >>> ((12 : Int32) &&& 31).toUInt32).toInt32)), .val (.int (1 : Int32)), .val (.int (1 : Int32)), .unset] [(.int (1 : Int32))]))
  refine Ends.by ?_ (fun _ k => XS.goto X6.here hx rfl (pc0 := 63) (pc' := 67) rfl (hb hby at_63) (by decide) (by decide) k)
  show Ends p e below s _ _ _ (T6.setTop (mkF m 67 #[.val (.int x0), .val (.int x1), .val (.int x0), .val (.int (x1 &&& (65535 : Int32))), .val (.int ((x1.toUInt32 >>> ((12 : Int32) &&& 31).toUInt32).toInt32)), .val (.int (1 : Int32)), .val (.int (1 : Int32)), .unset] [(.int (1 : Int32))]))
  refine Ends.by ?_ (fun _ k => XS.istore X6.here hx rfl (hb hby at_67) rfl (l' := #[.val (.int x0), .val (.int x1), .val (.int x0), .val (.int (x1 &&& (65535 : Int32))), .val (.int ((x1.toUInt32 >>> ((12 : Int32) &&& 31).toUInt32).toInt32)), .val (.int (1 : Int32)), .val (.int (1 : Int32)), .val (.int (1 : Int32))]) rfl k)
  show Ends p e below s _ _ _ (T6.setTop (mkF m 69 #[.val (.int x0), .val (.int x1), .val (.int x0), .val (.int (x1 &&& (65535 : Int32))), .val (.int ((x1.toUInt32 >>> ((12 : Int32) &&& 31).toUInt32).toInt32)), .val (.int (1 : Int32)), .val (.int (1 : Int32)), .val (.int (1 : Int32))] []))
  refine Ends.by ?_ (fun _ k => XS.iload X6.here hx rfl (hb hby at_69) rfl k)
  show Ends p e below s _ _ _ (T6.setTop (mkF m 71 #[.val (.int x0), .val (.int x1), .val (.int x0), .val (.int (x1 &&& (65535 : Int32))), .val (.int ((x1.toUInt32 >>> ((12 : Int32) &&& 31).toUInt32).toInt32)), .val (.int (1 : Int32)), .val (.int (1 : Int32)), .val (.int (1 : Int32))] [(.int (1 : Int32))]))
  refine Ends.by ?_ (fun _ k => XS.ifNo X6.here hx rfl (hb hby at_71) rfl (XT.i0_eq_f (by decide)) k)
  show Ends p e below s _ _ _ (T6.setTop (mkF m 74 #[.val (.int x0), .val (.int x1), .val (.int x0), .val (.int (x1 &&& (65535 : Int32))), .val (.int ((x1.toUInt32 >>> ((12 : Int32) &&& 31).toUInt32).toInt32)), .val (.int (1 : Int32)), .val (.int (1 : Int32)), .val (.int (1 : Int32))] []))
  refine Ends.by ?_ (fun _ k => XS.iload X6.here hx rfl (hb hby at_74) rfl k)
  show Ends p e below s _ _ _ (T6.setTop (mkF m 76 #[.val (.int x0), .val (.int x1), .val (.int x0), .val (.int (x1 &&& (65535 : Int32))), .val (.int ((x1.toUInt32 >>> ((12 : Int32) &&& 31).toUInt32).toInt32)), .val (.int (1 : Int32)), .val (.int (1 : Int32)), .val (.int (1 : Int32))] [(.int (1 : Int32))]))
  refine Ends.by ?_ (fun _ k => XS.ifNo X6.here hx rfl (hb hby at_76) rfl (XT.i0_eq_f (by decide)) k)
  show Ends p e below s _ _ _ (T6.setTop (mkF m 79 #[.val (.int x0), .val (.int x1), .val (.int x0), .val (.int (x1 &&& (65535 : Int32))), .val (.int ((x1.toUInt32 >>> ((12 : Int32) &&& 31).toUInt32).toInt32)), .val (.int (1 : Int32)), .val (.int (1 : Int32)), .val (.int (1 : Int32))] []))
  refine Ends.by ?_ (fun _ k => XS.iload X6.here hx rfl (hb hby at_79) rfl k)
  show Ends p e below s _ _ _ (T6.setTop (mkF m 81 #[.val (.int x0), .val (.int x1), .val (.int x0), .val (.int (x1 &&& (65535 : Int32))), .val (.int ((x1.toUInt32 >>> ((12 : Int32) &&& 31).toUInt32).toInt32)), .val (.int (1 : Int32)), .val (.int (1 : Int32)), .val (.int (1 : Int32))] [(.int (1 : Int32))]))
  refine Ends.by ?_ (fun _ k => XS.ifNo X6.here hx rfl (hb hby at_81) rfl (XT.i0_eq_f (by decide)) k)
  show Ends p e below s _ _ _ (T6.setTop (mkF m 84 #[.val (.int x0), .val (.int x1), .val (.int x0), .val (.int (x1 &&& (65535 : Int32))), .val (.int ((x1.toUInt32 >>> ((12 : Int32) &&& 31).toUInt32).toInt32)), .val (.int (1 : Int32)), .val (.int (1 : Int32)), .val (.int (1 : Int32))] []))
  refine Ends.by ?_ (fun _ k => XS.iconst X6.here hx rfl (hb hby at_84) k)
  show Ends p e below s _ _ _ (T6.setTop (mkF m 85 #[.val (.int x0), .val (.int x1), .val (.int x0), .val (.int (x1 &&& (65535 : Int32))), .val (.int ((x1.toUInt32 >>> ((12 : Int32) &&& 31).toUInt32).toInt32)), .val (.int (1 : Int32)), .val (.int (1 : Int32)), .val (.int (1 : Int32))] [(.int (1 : Int32))]))
  refine Ends.by ?_ (fun _ k => XS.goto X6.here hx rfl (pc0 := 85) (pc' := 89) rfl (hb hby at_85) (by decide) (by decide) k)
  show Ends p e below s _ _ _ (T6.setTop (mkF m 89 #[.val (.int x0), .val (.int x1), .val (.int x0), .val (.int (x1 &&& (65535 : Int32))), .val (.int ((x1.toUInt32 >>> ((12 : Int32) &&& 31).toUInt32).toInt32)), .val (.int (1 : Int32)), .val (.int (1 : Int32)), .val (.int (1 : Int32))] [(.int (1 : Int32))]))
  exact Ends.retN X6 hx Bd.notSynchronized Bd.returns (t := .boolean) (by simp) (hb hby at_89) (w := 1) rfl ⟨rfl, N6⟩ (by decide) (by decide)

set_option maxRecDepth 65536 in
set_option maxHeartbeats 40000000 in
theorem comes_1 {Post : Tables → Env → Array Value → State → Outcome → State → Prop} (hpost : ∀ tb e args s v u, (limb_1_1.after args s (.returned v) u = true ∧ limb_1_2.after args s (.returned v) u = true ∧ True) → FrameEnd s (.returned v) u (Jvm.fieldLocs frame_1_writes args s ++ Jvm.arrayLocs frame_1_arrays args s ++ Jvm.staticLocs frame_1_statics s) 0 0 → Post tb e args s (.returned v) u) :
    ArmFor flags0 classFile x code maxLocals ret World_1 tables_1 room_1 Calls_1 rest_1 Pre_1 Post := by
  intro l hfl _ _ p e ha hc hk s m args below hf hA hF happ hP
  obtain ⟨hcalls, hrest, hpre⟩ := hP
  obtain ⟨-, -, -, hnamed, -, -, -, hat⟩ := (Spec.applies_iff hf).mp happ
  obtain ⟨hg, hn⟩ := and_e (Cond.before_iff.mp (show (Jvm.Cond.and given_1 narrow_1).before args s = true from hpre))
  obtain ⟨g1, g2⟩ := and_e hg
  obtain ⟨g3, g4⟩ := and_e g2
  obtain ⟨w0, w1, rfl⟩ : ∃ w0 w1 : Value, args = #[w0, w1] := by
    have hs : args.size = 2 := by simpa [Cond.value, given_1] using g1
    obtain ⟨L⟩ := args
    match L, hs with
    | [w0, w1], _ => exact ⟨w0, w1, rfl⟩
  have hw := fun d (hd : d ∈ tables_1) => atoms_spec (ws := Jvm.Cond.code x code maxLocals ret :: tables_1) hat d (List.mem_cons_of_mem _ hd)
  obtain ⟨i0, ei0⟩ := is_v g3
  obtain rfl : w0 = (.int i0) := Option.some.inj ei0
  obtain ⟨i1, ei1⟩ := is_v g4
  obtain rfl : w1 = (.int i1) := Option.some.inj ei1
  obtain ⟨n, o, h1, h2, h3, v, L, rfl, hQ, hq⟩ := rm0 l s _ hw tables_1 i0 i1 s.heap s.heap.size (Nat.le_refl _) p e ha hc hk s m _ below hf ((Spec.applies_iff_loose hf).mp happ).1 ⟨rfl, State.Warmed39.refl s, rfl⟩ trivial
  obtain ⟨rfl, N⟩ := hQ
  refine ⟨n, _, h1, h2, h3, hpost _ _ _ _ _ _ ⟨Cond.after_iff.mpr rfl, Cond.after_iff.mpr (eq_i res_at (Term.int_eval (1)) rfl), trivial⟩ ⟨hq.1, hq.2.1, (hq.2.2.sift fun y hy => Or.inr (N y hy)).mono (by decide) (by decide)⟩⟩
theorem main_1_1 : Claimed_1_1 := comes_1 fun _ _ _ _ _ _ h hF => ⟨h.1, hF⟩
theorem main_1_2 : Claimed_1_2 := comes_1 fun _ _ _ _ _ _ h hF => ⟨h.2.1, hF⟩
end Jvm.Pilot.@@N@@
namespace Jvm.Pilot.@@N@@
open Jvm Jvm.ClassFile Sem Op Lib Jvm.Free Jvm.Stand Jvm.Pilot.@@N@@.Jvm.D
/-! MADE BY PROGRAM (witnessworld.py) out of the Statement's table words and the real class files: 9 classes; the members and pool entries that the words name. The judged class is class 1, her method 3. -/
namespace start1
open Jvm.ClassFile
def u (s : String) : CpInfo := .utf8 (stringToUtf16 s)
/-- a pool by its gaps: so many unusable entries, then the entry; so many at the end -/
def gap : Nat → List CpInfo → List CpInfo
  | 0, r => r
  | n + 1, r => .unusable :: gap n r
def poolList (es : List (Nat × CpInfo)) (last : Nat) : List CpInfo := es.foldr (fun e r => gap e.1 (e.2 :: r)) (gap last [])
def pool (es : List (Nat × CpInfo)) (last : Nat) : Array CpInfo := ⟨poolList es last⟩
def fileOf (pool : Array CpInfo) (this : Nat) (attrs : Array Attribute := #[]) (ms : Array MethodInfo := #[]) (fl : Nat := 33) (sup : Nat := 0) (ifs : Array Nat := #[]) (fds : Array FieldInfo := #[]) : ClassFile where
  minorVersion := 0
  majorVersion := 65
  constantPool := pool
  accessFlags := fl
  thisClass := this
  superClass := sup
  interfaces := ifs
  fields := fds
  methods := ms
  attributes := attrs
def plain (name : String) (sup : Option ClassId) : Class where
  name := name
  kind := .ordinary
  loader := none
  accessFlags := 33
  super := sup
  interfaces := #[]
  cf := none
  fields := #[]
  methods := #[]
  instanceTypes := #[]
  staticTypes := #[]
  resolved := #[]
  callSites := []
  init := .initialized
  statics := none
  mirror := none

def pool0 : Array CpInfo := pool [(5, u "<init>"), (0, u "()V"), (1, .class_ 10), (1, u "java/lang/Object")] 113

def k0m0 : Method := { name := "<init>", desc := "()V", sig := { parameters := [], returnType := none }, accessFlags := 1, code := none }
/-- java/lang/Object -/
def k0 : Class := { plain "java/lang/Object" none with
  accessFlags := 33
  interfaces := #[]
  cf := some (fileOf pool0 8 #[] #[{ accessFlags := 1, nameIndex := 5, descriptorIndex := 6, attributes := #[] }] 33 0 #[] #[])
  fields := #[]
  methods := #[k0m0]
  instanceTypes := #[]
  staticTypes := #[]
  resolved := Array.replicate 124 none
  statics := none }

def pool1 : Array CpInfo := pool [(2, .class_ 4), (1, u "java/lang/Object"), (0, u "<init>"), (0, u "()V"), (0, .integer 55296), (0, .integer 63743), (0, .integer 64976), (0, .integer 65007), (0, .integer 65534), (0, .integer 65535), (0, .integer 983039), (0, .methodref 15 16), (0, .class_ 17), (0, .nameAndType 18 19), (0, u "com/example/hardy_stream/hardystream/xml/XmlCharsIsNameStartCharPinLaw"), (0, u "inGap"), (0, u "(I)Z"), (0, .methodref 21 22), (0, .class_ 23), (0, .nameAndType 24 19), (0, u "com/example/hardy_stream/hardystream/xml/XmlChars"), (0, u "isNameStartChar"), (0, .methodref 15 26), (0, .nameAndType 27 19), (0, u "ref"), (3, u "law"), (0, u "(II)Z")] 2

def k1m0 : Method := { name := "<init>", desc := "()V", sig := { parameters := [], returnType := none }, accessFlags := 2, code := none }
def k1c1 : Code := { maxStack := 2, maxLocals := 1, code := method_2_code, exceptionTable := #[], attributes := #[] }
def k1m1 : Method := { name := "inGap", desc := "(I)Z", sig := { parameters := [.int], returnType := some .boolean }, accessFlags := 10, code := some k1c1 }
def k1c2 : Code := { maxStack := 2, maxLocals := 1, code := method_3_code, exceptionTable := #[], attributes := #[] }
def k1m2 : Method := { name := "ref", desc := "(I)Z", sig := { parameters := [.int], returnType := some .boolean }, accessFlags := 10, code := some k1c2 }
def k1c3 : Code := { maxStack := 2, maxLocals := 8, code := code, exceptionTable := #[], attributes := #[] }
def k1m3 : Method := { name := "law", desc := "(II)Z", sig := { parameters := [.int, .int], returnType := some .boolean }, accessFlags := 9, code := some k1c3 }
/-- com/example/hardy_stream/hardystream/xml/XmlCharsIsNameStartCharPinLaw -/
def k1 : Class := { plain "com/example/hardy_stream/hardystream/xml/XmlCharsIsNameStartCharPinLaw" (some 0) with
  accessFlags := 49
  interfaces := #[]
  cf := some (fileOf pool1 15 #[] #[{ accessFlags := 2, nameIndex := 5, descriptorIndex := 6, attributes := #[] }, { accessFlags := 10, nameIndex := 18, descriptorIndex := 19, attributes := #[] }, { accessFlags := 10, nameIndex := 27, descriptorIndex := 19, attributes := #[] }, { accessFlags := 9, nameIndex := 31, descriptorIndex := 32, attributes := #[] }] 49 2 #[] #[])
  fields := #[]
  methods := #[k1m0, k1m1, k1m2, k1m3]
  instanceTypes := #[]
  staticTypes := #[]
  resolved := Array.replicate 35 none
  statics := none }

def pool2 : Array CpInfo := pool [(2, .class_ 4), (1, u "java/lang/Object"), (0, u "<init>"), (0, u "()V"), (11, .class_ 20), (1, u "com/example/hardy_stream/hardystream/xml/XmlChars"), (1, u "(I)Z"), (0, .integer 55295), (0, .integer 63744), (0, .integer 64975), (0, .integer 65008), (0, .integer 65533), (0, .integer 65536), (0, .integer 983039), (2, u "isNameStartChar")] 59

def k2m0 : Method := { name := "<init>", desc := "()V", sig := { parameters := [], returnType := none }, accessFlags := 2, code := none }
def k2c1 : Code := { maxStack := 2, maxLocals := 1, code := prog_272_method_5_code, exceptionTable := #[], attributes := #[] }
def k2m1 : Method := { name := "isNameStartChar", desc := "(I)Z", sig := { parameters := [.int], returnType := some .boolean }, accessFlags := 9, code := some k2c1 }
/-- com/example/hardy_stream/hardystream/xml/XmlChars -/
def k2 : Class := { plain "com/example/hardy_stream/hardystream/xml/XmlChars" (some 0) with
  accessFlags := 33
  interfaces := #[]
  cf := some (fileOf pool2 18 #[] #[{ accessFlags := 2, nameIndex := 5, descriptorIndex := 6, attributes := #[] }, { accessFlags := 9, nameIndex := 32, descriptorIndex := 22, attributes := #[] }] 33 2 #[] #[])
  fields := #[]
  methods := #[k2m0, k2m1]
  instanceTypes := #[]
  staticTypes := #[]
  resolved := Array.replicate 92 none
  statics := none }

def pool3 : Array CpInfo := pool [(1, u "java/lang/Cloneable"), (0, .class_ 1), (0, u "java/lang/Object"), (0, .class_ 3)] 3

/-- java/lang/Cloneable -/
def k3 : Class := { plain "java/lang/Cloneable" (some 0) with
  accessFlags := 1537
  interfaces := #[]
  cf := some (fileOf pool3 2 #[] #[] 1537 4 #[] #[])
  fields := #[]
  methods := #[]
  instanceTypes := #[]
  staticTypes := #[]
  resolved := Array.replicate 8 none
  statics := none }

def pool4 : Array CpInfo := pool [(1, u "java/io/Serializable"), (0, .class_ 1), (0, u "java/lang/Object"), (0, .class_ 3)] 3

/-- java/io/Serializable -/
def k4 : Class := { plain "java/io/Serializable" (some 0) with
  accessFlags := 1537
  interfaces := #[]
  cf := some (fileOf pool4 2 #[] #[] 1537 4 #[] #[])
  fields := #[]
  methods := #[]
  instanceTypes := #[]
  staticTypes := #[]
  resolved := Array.replicate 8 none
  statics := none }

/-- the primitive byte -/
def k5 : Class := { plain "byte" none with kind := .primitive 'B', accessFlags := 0x411 }
/-- [B -/
def k6 : Class := { plain "[B" (some 0) with kind := .array 5 .byte, interfaces := #[3, 4], accessFlags := 1041 }

/-- the primitive int -/
def k7 : Class := { plain "int" none with kind := .primitive 'I', accessFlags := 0x411 }
/-- [I -/
def k8 : Class := { plain "[I" (some 0) with kind := .array 7 .int, interfaces := #[3, 4], accessFlags := 1041 }

def heap : Heap := #[]
def classes : Array Class := #[k0, k1, k2, k3, k4, k5, k6, k7, k8]
def interned : List (Array UInt16 × Addr) := []
def slotsUsed : Nat := 0
def theMethod : MethodId := ⟨1, 3⟩
def args0 : Array Value := #[.int 5, .int 7]
def aboutOver (below : List Frame) : State where
  vm := { classes := classes, interned := interned.toArray }
  heap := heap
  slotsUsed := slotsUsed
  threads := #[{ frames := .invoking theMethod args0 :: below }]
def below0 : List Frame := [.native { method := ⟨0, 0⟩, args := #[] }]
def about1 : State := aboutOver below0
def p0 : Program := .bare "" "" ""
def e0 : Env := launch0.env 0 0 0
theorem w_frames : about1.frames = Frame.invoking theMethod args0 :: below0 := rfl
set_option maxRecDepth 65536 in
theorem w_args : argsFit about1.vm theMethod args0 = true := by decide +kernel
set_option maxRecDepth 65536 in
theorem w_heap : heapFits about1 = true := by decide +kernel
set_option maxRecDepth 65536 in
theorem w_runnable : about1.curStatus? = some .runnable := by decide +kernel
set_option maxRecDepth 65536 in
theorem w_alone : about1.alone = true := by decide +kernel
set_option maxRecDepth 65536 in
theorem w_named : about1.methodNamed? x = some theMethod := by decide +kernel
set_option maxRecDepth 65536 in
theorem w_hears : about1.hears theMethod below0 = true := by decide +kernel
set_option maxRecDepth 65536 in
theorem w_ripe : about1.ripe theMethod args0 below0 = true := by decide +kernel
theorem w_running : about1.status = .running := rfl
set_option maxRecDepth 65536 in
theorem w_room : about1.hasRoom e0.platform room_1 = true :=
  launch0.hasRoom_least _ room_1 (by decide +kernel) (by decide +kernel) (by decide +kernel) (by decide +kernel) (by decide +kernel) (by decide +kernel)
theorem allAtoms_all (ts : List Jvm.Cond) (a : Array Jvm.Value) (st : Jvm.State) : (allAtoms ts).before a st = ts.all (fun c => c.before a st) := by
  induction ts with
  | nil => rfl
  | cons c t ih =>
    show (Jvm.Cond.and c (allAtoms t)).before a st = _
    rw [Jvm.Cond.before_and, ih, List.all_cons]
def words1 : List Jvm.Cond := Jvm.Cond.code x code maxLocals ret :: tables_1
/-- a 'code' word, met by the world's own term for the bytes: nothing is compared byte by byte -/
theorem code_word {y : MethodName} {bytes : ByteArray} {mx : Nat} {rt : Option FieldType} {a : Array Value} {s : State} {m : MethodId} {meth : Method} {c : Code} (h1 : s.methodNamed? y = some m) (h2 : s.vm.method? m = some meth) (h3 : meth.code = some c) (h4 : c.code = bytes)
    (h5 : (c.maxLocals == mx && c.exceptionTable.isEmpty && decide (c.maxStack ≤ mostOperands) && decide (meth.sig.returnType = rt) && !meth.locks && decide (parseMethodDescriptor y.desc = some meth.sig)) = true) : (Jvm.Cond.code y bytes mx rt).before a s = true := by
  simp only [Bool.and_eq_true, beq_iff_eq, Bool.not_eq_true', decide_eq_true_eq] at h5
  obtain ⟨⟨⟨⟨⟨g1, g2⟩, g3⟩, g4⟩, g5⟩, g6⟩ := h5
  simp [Cond.before, Cond.holds, Cond.value, h1, h2, h3, h4, g1, g2, g3, g4, g5, g6]
def isCode : Jvm.Cond → Bool
  | .code _ _ _ _ => true
  | _ => false
theorem all_split {L : List Jvm.Cond} {P : Jvm.Cond → Bool} (h1 : L.all (fun c => isCode c || P c) = true) (h2 : ∀ c ∈ L.filter isCode, P c = true) : L.all P = true := by
  refine List.all_eq_true.mpr fun c hc => ?_
  have h := List.all_eq_true.mp h1 c hc
  rcases Bool.eq_false_or_eq_true (isCode c) with hi | hi
  · exact h2 c (List.mem_filter.mpr ⟨hc, hi⟩)
  · simpa [hi] using h
set_option maxRecDepth 65536 in
theorem w_c0 : (Jvm.Cond.code x code maxLocals ret).before args0 about1 = true := code_word (m := ⟨1, 3⟩) (meth := k1m3) (c := k1c3) (by decide +kernel) rfl rfl rfl (by decide +kernel)
set_option maxRecDepth 65536 in
theorem w_c1 : (Jvm.Cond.code ({ cls := "com/example/hardy_stream/hardystream/xml/XmlChars", name := "isNameStartChar", desc := "(I)Z" } : Jvm.MethodName) prog_272_method_5_code (1 : Nat) (Option.some Jvm.ClassFile.FieldType.boolean)).before args0 about1 = true := code_word (m := ⟨2, 1⟩) (meth := k2m1) (c := k2c1) (by decide +kernel) rfl rfl rfl (by decide +kernel)
set_option maxRecDepth 65536 in
theorem w_c2 : (Jvm.Cond.code ({ cls := "com/example/hardy_stream/hardystream/xml/XmlCharsIsNameStartCharPinLaw", name := "ref", desc := "(I)Z" } : Jvm.MethodName) method_3_code (1 : Nat) (Option.some Jvm.ClassFile.FieldType.boolean)).before args0 about1 = true := code_word (m := ⟨1, 2⟩) (meth := k1m2) (c := k1c2) (by decide +kernel) rfl rfl rfl (by decide +kernel)
set_option maxRecDepth 65536 in
theorem w_c3 : (Jvm.Cond.code ({ cls := "com/example/hardy_stream/hardystream/xml/XmlCharsIsNameStartCharPinLaw", name := "inGap", desc := "(I)Z" } : Jvm.MethodName) method_2_code (1 : Nat) (Option.some Jvm.ClassFile.FieldType.boolean)).before args0 about1 = true := code_word (m := ⟨1, 1⟩) (meth := k1m1) (c := k1c1) (by decide +kernel) rfl rfl rfl (by decide +kernel)
def codes1 : List Jvm.Cond := [Jvm.Cond.code x code maxLocals ret, Jvm.Cond.code ({ cls := "com/example/hardy_stream/hardystream/xml/XmlChars", name := "isNameStartChar", desc := "(I)Z" } : Jvm.MethodName) prog_272_method_5_code (1 : Nat) (Option.some Jvm.ClassFile.FieldType.boolean), Jvm.Cond.code ({ cls := "com/example/hardy_stream/hardystream/xml/XmlCharsIsNameStartCharPinLaw", name := "ref", desc := "(I)Z" } : Jvm.MethodName) method_3_code (1 : Nat) (Option.some Jvm.ClassFile.FieldType.boolean), Jvm.Cond.code ({ cls := "com/example/hardy_stream/hardystream/xml/XmlCharsIsNameStartCharPinLaw", name := "inGap", desc := "(I)Z" } : Jvm.MethodName) method_2_code (1 : Nat) (Option.some Jvm.ClassFile.FieldType.boolean)]
set_option maxRecDepth 65536 in
theorem codes_eq : words1.filter isCode = codes1 := rfl
theorem w_codes : ∀ c ∈ words1.filter isCode, c.before args0 about1 = true := by
  rw [codes_eq]
  intro c hc
  simp only [codes1, List.mem_cons, List.not_mem_nil, or_false] at hc
  rcases hc with rfl | rfl | rfl | rfl
  · exact w_c0
  · exact w_c1
  · exact w_c2
  · exact w_c3
set_option maxRecDepth 65536 in
theorem w_t1 : (words1.take 24).all (fun c => isCode c || c.before args0 about1) = true := by decide +kernel
set_option maxRecDepth 65536 in
theorem w_t2 : (words1.drop 24).all (fun c => isCode c || c.before args0 about1) = true := by decide +kernel
theorem w_tables : (allAtoms (Jvm.Cond.code x code maxLocals ret :: tables_1)).before args0 about1 = true := by
  rw [allAtoms_all]
  show words1.all (fun c => c.before args0 about1) = true
  refine all_split ?_ w_codes
  rw [← List.take_append_drop 24 words1, List.all_append, w_t1, w_t2]
  rfl
set_option maxRecDepth 65536 in
theorem w_case : (Jvm.Cond.and given_1 narrow_1).before args0 about1 = true := by decide +kernel
theorem w_applies : (headSpec (Jvm.Cond.code x code maxLocals ret :: tables_1) room_1).applies x e0.platform about1 = true :=
  (Spec.applies_iff w_frames).mpr ⟨w_running, w_runnable, w_alone, w_named, w_hears, w_ripe, w_room, w_tables⟩
theorem atStart : AtStart classFile x code maxLocals ret World_1 tables_1 room_1 Calls_1 rest_1 Pre_1 launch0 p0 e0 about1 theMethod args0 below0 :=
  ⟨lists_1, trivial, launch0.admits_env _ _ _, launch0.least_env, fairChoices_fair.cas, fairChoices_fair.clock, w_frames, w_args, w_heap, w_applies, trivial, trivial, w_case⟩
end start1
theorem witness_1 : WitnessClaimed_1 := ⟨start1.p0, start1.e0, start1.about1, start1.theMethod, start1.args0, start1.below0, start1.atStart⟩
end Jvm.Pilot.@@N@@
