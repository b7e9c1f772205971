import JvmDerived
import JvmDerived.Pilot.@@N@@Statement
import JvmDerived.Pilot.@@N@@Code
set_option linter.unusedVariables false
set_option linter.unusedSimpArgs false
namespace Jvm.RoadKit
open Sem ClassFile Op Lib Jvm.Stand Jvm.Free Jvm.LawKit
section New
variable {p : Program} {l : Launch} {e : Env} {R : Room} {s : State} {m : MethodId} {args : Array Value} {below : List Frame} {meth : Method} {c : Code} {T : State} {locs : List Loc} {cells slots : Nat}
theorem retI (X : Stand p l e R s m args below meth c T locs cells slots) (hx : p.tables.exec = Jvm.exec) {pc : Nat} {Ls : Array Slot} {z : Int32} {rest : List Value} (hret : meth.sig.returnType = some .int) (hd : decode c.code pc = .ok (.ireturn, 1)) {fs : List Frame}
    (hl : ∀ (f : JFrame) (acts : List Action), f.method = m → f.locked = none → f.entered = [] → (doReturn e (T.setTop f) acts (some (.int z))).1 = T.setFrames fs) : Steps p.tables e below (T.setTop (mkF m pc Ls (.int z :: rest))) (T.setFrames fs) := by
  have hm' : T.vm.method? m = some meth := X.method'
  have hn : narrow .int (.int z) = .int z := rfl
  show Steps p.tables e below (T.setTop { method := m, pc := pc, locals := Ls, stack := _ :: rest, locked := none }) _
  jvm_step X.here [X.here.top, hx, hd, hm', hret, hn]
  first | (intro acts; rw [hl _ acts rfl rfl rfl]) | rw [hl _ _ rfl rfl rfl]
  exact Steps.refl _
theorem own_retL (X : Stand p l e R s m args below meth c T locs cells slots) (hx : p.tables.exec = Jvm.exec) {pc : Nat} {Ls : Array Slot} {z : Int64} {rest : List Value} (hret : meth.sig.returnType = some .long) (hd : decode c.code pc = .ok (.lreturn, 1)) {fs : List Frame}
    (hl : ∀ (f : JFrame) (acts : List Action), f.method = m → f.locked = none → f.entered = [] → (doReturn e (T.setTop f) acts (some (.long z))).1 = T.setFrames fs) : Steps p.tables e below (T.setTop (mkF m pc Ls (.long z :: rest))) (T.setFrames fs) :=
  retOut X hx hret rfl (Or.inr (Or.inl ⟨rfl, rfl, z, rfl⟩)) hd hl
/-- from the state T with the frame g on top the run comes to the invocation's end, returns v, and Q and the frame's bounds hold there -/
def own_Goes (p : Program) (e : Env) (below : List Frame) (s : State) (Q : Option Value → Heap → List Loc → Prop) (k n : Nat) (T : State) (g : JFrame) : Prop :=
  ∃ s₂ o, Steps p.tables e below (T.setTop g) s₂ ∧ s₂.status = .running ∧ Ended s₂ below o ∧ ∃ v L, o = .returned v ∧ Q v s₂.heap L ∧ FrameEnd s o s₂ L k n
theorem own_step {Q : Option Value → Heap → List Loc → Prop} {k n : Nat} {T T' : State} {g g' : JFrame} (h : ∀ t, Steps p.tables e below (T'.setTop g') t → Steps p.tables e below (T.setTop g) t) (w : own_Goes p e below s Q k n T' g') : own_Goes p e below s Q k n T g := by
  obtain ⟨s₂, o, h1, r⟩ := w
  exact ⟨s₂, o, h _ h1, r⟩
theorem own_ret {x : MethodName} {S : Spec} {code : ByteArray} {maxLocals : Nat} {ret : Option FieldType} {s₁ : State} (X : Stand p l e R s m args below meth c T locs cells slots) (Bd : BodyLoose p l x S code maxLocals ret e s m args below meth c s₁) {v : Option Value} (hv : meth.sig.returnType = none → v = none) {g : JFrame}
    (hst : ∀ fs, (∀ (f : JFrame) (acts : List Action), f.method = m → f.locked = none → f.entered = [] → (doReturn e (T.setTop f) acts v).1 = T.setFrames fs) → Steps p.tables e below (T.setTop g) (T.setFrames fs)) {Q : Option Value → Heap → List Loc → Prop} (hQ : Q v T.heap locs) {k n : Nat} (hk : cells ≤ k) (hn : slots ≤ n) : own_Goes p e below s Q k n T g := by
  obtain ⟨fs, hr, hrun, hended, hW, hsame⟩ := X.leave (v := v) hv
  exact ⟨_, _, hst fs hr, hrun, hended, _, _, rfl, hQ, ⟨_, rfl⟩, hW, hsame.mono hk hn⟩
/-- what a body leaves that writes nothing: the value r, the heap as it was -/
def own_Pure (r : Value) (h0 : Heap) (n0 : Nat) (v : Option Value) (h : Heap) (L : List Loc) : Prop := v = some r ∧ Fr n0 L ∧ h = h0
/-- what the law leaves -/
def own_Law (n0 : Nat) (v : Option Value) (_ : Heap) (L : List Loc) : Prop := v = some (.int 1) ∧ Fr n0 L
end New
theorem own_getD (ws : List Int32) (i : Nat) : (ws.map Value.int).getD i (.int (0 : Int32)) = .int (ws.getD i (0 : Int32)) := by
  induction ws generalizing i with
  | nil => rfl
  | cons a r ih => cases i with
    | zero => rfl
    | succ j => exact ih j
end Jvm.RoadKit
namespace Jvm.Pilot.@@N@@
open Jvm Jvm.ClassFile Sem Op Lib Jvm.Free Jvm.Stand Jvm.LawKit Jvm.RoadKit Bundle Jvm.Pilot.@@N@@.Jvm.D
theorem pd_0 : parseMethodDescriptor "(II)C" = some ⟨[.int, .int], some .char⟩ := by decide +kernel
theorem pd_1 : parseMethodDescriptor "(CZ)Z" = some ⟨[.char, .boolean], some .boolean⟩ := by decide +kernel
theorem pd_2 : parseMethodDescriptor "(C)Z" = some ⟨[.char], some .boolean⟩ := by decide +kernel
theorem d1_0 : decode method_2_code 0 = .ok (.iload_n 0, 1) := by decide +kernel
theorem d1_1 : decode method_2_code 1 = .ok (.bipush 15, 2) := by decide +kernel
theorem d1_3 : decode method_2_code 3 = .ok (.iand, 1) := by decide +kernel
theorem d1_4 : decode method_2_code 4 = .ok (.istore_n 2, 1) := by decide +kernel
theorem d1_5 : decode method_2_code 5 = .ok (.iload_n 2, 1) := by decide +kernel
theorem d1_6 : decode method_2_code 6 = .ok (.ifCond .ne 6, 3) := by decide +kernel
theorem d1_9 : decode method_2_code 9 = .ok (.bipush 32, 2) := by decide +kernel
theorem d1_11 : decode method_2_code 11 = .ok (.ireturn, 1) := by decide +kernel
theorem d1_12 : decode method_2_code 12 = .ok (.iload_n 2, 1) := by decide +kernel
theorem d1_13 : decode method_2_code 13 = .ok (.iconst 1, 1) := by decide +kernel
theorem d1_14 : decode method_2_code 14 = .ok (.if_icmp .ne 6, 3) := by decide +kernel
theorem d1_17 : decode method_2_code 17 = .ok (.bipush 9, 2) := by decide +kernel
theorem d1_19 : decode method_2_code 19 = .ok (.ireturn, 1) := by decide +kernel
theorem d1_20 : decode method_2_code 20 = .ok (.iload_n 2, 1) := by decide +kernel
theorem d1_21 : decode method_2_code 21 = .ok (.iconst 2, 1) := by decide +kernel
theorem d1_22 : decode method_2_code 22 = .ok (.if_icmp .ne 6, 3) := by decide +kernel
theorem d1_25 : decode method_2_code 25 = .ok (.bipush 34, 2) := by decide +kernel
theorem d1_27 : decode method_2_code 27 = .ok (.ireturn, 1) := by decide +kernel
theorem d1_28 : decode method_2_code 28 = .ok (.iload_n 2, 1) := by decide +kernel
theorem d1_29 : decode method_2_code 29 = .ok (.iconst 3, 1) := by decide +kernel
theorem d1_30 : decode method_2_code 30 = .ok (.if_icmp .ne 6, 3) := by decide +kernel
theorem d1_33 : decode method_2_code 33 = .ok (.bipush 62, 2) := by decide +kernel
theorem d1_35 : decode method_2_code 35 = .ok (.ireturn, 1) := by decide +kernel
theorem d1_36 : decode method_2_code 36 = .ok (.iload_n 2, 1) := by decide +kernel
theorem d1_37 : decode method_2_code 37 = .ok (.iconst 4, 1) := by decide +kernel
theorem d1_38 : decode method_2_code 38 = .ok (.if_icmp .ne 6, 3) := by decide +kernel
theorem d1_41 : decode method_2_code 41 = .ok (.bipush 13, 2) := by decide +kernel
theorem d1_43 : decode method_2_code 43 = .ok (.ireturn, 1) := by decide +kernel
theorem d1_44 : decode method_2_code 44 = .ok (.iload_n 2, 1) := by decide +kernel
theorem d1_45 : decode method_2_code 45 = .ok (.iconst 5, 1) := by decide +kernel
theorem d1_46 : decode method_2_code 46 = .ok (.if_icmp .ne 6, 3) := by decide +kernel
theorem d1_49 : decode method_2_code 49 = .ok (.bipush 10, 2) := by decide +kernel
theorem d1_51 : decode method_2_code 51 = .ok (.ireturn, 1) := by decide +kernel
theorem d1_52 : decode method_2_code 52 = .ok (.iload_n 2, 1) := by decide +kernel
theorem d1_53 : decode method_2_code 53 = .ok (.bipush 6, 2) := by decide +kernel
theorem d1_55 : decode method_2_code 55 = .ok (.if_icmp .ne 6, 3) := by decide +kernel
theorem d1_58 : decode method_2_code 58 = .ok (.bipush 92, 2) := by decide +kernel
theorem d1_60 : decode method_2_code 60 = .ok (.ireturn, 1) := by decide +kernel
theorem d1_61 : decode method_2_code 61 = .ok (.iload_n 2, 1) := by decide +kernel
theorem d1_62 : decode method_2_code 62 = .ok (.bipush 7, 2) := by decide +kernel
theorem d1_64 : decode method_2_code 64 = .ok (.if_icmp .ne 6, 3) := by decide +kernel
theorem d1_67 : decode method_2_code 67 = .ok (.bipush 60, 2) := by decide +kernel
theorem d1_69 : decode method_2_code 69 = .ok (.ireturn, 1) := by decide +kernel
theorem d1_70 : decode method_2_code 70 = .ok (.iload_n 2, 1) := by decide +kernel
theorem d1_71 : decode method_2_code 71 = .ok (.bipush 8, 2) := by decide +kernel
theorem d1_73 : decode method_2_code 73 = .ok (.if_icmp .ne 6, 3) := by decide +kernel
theorem d1_76 : decode method_2_code 76 = .ok (.bipush 8, 2) := by decide +kernel
theorem d1_78 : decode method_2_code 78 = .ok (.ireturn, 1) := by decide +kernel
theorem d1_79 : decode method_2_code 79 = .ok (.iload_n 2, 1) := by decide +kernel
theorem d1_80 : decode method_2_code 80 = .ok (.bipush 9, 2) := by decide +kernel
theorem d1_82 : decode method_2_code 82 = .ok (.if_icmp .ne 6, 3) := by decide +kernel
theorem d1_85 : decode method_2_code 85 = .ok (.bipush 33, 2) := by decide +kernel
theorem d1_87 : decode method_2_code 87 = .ok (.ireturn, 1) := by decide +kernel
theorem d1_88 : decode method_2_code 88 = .ok (.iload_n 2, 1) := by decide +kernel
theorem d1_89 : decode method_2_code 89 = .ok (.bipush 10, 2) := by decide +kernel
theorem d1_91 : decode method_2_code 91 = .ok (.if_icmp .ne 6, 3) := by decide +kernel
theorem d1_94 : decode method_2_code 94 = .ok (.bipush 35, 2) := by decide +kernel
theorem d1_96 : decode method_2_code 96 = .ok (.ireturn, 1) := by decide +kernel
theorem d1_97 : decode method_2_code 97 = .ok (.iload_n 2, 1) := by decide +kernel
theorem d1_98 : decode method_2_code 98 = .ok (.bipush 11, 2) := by decide +kernel
theorem d1_100 : decode method_2_code 100 = .ok (.if_icmp .ne 6, 3) := by decide +kernel
theorem d1_103 : decode method_2_code 103 = .ok (.bipush 61, 2) := by decide +kernel
theorem d1_105 : decode method_2_code 105 = .ok (.ireturn, 1) := by decide +kernel
theorem d1_106 : decode method_2_code 106 = .ok (.iload_n 2, 1) := by decide +kernel
theorem d1_107 : decode method_2_code 107 = .ok (.bipush 12, 2) := by decide +kernel
theorem d1_109 : decode method_2_code 109 = .ok (.if_icmp .ne 6, 3) := by decide +kernel
theorem d1_112 : decode method_2_code 112 = .ok (.bipush 63, 2) := by decide +kernel
theorem d1_114 : decode method_2_code 114 = .ok (.ireturn, 1) := by decide +kernel
theorem d1_115 : decode method_2_code 115 = .ok (.iload_n 2, 1) := by decide +kernel
theorem d1_116 : decode method_2_code 116 = .ok (.bipush 13, 2) := by decide +kernel
theorem d1_118 : decode method_2_code 118 = .ok (.if_icmp .ne 7, 3) := by decide +kernel
theorem d1_121 : decode method_2_code 121 = .ok (.sipush 288, 3) := by decide +kernel
theorem d1_124 : decode method_2_code 124 = .ok (.ireturn, 1) := by decide +kernel
theorem d1_125 : decode method_2_code 125 = .ok (.iload_n 2, 1) := by decide +kernel
theorem d1_126 : decode method_2_code 126 = .ok (.bipush 14, 2) := by decide +kernel
theorem d1_128 : decode method_2_code 128 = .ok (.if_icmp .ne 7, 3) := by decide +kernel
theorem d1_131 : decode method_2_code 131 = .ok (.sipush 318, 3) := by decide +kernel
theorem d1_134 : decode method_2_code 134 = .ok (.ireturn, 1) := by decide +kernel
theorem d1_135 : decode method_2_code 135 = .ok (.iload_n 1, 1) := by decide +kernel
theorem d1_136 : decode method_2_code 136 = .ok (.ldc 7, 2) := by decide +kernel
theorem d1_138 : decode method_2_code 138 = .ok (.iand, 1) := by decide +kernel
theorem d1_139 : decode method_2_code 139 = .ok (.i2c, 1) := by decide +kernel
theorem d1_140 : decode method_2_code 140 = .ok (.ireturn, 1) := by decide +kernel
theorem pn_1 : plainName "com/example/stanzary/stanzary/dialect/angle/AngleSyntaxEndsBarePinLaw" = true := by first | (simp [plainName, overriddenIn]; done) | decide +kernel
theorem ef_1 (m : MethodId) (x0 : Int32) (x1 : Int32) : entryFrame m #[(.int x0), (.int x1)] 3 = mkF m 0 #[.val (.int x0), .val (.int x1), .unset] [] := by first | (simp [entryFrame, mkF, argsToLocals, Value.category]; done) | rfl
def f1_135 (x1 : Int32) : Int32 := (((x1 &&& (65535 : Int32)).toUInt32.toUInt16.toUInt32.toInt32).toUInt32.toUInt16.toUInt32.toInt32)
def f1_131 : Int32 := ((318 : Int32).toUInt32.toUInt16.toUInt32.toInt32)
def f1_125 (x1 : Int32) (x2 : Int32) : Int32 := if x2 = (14 : Int32) then f1_131 else f1_135 x1
def f1_121 : Int32 := ((288 : Int32).toUInt32.toUInt16.toUInt32.toInt32)
def f1_115 (x1 : Int32) (x2 : Int32) : Int32 := if x2 = (13 : Int32) then f1_121 else f1_125 x1 x2
def f1_112 : Int32 := ((63 : Int32).toUInt32.toUInt16.toUInt32.toInt32)
def f1_106 (x1 : Int32) (x2 : Int32) : Int32 := if x2 = (12 : Int32) then f1_112 else f1_115 x1 x2
def f1_103 : Int32 := ((61 : Int32).toUInt32.toUInt16.toUInt32.toInt32)
def f1_97 (x1 : Int32) (x2 : Int32) : Int32 := if x2 = (11 : Int32) then f1_103 else f1_106 x1 x2
def f1_94 : Int32 := ((35 : Int32).toUInt32.toUInt16.toUInt32.toInt32)
def f1_88 (x1 : Int32) (x2 : Int32) : Int32 := if x2 = (10 : Int32) then f1_94 else f1_97 x1 x2
def f1_85 : Int32 := ((33 : Int32).toUInt32.toUInt16.toUInt32.toInt32)
def f1_79 (x1 : Int32) (x2 : Int32) : Int32 := if x2 = (9 : Int32) then f1_85 else f1_88 x1 x2
def f1_76 : Int32 := ((8 : Int32).toUInt32.toUInt16.toUInt32.toInt32)
def f1_70 (x1 : Int32) (x2 : Int32) : Int32 := if x2 = (8 : Int32) then f1_76 else f1_79 x1 x2
def f1_67 : Int32 := ((60 : Int32).toUInt32.toUInt16.toUInt32.toInt32)
def f1_61 (x1 : Int32) (x2 : Int32) : Int32 := if x2 = (7 : Int32) then f1_67 else f1_70 x1 x2
def f1_58 : Int32 := ((92 : Int32).toUInt32.toUInt16.toUInt32.toInt32)
def f1_52 (x1 : Int32) (x2 : Int32) : Int32 := if x2 = (6 : Int32) then f1_58 else f1_61 x1 x2
def f1_49 : Int32 := ((10 : Int32).toUInt32.toUInt16.toUInt32.toInt32)
def f1_44 (x1 : Int32) (x2 : Int32) : Int32 := if x2 = (5 : Int32) then f1_49 else f1_52 x1 x2
def f1_41 : Int32 := ((13 : Int32).toUInt32.toUInt16.toUInt32.toInt32)
def f1_36 (x1 : Int32) (x2 : Int32) : Int32 := if x2 = (4 : Int32) then f1_41 else f1_44 x1 x2
def f1_33 : Int32 := ((62 : Int32).toUInt32.toUInt16.toUInt32.toInt32)
def f1_28 (x1 : Int32) (x2 : Int32) : Int32 := if x2 = (3 : Int32) then f1_33 else f1_36 x1 x2
def f1_25 : Int32 := ((34 : Int32).toUInt32.toUInt16.toUInt32.toInt32)
def f1_20 (x1 : Int32) (x2 : Int32) : Int32 := if x2 = (2 : Int32) then f1_25 else f1_28 x1 x2
def f1_17 : Int32 := ((9 : Int32).toUInt32.toUInt16.toUInt32.toInt32)
def f1_12 (x1 : Int32) (x2 : Int32) : Int32 := if x2 = (1 : Int32) then f1_17 else f1_20 x1 x2
def f1_9 : Int32 := ((32 : Int32).toUInt32.toUInt16.toUInt32.toInt32)
def f1_0 (x0 : Int32) (x1 : Int32) : Int32 := if (x0 &&& (15 : Int32)) = (0 : Int32) then f1_9 else f1_12 x1 (x0 &&& (15 : Int32))
theorem d2_0 : decode prog_4_method_6_code 0 = .ok (.iload_n 0, 1) := by decide +kernel
theorem d2_1 : decode prog_4_method_6_code 1 = .ok (.bipush 32, 2) := by decide +kernel
theorem d2_3 : decode prog_4_method_6_code 3 = .ok (.if_icmp .eq 25, 3) := by decide +kernel
theorem d2_6 : decode prog_4_method_6_code 6 = .ok (.iload_n 0, 1) := by decide +kernel
theorem d2_7 : decode prog_4_method_6_code 7 = .ok (.bipush 9, 2) := by decide +kernel
theorem d2_9 : decode prog_4_method_6_code 9 = .ok (.if_icmp .eq 19, 3) := by decide +kernel
theorem d2_12 : decode prog_4_method_6_code 12 = .ok (.iload_n 0, 1) := by decide +kernel
theorem d2_13 : decode prog_4_method_6_code 13 = .ok (.bipush 34, 2) := by decide +kernel
theorem d2_15 : decode prog_4_method_6_code 15 = .ok (.if_icmp .eq 13, 3) := by decide +kernel
theorem d2_18 : decode prog_4_method_6_code 18 = .ok (.iload_n 1, 1) := by decide +kernel
theorem d2_19 : decode prog_4_method_6_code 19 = .ok (.ifCond .eq 13, 3) := by decide +kernel
theorem d2_22 : decode prog_4_method_6_code 22 = .ok (.iload_n 0, 1) := by decide +kernel
theorem d2_23 : decode prog_4_method_6_code 23 = .ok (.bipush 62, 2) := by decide +kernel
theorem d2_25 : decode prog_4_method_6_code 25 = .ok (.if_icmp .ne 7, 3) := by decide +kernel
theorem d2_28 : decode prog_4_method_6_code 28 = .ok (.iconst 1, 1) := by decide +kernel
theorem d2_29 : decode prog_4_method_6_code 29 = .ok (.goto 4, 3) := by decide +kernel
theorem d2_32 : decode prog_4_method_6_code 32 = .ok (.iconst 0, 1) := by decide +kernel
theorem d2_33 : decode prog_4_method_6_code 33 = .ok (.ireturn, 1) := by decide +kernel
theorem pn_2 : plainName "com/example/stanzary/stanzary/dialect/angle/AngleSyntax" = true := by first | (simp [plainName, overriddenIn]; done) | decide +kernel
theorem ef_2 (m : MethodId) (x0 : Int32) (x1 : Int32) : entryFrame m #[(.int x0), (.int x1)] 2 = mkF m 0 #[.val (.int x0), .val (.int x1)] [] := by first | (simp [entryFrame, mkF, argsToLocals, Value.category]; done) | rfl
def f2_33 (t0 : Int32) : Int32 := (t0 &&& 1)
def f2_32 : Int32 := f2_33 (0 : Int32)
def f2_28 : Int32 := f2_33 (1 : Int32)
def f2_22 (x0 : Int32) : Int32 := if x0 = (62 : Int32) then f2_28 else f2_32
def f2_18 (x0 : Int32) (x1 : Int32) : Int32 := if x1 = (0 : Int32) then f2_32 else f2_22 x0
def f2_12 (x0 : Int32) (x1 : Int32) : Int32 := if x0 = (34 : Int32) then f2_28 else f2_18 x0 x1
def f2_6 (x0 : Int32) (x1 : Int32) : Int32 := if x0 = (9 : Int32) then f2_28 else f2_12 x0 x1
def f2_0 (x0 : Int32) (x1 : Int32) : Int32 := if x0 = (32 : Int32) then f2_28 else f2_6 x0 x1
theorem d3_0 : decode prog_4_method_7_code 0 = .ok (.iload_n 0, 1) := by decide +kernel
theorem d3_1 : decode prog_4_method_7_code 1 = .ok (.bipush 32, 2) := by decide +kernel
theorem d3_3 : decode prog_4_method_7_code 3 = .ok (.if_icmp .eq 9, 3) := by decide +kernel
theorem d3_6 : decode prog_4_method_7_code 6 = .ok (.iload_n 0, 1) := by decide +kernel
theorem d3_7 : decode prog_4_method_7_code 7 = .ok (.bipush 9, 2) := by decide +kernel
theorem d3_9 : decode prog_4_method_7_code 9 = .ok (.if_icmp .ne 7, 3) := by decide +kernel
theorem d3_12 : decode prog_4_method_7_code 12 = .ok (.iconst 1, 1) := by decide +kernel
theorem d3_13 : decode prog_4_method_7_code 13 = .ok (.goto 4, 3) := by decide +kernel
theorem d3_16 : decode prog_4_method_7_code 16 = .ok (.iconst 0, 1) := by decide +kernel
theorem d3_17 : decode prog_4_method_7_code 17 = .ok (.ireturn, 1) := by decide +kernel
theorem pn_3 : plainName "com/example/stanzary/stanzary/dialect/angle/AngleSyntax" = true := by first | (simp [plainName, overriddenIn]; done) | decide +kernel
theorem ef_3 (m : MethodId) (x0 : Int32) : entryFrame m #[(.int x0)] 1 = mkF m 0 #[.val (.int x0)] [] := by first | (simp [entryFrame, mkF, argsToLocals, Value.category]; done) | rfl
def f3_17 (t0 : Int32) : Int32 := (t0 &&& 1)
def f3_16 : Int32 := f3_17 (0 : Int32)
def f3_12 : Int32 := f3_17 (1 : Int32)
def f3_6 (x0 : Int32) : Int32 := if x0 = (9 : Int32) then f3_12 else f3_16
def f3_0 (x0 : Int32) : Int32 := if x0 = (32 : Int32) then f3_12 else f3_6 x0
theorem pn_0 : plainName "com/example/stanzary/stanzary/dialect/angle/AngleSyntaxEndsBarePinLaw" = true := by first | (simp [plainName, overriddenIn]; done) | decide +kernel
theorem ef_0 (m : MethodId) (x0 : Int32) (x1 : Int32) : entryFrame m #[(.int x0), (.int x1)] maxLocals = mkF m 0 #[.val (.int x0), .val (.int x1), .unset, .unset, .unset, .unset, .unset, .unset, .unset, .unset] [] := by first | (simp [entryFrame, mkF, argsToLocals, Value.category, maxLocals]; done) | rfl
def f0_112 (t0 : Int32) : Int32 := (t0 &&& 1)
def f0_111 : Int32 := f0_112 (0 : Int32)
def f0_107 : Int32 := f0_112 (1 : Int32)
def f0_102 (x9 : Int32) : Int32 := if x9 = (0 : Int32) then f0_111 else f0_107
def f0_95 (x4 : Int32) (x8 : Int32) (x9 : Int32) : Int32 := if x4 = x8 then f0_102 x9 else f0_111
def f0_86 (x4 : Int32) (x5 : Int32) (x7 : Int32) (x8 : Int32) (t0 : Int32) : Int32 := if x5 = x7 then f0_95 x4 x8 t0 else f0_111
def f0_85 (x4 : Int32) (x5 : Int32) (x7 : Int32) (x8 : Int32) : Int32 := f0_86 x4 x5 x7 x8 (0 : Int32)
def f0_81 (x4 : Int32) (x5 : Int32) (x7 : Int32) (x8 : Int32) : Int32 := f0_86 x4 x5 x7 x8 (1 : Int32)
def f0_76 (x4 : Int32) (x5 : Int32) (x7 : Int32) (x8 : Int32) : Int32 := if x5 = (0 : Int32) then f0_85 x4 x5 x7 x8 else f0_81 x4 x5 x7 x8
def f0_67 (x2 : Int32) (x4 : Int32) (x5 : Int32) (x7 : Int32) (t0 : Int32) : Int32 := if (f3_0 x2) = (0 : Int32) then f0_81 x4 x5 x7 t0 else f0_76 x4 x5 x7 t0
def f0_66 (x2 : Int32) (x4 : Int32) (x5 : Int32) (x7 : Int32) : Int32 := f0_67 x2 x4 x5 x7 (0 : Int32)
def f0_62 (x2 : Int32) (x4 : Int32) (x5 : Int32) (x7 : Int32) : Int32 := f0_67 x2 x4 x5 x7 (1 : Int32)
def f0_56 (x2 : Int32) (x3 : Int32) (x4 : Int32) (x5 : Int32) (x7 : Int32) : Int32 := if x3 = (62 : Int32) then f0_62 x2 x4 x5 x7 else f0_66 x2 x4 x5 x7
def f0_45 (x2 : Int32) (x3 : Int32) (x4 : Int32) (x5 : Int32) (t0 : Int32) : Int32 := if t0 = (0 : Int32) then f0_56 x2 x3 x4 x5 t0 else f0_62 x2 x4 x5 t0
def f0_44 (x2 : Int32) (x3 : Int32) (x4 : Int32) (x5 : Int32) : Int32 := f0_45 x2 x3 x4 x5 (0 : Int32)
def f0_40 (x2 : Int32) (x3 : Int32) (x4 : Int32) (x5 : Int32) : Int32 := f0_45 x2 x3 x4 x5 (1 : Int32)
def f0_34 (x2 : Int32) (x3 : Int32) (x4 : Int32) (x5 : Int32) : Int32 := if x3 = (34 : Int32) then f0_40 x2 x3 x4 x5 else f0_44 x2 x3 x4 x5
def f0_28 (x2 : Int32) (x3 : Int32) (x4 : Int32) (x5 : Int32) : Int32 := if x3 = (9 : Int32) then f0_40 x2 x3 x4 x5 else f0_34 x2 x3 x4 x5
def f0_0 (x0 : Int32) (x1 : Int32) : Int32 := if (f1_0 x0 x1) = (32 : Int32) then f0_40 (f1_0 x0 x1) (f1_0 x0 x1) (f2_0 (f1_0 x0 x1) (1 : Int32)) (f2_0 (f1_0 x0 x1) (0 : Int32)) else f0_28 (f1_0 x0 x1) (f1_0 x0 x1) (f2_0 (f1_0 x0 x1) (1 : Int32)) (f2_0 (f1_0 x0 x1) (0 : Int32))
-- the plain law: no program in sight
theorem own_law (a b : Int32) : f0_0 a b = 1 := by
  have key : ∀ v : Int32, (if v = (32 : Int32) then f0_40 v v (f2_0 v (1 : Int32)) (f2_0 v (0 : Int32)) else f0_28 v v (f2_0 v (1 : Int32)) (f2_0 v (0 : Int32))) = 1 := by
    intro v
    simp only [f0_28, f0_34, f0_40, f0_44, f0_45, f0_56, f0_62, f0_66, f0_67, f0_76, f0_81, f0_85, f0_86, f0_95, f0_102, f0_107, f0_111, f0_112, f2_0, f2_6, f2_12, f2_18, f2_22, f2_28, f2_32, f2_33, f3_0, f3_6, f3_12, f3_16, f3_17]
    by_cases h1 : v = 32
    · subst h1; decide
    by_cases h2 : v = 9
    · subst h2; decide
    by_cases h3 : v = 34
    · subst h3; decide
    by_cases h4 : v = 62
    · subst h4; decide
    simp [h1, h2, h3, h4]
  exact key _
-- the walks
set_option maxRecDepth 65536 in
set_option maxHeartbeats 40000000 in
theorem rm1 (l : Launch) (Z : State) (a0 : Array Value) (hw : ∀ d ∈ tables_1, d.before a0 Z = true) (ws : List Jvm.Cond) (p0 : Int32) (p1 : Int32) (h0 : Heap) (n0 : Nat) (Z0 : n0 ≤ h0.size) :
    MetFree l (⟨"com/example/stanzary/stanzary/dialect/angle/AngleSyntaxEndsBarePinLaw", "pick", "(II)C"⟩ : MethodName) (head1 (Jvm.Cond.code (⟨"com/example/stanzary/stanzary/dialect/angle/AngleSyntaxEndsBarePinLaw", "pick", "(II)C"⟩ : MethodName) method_2_code 3 (some .char) :: ws) ({ frames := 0, cells := 0, slots := 0, locals := 0 } : Room)) (fun a U => a = #[(.int p0), (.int p1)] ∧ Z.Warmed39 U.vm ∧ U.heap = h0) (fun _ _ _ _ _ => True) (fun _ U o U' => ∃ v L, o = .returned v ∧ own_Pure ((.int (f1_0 p0 p1))) h0 n0 v U'.heap L ∧ FrameEnd U o U' L ({ frames := 0, cells := 0, slots := 0, locals := 0 } : Room).cells ({ frames := 0, cells := 0, slots := 0, locals := 0 } : Room).slots) := by
  refine MetFree.of_bodySF (plainFor_of_name pn_1) hisR ?_
  intro p e s m args below meth c s₁ Bd hml0 hP hK
  obtain ⟨rfl, hZ, hh0⟩ := hP
  have hx := Bd.exec
  have hby := Bd.bytes
  have hml : c.maxLocals = 3 := hml0
  have hown : s.vm.findClass "com/example/stanzary/stanzary/dialect/angle/AngleSyntaxEndsBarePinLaw" = some m.cls := findClass_of_methodNamed Bd.named
  have X00 : Stand p l e ({ frames := 0, cells := 0, slots := 0, locals := 0 } : Room) s m #[(.int p0), (.int p1)] below meth c s₁ [] 0 0 := Stand.of_body Bd
  have e00 : s₁.heap = h0 := by rw [← hh0, Bd.state]; rfl
  have B135 : ∀ (T0 : State) (locs : List Loc) (x0 : Int32) (x1 : Int32) (x2 : Int32), Stand p l e ({ frames := 0, cells := 0, slots := 0, locals := 0 } : Room) s m #[(.int p0), (.int p1)] below meth c T0 locs 0 0 → T0.heap = h0 → Fr n0 locs → f1_135 x1 = f1_0 p0 p1 → own_Goes p e below s (own_Pure ((.int (f1_0 p0 p1))) h0 n0) ({ frames := 0, cells := 0, slots := 0, locals := 0 } : Room).cells ({ frames := 0, cells := 0, slots := 0, locals := 0 } : Room).slots T0 (mkF m 135 #[.val (.int x0), .val (.int x1), .val (.int x2)] []) := by
    intro T0 locs x0 x1 x2   X0 e0 N0 hf
    refine own_step (T' := T0) (g' := (mkF m 136 #[.val (.int x0), .val (.int x1), .val (.int x2)] [(.int x1)])) (fun _ k => XS.iloadN X0.here hx rfl (hb hby d1_135) rfl k) ?_
    refine own_step (T' := T0) (g' := (mkF m 138 #[.val (.int x0), .val (.int x1), .val (.int x2)] [(.int (65535 : Int32)), (.int x1)])) (fun _ k => X0.ldcInt hx hown (mvT hZ (hw _ (List.mem_of_getElem? (i := 11) rfl))) (g := (mkF m 136 #[.val (.int x0), .val (.int x1), .val (.int x2)] [(.int x1)])) rfl (hb hby d1_136) _ k) ?_
    refine own_step (T' := T0) (g' := (mkF m 139 #[.val (.int x0), .val (.int x1), .val (.int x2)] [(.int (x1 &&& (65535 : Int32)))])) (fun _ k => XS.iand X0.here hx rfl (hb hby d1_138) rfl k) ?_
    refine own_step (T' := T0) (g' := (mkF m 140 #[.val (.int x0), .val (.int x1), .val (.int x2)] [(.int ((x1 &&& (65535 : Int32)).toUInt32.toUInt16.toUInt32.toInt32))])) (fun _ k => XS.i2c X0.here hx rfl (hb hby d1_139) rfl k) ?_
    exact own_ret X0 Bd (v := some (.int (((x1 &&& (65535 : Int32)).toUInt32.toUInt16.toUInt32.toInt32).toUInt32.toUInt16.toUInt32.toInt32))) (fun q => by rw [Bd.returns] at q; cases q) (fun fs q => retN X0 hx (t := .char) Bd.returns (by simp) (hb hby d1_140) q) (show own_Pure ((.int (f1_0 p0 p1))) h0 n0 _ _ _ from ⟨congrArg (fun z => some (Value.int z)) hf, N0, e0⟩) (by decide) (by decide)
  have B131 : ∀ (T0 : State) (locs : List Loc) (x0 : Int32) (x1 : Int32) (x2 : Int32), Stand p l e ({ frames := 0, cells := 0, slots := 0, locals := 0 } : Room) s m #[(.int p0), (.int p1)] below meth c T0 locs 0 0 → T0.heap = h0 → Fr n0 locs → f1_131 = f1_0 p0 p1 → own_Goes p e below s (own_Pure ((.int (f1_0 p0 p1))) h0 n0) ({ frames := 0, cells := 0, slots := 0, locals := 0 } : Room).cells ({ frames := 0, cells := 0, slots := 0, locals := 0 } : Room).slots T0 (mkF m 131 #[.val (.int x0), .val (.int x1), .val (.int x2)] []) := by
    intro T0 locs x0 x1 x2   X0 e0 N0 hf
    refine own_step (T' := T0) (g' := (mkF m 134 #[.val (.int x0), .val (.int x1), .val (.int x2)] [(.int (318 : Int32))])) (fun _ k => XS.sipush X0.here hx rfl (hb hby d1_131) k) ?_
    exact own_ret X0 Bd (v := some (.int ((318 : Int32).toUInt32.toUInt16.toUInt32.toInt32))) (fun q => by rw [Bd.returns] at q; cases q) (fun fs q => retN X0 hx (t := .char) Bd.returns (by simp) (hb hby d1_134) q) (show own_Pure ((.int (f1_0 p0 p1))) h0 n0 _ _ _ from ⟨congrArg (fun z => some (Value.int z)) hf, N0, e0⟩) (by decide) (by decide)
  have B125 : ∀ (T0 : State) (locs : List Loc) (x0 : Int32) (x1 : Int32) (x2 : Int32), Stand p l e ({ frames := 0, cells := 0, slots := 0, locals := 0 } : Room) s m #[(.int p0), (.int p1)] below meth c T0 locs 0 0 → T0.heap = h0 → Fr n0 locs → f1_125 x1 x2 = f1_0 p0 p1 → own_Goes p e below s (own_Pure ((.int (f1_0 p0 p1))) h0 n0) ({ frames := 0, cells := 0, slots := 0, locals := 0 } : Room).cells ({ frames := 0, cells := 0, slots := 0, locals := 0 } : Room).slots T0 (mkF m 125 #[.val (.int x0), .val (.int x1), .val (.int x2)] []) := by
    intro T0 locs x0 x1 x2   X0 e0 N0 hf
    refine own_step (T' := T0) (g' := (mkF m 126 #[.val (.int x0), .val (.int x1), .val (.int x2)] [(.int x2)])) (fun _ k => XS.iloadN X0.here hx rfl (hb hby d1_125) rfl k) ?_
    refine own_step (T' := T0) (g' := (mkF m 128 #[.val (.int x0), .val (.int x1), .val (.int x2)] [(.int (14 : Int32)), (.int x2)])) (fun _ k => XS.bipush X0.here hx rfl (hb hby d1_126) k) ?_
    by_cases hc : x2 = (14 : Int32)
    · refine own_step (T' := T0) (g' := (mkF m 131 #[.val (.int x0), .val (.int x1), .val (.int x2)] [])) (fun _ k => XS.icmpNo X0.here hx rfl (hb hby d1_128) rfl (teq hc).2 k) ?_
      exact B131 T0 _ x0 x1 x2   X0 e0 N0 ((if_pos hc).symm.trans hf)
    · refine own_step (T' := T0) (g' := (mkF m 135 #[.val (.int x0), .val (.int x1), .val (.int x2)] [])) (fun _ k => XS.icmpYes X0.here hx rfl (pc0 := 128) (pc' := 135) rfl (hb hby d1_128) rfl (feq hc).2 (by decide) (by decide) k) ?_
      exact B135 T0 _ x0 x1 x2   X0 e0 N0 ((if_neg hc).symm.trans hf)
  have B121 : ∀ (T0 : State) (locs : List Loc) (x0 : Int32) (x1 : Int32) (x2 : Int32), Stand p l e ({ frames := 0, cells := 0, slots := 0, locals := 0 } : Room) s m #[(.int p0), (.int p1)] below meth c T0 locs 0 0 → T0.heap = h0 → Fr n0 locs → f1_121 = f1_0 p0 p1 → own_Goes p e below s (own_Pure ((.int (f1_0 p0 p1))) h0 n0) ({ frames := 0, cells := 0, slots := 0, locals := 0 } : Room).cells ({ frames := 0, cells := 0, slots := 0, locals := 0 } : Room).slots T0 (mkF m 121 #[.val (.int x0), .val (.int x1), .val (.int x2)] []) := by
    intro T0 locs x0 x1 x2   X0 e0 N0 hf
    refine own_step (T' := T0) (g' := (mkF m 124 #[.val (.int x0), .val (.int x1), .val (.int x2)] [(.int (288 : Int32))])) (fun _ k => XS.sipush X0.here hx rfl (hb hby d1_121) k) ?_
    exact own_ret X0 Bd (v := some (.int ((288 : Int32).toUInt32.toUInt16.toUInt32.toInt32))) (fun q => by rw [Bd.returns] at q; cases q) (fun fs q => retN X0 hx (t := .char) Bd.returns (by simp) (hb hby d1_124) q) (show own_Pure ((.int (f1_0 p0 p1))) h0 n0 _ _ _ from ⟨congrArg (fun z => some (Value.int z)) hf, N0, e0⟩) (by decide) (by decide)
  have B115 : ∀ (T0 : State) (locs : List Loc) (x0 : Int32) (x1 : Int32) (x2 : Int32), Stand p l e ({ frames := 0, cells := 0, slots := 0, locals := 0 } : Room) s m #[(.int p0), (.int p1)] below meth c T0 locs 0 0 → T0.heap = h0 → Fr n0 locs → f1_115 x1 x2 = f1_0 p0 p1 → own_Goes p e below s (own_Pure ((.int (f1_0 p0 p1))) h0 n0) ({ frames := 0, cells := 0, slots := 0, locals := 0 } : Room).cells ({ frames := 0, cells := 0, slots := 0, locals := 0 } : Room).slots T0 (mkF m 115 #[.val (.int x0), .val (.int x1), .val (.int x2)] []) := by
    intro T0 locs x0 x1 x2   X0 e0 N0 hf
    refine own_step (T' := T0) (g' := (mkF m 116 #[.val (.int x0), .val (.int x1), .val (.int x2)] [(.int x2)])) (fun _ k => XS.iloadN X0.here hx rfl (hb hby d1_115) rfl k) ?_
    refine own_step (T' := T0) (g' := (mkF m 118 #[.val (.int x0), .val (.int x1), .val (.int x2)] [(.int (13 : Int32)), (.int x2)])) (fun _ k => XS.bipush X0.here hx rfl (hb hby d1_116) k) ?_
    by_cases hc : x2 = (13 : Int32)
    · refine own_step (T' := T0) (g' := (mkF m 121 #[.val (.int x0), .val (.int x1), .val (.int x2)] [])) (fun _ k => XS.icmpNo X0.here hx rfl (hb hby d1_118) rfl (teq hc).2 k) ?_
      exact B121 T0 _ x0 x1 x2   X0 e0 N0 ((if_pos hc).symm.trans hf)
    · refine own_step (T' := T0) (g' := (mkF m 125 #[.val (.int x0), .val (.int x1), .val (.int x2)] [])) (fun _ k => XS.icmpYes X0.here hx rfl (pc0 := 118) (pc' := 125) rfl (hb hby d1_118) rfl (feq hc).2 (by decide) (by decide) k) ?_
      exact B125 T0 _ x0 x1 x2   X0 e0 N0 ((if_neg hc).symm.trans hf)
  have B112 : ∀ (T0 : State) (locs : List Loc) (x0 : Int32) (x1 : Int32) (x2 : Int32), Stand p l e ({ frames := 0, cells := 0, slots := 0, locals := 0 } : Room) s m #[(.int p0), (.int p1)] below meth c T0 locs 0 0 → T0.heap = h0 → Fr n0 locs → f1_112 = f1_0 p0 p1 → own_Goes p e below s (own_Pure ((.int (f1_0 p0 p1))) h0 n0) ({ frames := 0, cells := 0, slots := 0, locals := 0 } : Room).cells ({ frames := 0, cells := 0, slots := 0, locals := 0 } : Room).slots T0 (mkF m 112 #[.val (.int x0), .val (.int x1), .val (.int x2)] []) := by
    intro T0 locs x0 x1 x2   X0 e0 N0 hf
    refine own_step (T' := T0) (g' := (mkF m 114 #[.val (.int x0), .val (.int x1), .val (.int x2)] [(.int (63 : Int32))])) (fun _ k => XS.bipush X0.here hx rfl (hb hby d1_112) k) ?_
    exact own_ret X0 Bd (v := some (.int ((63 : Int32).toUInt32.toUInt16.toUInt32.toInt32))) (fun q => by rw [Bd.returns] at q; cases q) (fun fs q => retN X0 hx (t := .char) Bd.returns (by simp) (hb hby d1_114) q) (show own_Pure ((.int (f1_0 p0 p1))) h0 n0 _ _ _ from ⟨congrArg (fun z => some (Value.int z)) hf, N0, e0⟩) (by decide) (by decide)
  have B106 : ∀ (T0 : State) (locs : List Loc) (x0 : Int32) (x1 : Int32) (x2 : Int32), Stand p l e ({ frames := 0, cells := 0, slots := 0, locals := 0 } : Room) s m #[(.int p0), (.int p1)] below meth c T0 locs 0 0 → T0.heap = h0 → Fr n0 locs → f1_106 x1 x2 = f1_0 p0 p1 → own_Goes p e below s (own_Pure ((.int (f1_0 p0 p1))) h0 n0) ({ frames := 0, cells := 0, slots := 0, locals := 0 } : Room).cells ({ frames := 0, cells := 0, slots := 0, locals := 0 } : Room).slots T0 (mkF m 106 #[.val (.int x0), .val (.int x1), .val (.int x2)] []) := by
    intro T0 locs x0 x1 x2   X0 e0 N0 hf
    refine own_step (T' := T0) (g' := (mkF m 107 #[.val (.int x0), .val (.int x1), .val (.int x2)] [(.int x2)])) (fun _ k => XS.iloadN X0.here hx rfl (hb hby d1_106) rfl k) ?_
    refine own_step (T' := T0) (g' := (mkF m 109 #[.val (.int x0), .val (.int x1), .val (.int x2)] [(.int (12 : Int32)), (.int x2)])) (fun _ k => XS.bipush X0.here hx rfl (hb hby d1_107) k) ?_
    by_cases hc : x2 = (12 : Int32)
    · refine own_step (T' := T0) (g' := (mkF m 112 #[.val (.int x0), .val (.int x1), .val (.int x2)] [])) (fun _ k => XS.icmpNo X0.here hx rfl (hb hby d1_109) rfl (teq hc).2 k) ?_
      exact B112 T0 _ x0 x1 x2   X0 e0 N0 ((if_pos hc).symm.trans hf)
    · refine own_step (T' := T0) (g' := (mkF m 115 #[.val (.int x0), .val (.int x1), .val (.int x2)] [])) (fun _ k => XS.icmpYes X0.here hx rfl (pc0 := 109) (pc' := 115) rfl (hb hby d1_109) rfl (feq hc).2 (by decide) (by decide) k) ?_
      exact B115 T0 _ x0 x1 x2   X0 e0 N0 ((if_neg hc).symm.trans hf)
  have B103 : ∀ (T0 : State) (locs : List Loc) (x0 : Int32) (x1 : Int32) (x2 : Int32), Stand p l e ({ frames := 0, cells := 0, slots := 0, locals := 0 } : Room) s m #[(.int p0), (.int p1)] below meth c T0 locs 0 0 → T0.heap = h0 → Fr n0 locs → f1_103 = f1_0 p0 p1 → own_Goes p e below s (own_Pure ((.int (f1_0 p0 p1))) h0 n0) ({ frames := 0, cells := 0, slots := 0, locals := 0 } : Room).cells ({ frames := 0, cells := 0, slots := 0, locals := 0 } : Room).slots T0 (mkF m 103 #[.val (.int x0), .val (.int x1), .val (.int x2)] []) := by
    intro T0 locs x0 x1 x2   X0 e0 N0 hf
    refine own_step (T' := T0) (g' := (mkF m 105 #[.val (.int x0), .val (.int x1), .val (.int x2)] [(.int (61 : Int32))])) (fun _ k => XS.bipush X0.here hx rfl (hb hby d1_103) k) ?_
    exact own_ret X0 Bd (v := some (.int ((61 : Int32).toUInt32.toUInt16.toUInt32.toInt32))) (fun q => by rw [Bd.returns] at q; cases q) (fun fs q => retN X0 hx (t := .char) Bd.returns (by simp) (hb hby d1_105) q) (show own_Pure ((.int (f1_0 p0 p1))) h0 n0 _ _ _ from ⟨congrArg (fun z => some (Value.int z)) hf, N0, e0⟩) (by decide) (by decide)
  have B97 : ∀ (T0 : State) (locs : List Loc) (x0 : Int32) (x1 : Int32) (x2 : Int32), Stand p l e ({ frames := 0, cells := 0, slots := 0, locals := 0 } : Room) s m #[(.int p0), (.int p1)] below meth c T0 locs 0 0 → T0.heap = h0 → Fr n0 locs → f1_97 x1 x2 = f1_0 p0 p1 → own_Goes p e below s (own_Pure ((.int (f1_0 p0 p1))) h0 n0) ({ frames := 0, cells := 0, slots := 0, locals := 0 } : Room).cells ({ frames := 0, cells := 0, slots := 0, locals := 0 } : Room).slots T0 (mkF m 97 #[.val (.int x0), .val (.int x1), .val (.int x2)] []) := by
    intro T0 locs x0 x1 x2   X0 e0 N0 hf
    refine own_step (T' := T0) (g' := (mkF m 98 #[.val (.int x0), .val (.int x1), .val (.int x2)] [(.int x2)])) (fun _ k => XS.iloadN X0.here hx rfl (hb hby d1_97) rfl k) ?_
    refine own_step (T' := T0) (g' := (mkF m 100 #[.val (.int x0), .val (.int x1), .val (.int x2)] [(.int (11 : Int32)), (.int x2)])) (fun _ k => XS.bipush X0.here hx rfl (hb hby d1_98) k) ?_
    by_cases hc : x2 = (11 : Int32)
    · refine own_step (T' := T0) (g' := (mkF m 103 #[.val (.int x0), .val (.int x1), .val (.int x2)] [])) (fun _ k => XS.icmpNo X0.here hx rfl (hb hby d1_100) rfl (teq hc).2 k) ?_
      exact B103 T0 _ x0 x1 x2   X0 e0 N0 ((if_pos hc).symm.trans hf)
    · refine own_step (T' := T0) (g' := (mkF m 106 #[.val (.int x0), .val (.int x1), .val (.int x2)] [])) (fun _ k => XS.icmpYes X0.here hx rfl (pc0 := 100) (pc' := 106) rfl (hb hby d1_100) rfl (feq hc).2 (by decide) (by decide) k) ?_
      exact B106 T0 _ x0 x1 x2   X0 e0 N0 ((if_neg hc).symm.trans hf)
  have B94 : ∀ (T0 : State) (locs : List Loc) (x0 : Int32) (x1 : Int32) (x2 : Int32), Stand p l e ({ frames := 0, cells := 0, slots := 0, locals := 0 } : Room) s m #[(.int p0), (.int p1)] below meth c T0 locs 0 0 → T0.heap = h0 → Fr n0 locs → f1_94 = f1_0 p0 p1 → own_Goes p e below s (own_Pure ((.int (f1_0 p0 p1))) h0 n0) ({ frames := 0, cells := 0, slots := 0, locals := 0 } : Room).cells ({ frames := 0, cells := 0, slots := 0, locals := 0 } : Room).slots T0 (mkF m 94 #[.val (.int x0), .val (.int x1), .val (.int x2)] []) := by
    intro T0 locs x0 x1 x2   X0 e0 N0 hf
    refine own_step (T' := T0) (g' := (mkF m 96 #[.val (.int x0), .val (.int x1), .val (.int x2)] [(.int (35 : Int32))])) (fun _ k => XS.bipush X0.here hx rfl (hb hby d1_94) k) ?_
    exact own_ret X0 Bd (v := some (.int ((35 : Int32).toUInt32.toUInt16.toUInt32.toInt32))) (fun q => by rw [Bd.returns] at q; cases q) (fun fs q => retN X0 hx (t := .char) Bd.returns (by simp) (hb hby d1_96) q) (show own_Pure ((.int (f1_0 p0 p1))) h0 n0 _ _ _ from ⟨congrArg (fun z => some (Value.int z)) hf, N0, e0⟩) (by decide) (by decide)
  have B88 : ∀ (T0 : State) (locs : List Loc) (x0 : Int32) (x1 : Int32) (x2 : Int32), Stand p l e ({ frames := 0, cells := 0, slots := 0, locals := 0 } : Room) s m #[(.int p0), (.int p1)] below meth c T0 locs 0 0 → T0.heap = h0 → Fr n0 locs → f1_88 x1 x2 = f1_0 p0 p1 → own_Goes p e below s (own_Pure ((.int (f1_0 p0 p1))) h0 n0) ({ frames := 0, cells := 0, slots := 0, locals := 0 } : Room).cells ({ frames := 0, cells := 0, slots := 0, locals := 0 } : Room).slots T0 (mkF m 88 #[.val (.int x0), .val (.int x1), .val (.int x2)] []) := by
    intro T0 locs x0 x1 x2   X0 e0 N0 hf
    refine own_step (T' := T0) (g' := (mkF m 89 #[.val (.int x0), .val (.int x1), .val (.int x2)] [(.int x2)])) (fun _ k => XS.iloadN X0.here hx rfl (hb hby d1_88) rfl k) ?_
    refine own_step (T' := T0) (g' := (mkF m 91 #[.val (.int x0), .val (.int x1), .val (.int x2)] [(.int (10 : Int32)), (.int x2)])) (fun _ k => XS.bipush X0.here hx rfl (hb hby d1_89) k) ?_
    by_cases hc : x2 = (10 : Int32)
    · refine own_step (T' := T0) (g' := (mkF m 94 #[.val (.int x0), .val (.int x1), .val (.int x2)] [])) (fun _ k => XS.icmpNo X0.here hx rfl (hb hby d1_91) rfl (teq hc).2 k) ?_
      exact B94 T0 _ x0 x1 x2   X0 e0 N0 ((if_pos hc).symm.trans hf)
    · refine own_step (T' := T0) (g' := (mkF m 97 #[.val (.int x0), .val (.int x1), .val (.int x2)] [])) (fun _ k => XS.icmpYes X0.here hx rfl (pc0 := 91) (pc' := 97) rfl (hb hby d1_91) rfl (feq hc).2 (by decide) (by decide) k) ?_
      exact B97 T0 _ x0 x1 x2   X0 e0 N0 ((if_neg hc).symm.trans hf)
  have B85 : ∀ (T0 : State) (locs : List Loc) (x0 : Int32) (x1 : Int32) (x2 : Int32), Stand p l e ({ frames := 0, cells := 0, slots := 0, locals := 0 } : Room) s m #[(.int p0), (.int p1)] below meth c T0 locs 0 0 → T0.heap = h0 → Fr n0 locs → f1_85 = f1_0 p0 p1 → own_Goes p e below s (own_Pure ((.int (f1_0 p0 p1))) h0 n0) ({ frames := 0, cells := 0, slots := 0, locals := 0 } : Room).cells ({ frames := 0, cells := 0, slots := 0, locals := 0 } : Room).slots T0 (mkF m 85 #[.val (.int x0), .val (.int x1), .val (.int x2)] []) := by
    intro T0 locs x0 x1 x2   X0 e0 N0 hf
    refine own_step (T' := T0) (g' := (mkF m 87 #[.val (.int x0), .val (.int x1), .val (.int x2)] [(.int (33 : Int32))])) (fun _ k => XS.bipush X0.here hx rfl (hb hby d1_85) k) ?_
    exact own_ret X0 Bd (v := some (.int ((33 : Int32).toUInt32.toUInt16.toUInt32.toInt32))) (fun q => by rw [Bd.returns] at q; cases q) (fun fs q => retN X0 hx (t := .char) Bd.returns (by simp) (hb hby d1_87) q) (show own_Pure ((.int (f1_0 p0 p1))) h0 n0 _ _ _ from ⟨congrArg (fun z => some (Value.int z)) hf, N0, e0⟩) (by decide) (by decide)
  have B79 : ∀ (T0 : State) (locs : List Loc) (x0 : Int32) (x1 : Int32) (x2 : Int32), Stand p l e ({ frames := 0, cells := 0, slots := 0, locals := 0 } : Room) s m #[(.int p0), (.int p1)] below meth c T0 locs 0 0 → T0.heap = h0 → Fr n0 locs → f1_79 x1 x2 = f1_0 p0 p1 → own_Goes p e below s (own_Pure ((.int (f1_0 p0 p1))) h0 n0) ({ frames := 0, cells := 0, slots := 0, locals := 0 } : Room).cells ({ frames := 0, cells := 0, slots := 0, locals := 0 } : Room).slots T0 (mkF m 79 #[.val (.int x0), .val (.int x1), .val (.int x2)] []) := by
    intro T0 locs x0 x1 x2   X0 e0 N0 hf
    refine own_step (T' := T0) (g' := (mkF m 80 #[.val (.int x0), .val (.int x1), .val (.int x2)] [(.int x2)])) (fun _ k => XS.iloadN X0.here hx rfl (hb hby d1_79) rfl k) ?_
    refine own_step (T' := T0) (g' := (mkF m 82 #[.val (.int x0), .val (.int x1), .val (.int x2)] [(.int (9 : Int32)), (.int x2)])) (fun _ k => XS.bipush X0.here hx rfl (hb hby d1_80) k) ?_
    by_cases hc : x2 = (9 : Int32)
    · refine own_step (T' := T0) (g' := (mkF m 85 #[.val (.int x0), .val (.int x1), .val (.int x2)] [])) (fun _ k => XS.icmpNo X0.here hx rfl (hb hby d1_82) rfl (teq hc).2 k) ?_
      exact B85 T0 _ x0 x1 x2   X0 e0 N0 ((if_pos hc).symm.trans hf)
    · refine own_step (T' := T0) (g' := (mkF m 88 #[.val (.int x0), .val (.int x1), .val (.int x2)] [])) (fun _ k => XS.icmpYes X0.here hx rfl (pc0 := 82) (pc' := 88) rfl (hb hby d1_82) rfl (feq hc).2 (by decide) (by decide) k) ?_
      exact B88 T0 _ x0 x1 x2   X0 e0 N0 ((if_neg hc).symm.trans hf)
  have B76 : ∀ (T0 : State) (locs : List Loc) (x0 : Int32) (x1 : Int32) (x2 : Int32), Stand p l e ({ frames := 0, cells := 0, slots := 0, locals := 0 } : Room) s m #[(.int p0), (.int p1)] below meth c T0 locs 0 0 → T0.heap = h0 → Fr n0 locs → f1_76 = f1_0 p0 p1 → own_Goes p e below s (own_Pure ((.int (f1_0 p0 p1))) h0 n0) ({ frames := 0, cells := 0, slots := 0, locals := 0 } : Room).cells ({ frames := 0, cells := 0, slots := 0, locals := 0 } : Room).slots T0 (mkF m 76 #[.val (.int x0), .val (.int x1), .val (.int x2)] []) := by
    intro T0 locs x0 x1 x2   X0 e0 N0 hf
    refine own_step (T' := T0) (g' := (mkF m 78 #[.val (.int x0), .val (.int x1), .val (.int x2)] [(.int (8 : Int32))])) (fun _ k => XS.bipush X0.here hx rfl (hb hby d1_76) k) ?_
    exact own_ret X0 Bd (v := some (.int ((8 : Int32).toUInt32.toUInt16.toUInt32.toInt32))) (fun q => by rw [Bd.returns] at q; cases q) (fun fs q => retN X0 hx (t := .char) Bd.returns (by simp) (hb hby d1_78) q) (show own_Pure ((.int (f1_0 p0 p1))) h0 n0 _ _ _ from ⟨congrArg (fun z => some (Value.int z)) hf, N0, e0⟩) (by decide) (by decide)
  have B70 : ∀ (T0 : State) (locs : List Loc) (x0 : Int32) (x1 : Int32) (x2 : Int32), Stand p l e ({ frames := 0, cells := 0, slots := 0, locals := 0 } : Room) s m #[(.int p0), (.int p1)] below meth c T0 locs 0 0 → T0.heap = h0 → Fr n0 locs → f1_70 x1 x2 = f1_0 p0 p1 → own_Goes p e below s (own_Pure ((.int (f1_0 p0 p1))) h0 n0) ({ frames := 0, cells := 0, slots := 0, locals := 0 } : Room).cells ({ frames := 0, cells := 0, slots := 0, locals := 0 } : Room).slots T0 (mkF m 70 #[.val (.int x0), .val (.int x1), .val (.int x2)] []) := by
    intro T0 locs x0 x1 x2   X0 e0 N0 hf
    refine own_step (T' := T0) (g' := (mkF m 71 #[.val (.int x0), .val (.int x1), .val (.int x2)] [(.int x2)])) (fun _ k => XS.iloadN X0.here hx rfl (hb hby d1_70) rfl k) ?_
    refine own_step (T' := T0) (g' := (mkF m 73 #[.val (.int x0), .val (.int x1), .val (.int x2)] [(.int (8 : Int32)), (.int x2)])) (fun _ k => XS.bipush X0.here hx rfl (hb hby d1_71) k) ?_
    by_cases hc : x2 = (8 : Int32)
    · refine own_step (T' := T0) (g' := (mkF m 76 #[.val (.int x0), .val (.int x1), .val (.int x2)] [])) (fun _ k => XS.icmpNo X0.here hx rfl (hb hby d1_73) rfl (teq hc).2 k) ?_
      exact B76 T0 _ x0 x1 x2   X0 e0 N0 ((if_pos hc).symm.trans hf)
    · refine own_step (T' := T0) (g' := (mkF m 79 #[.val (.int x0), .val (.int x1), .val (.int x2)] [])) (fun _ k => XS.icmpYes X0.here hx rfl (pc0 := 73) (pc' := 79) rfl (hb hby d1_73) rfl (feq hc).2 (by decide) (by decide) k) ?_
      exact B79 T0 _ x0 x1 x2   X0 e0 N0 ((if_neg hc).symm.trans hf)
  have B67 : ∀ (T0 : State) (locs : List Loc) (x0 : Int32) (x1 : Int32) (x2 : Int32), Stand p l e ({ frames := 0, cells := 0, slots := 0, locals := 0 } : Room) s m #[(.int p0), (.int p1)] below meth c T0 locs 0 0 → T0.heap = h0 → Fr n0 locs → f1_67 = f1_0 p0 p1 → own_Goes p e below s (own_Pure ((.int (f1_0 p0 p1))) h0 n0) ({ frames := 0, cells := 0, slots := 0, locals := 0 } : Room).cells ({ frames := 0, cells := 0, slots := 0, locals := 0 } : Room).slots T0 (mkF m 67 #[.val (.int x0), .val (.int x1), .val (.int x2)] []) := by
    intro T0 locs x0 x1 x2   X0 e0 N0 hf
    refine own_step (T' := T0) (g' := (mkF m 69 #[.val (.int x0), .val (.int x1), .val (.int x2)] [(.int (60 : Int32))])) (fun _ k => XS.bipush X0.here hx rfl (hb hby d1_67) k) ?_
    exact own_ret X0 Bd (v := some (.int ((60 : Int32).toUInt32.toUInt16.toUInt32.toInt32))) (fun q => by rw [Bd.returns] at q; cases q) (fun fs q => retN X0 hx (t := .char) Bd.returns (by simp) (hb hby d1_69) q) (show own_Pure ((.int (f1_0 p0 p1))) h0 n0 _ _ _ from ⟨congrArg (fun z => some (Value.int z)) hf, N0, e0⟩) (by decide) (by decide)
  have B61 : ∀ (T0 : State) (locs : List Loc) (x0 : Int32) (x1 : Int32) (x2 : Int32), Stand p l e ({ frames := 0, cells := 0, slots := 0, locals := 0 } : Room) s m #[(.int p0), (.int p1)] below meth c T0 locs 0 0 → T0.heap = h0 → Fr n0 locs → f1_61 x1 x2 = f1_0 p0 p1 → own_Goes p e below s (own_Pure ((.int (f1_0 p0 p1))) h0 n0) ({ frames := 0, cells := 0, slots := 0, locals := 0 } : Room).cells ({ frames := 0, cells := 0, slots := 0, locals := 0 } : Room).slots T0 (mkF m 61 #[.val (.int x0), .val (.int x1), .val (.int x2)] []) := by
    intro T0 locs x0 x1 x2   X0 e0 N0 hf
    refine own_step (T' := T0) (g' := (mkF m 62 #[.val (.int x0), .val (.int x1), .val (.int x2)] [(.int x2)])) (fun _ k => XS.iloadN X0.here hx rfl (hb hby d1_61) rfl k) ?_
    refine own_step (T' := T0) (g' := (mkF m 64 #[.val (.int x0), .val (.int x1), .val (.int x2)] [(.int (7 : Int32)), (.int x2)])) (fun _ k => XS.bipush X0.here hx rfl (hb hby d1_62) k) ?_
    by_cases hc : x2 = (7 : Int32)
    · refine own_step (T' := T0) (g' := (mkF m 67 #[.val (.int x0), .val (.int x1), .val (.int x2)] [])) (fun _ k => XS.icmpNo X0.here hx rfl (hb hby d1_64) rfl (teq hc).2 k) ?_
      exact B67 T0 _ x0 x1 x2   X0 e0 N0 ((if_pos hc).symm.trans hf)
    · refine own_step (T' := T0) (g' := (mkF m 70 #[.val (.int x0), .val (.int x1), .val (.int x2)] [])) (fun _ k => XS.icmpYes X0.here hx rfl (pc0 := 64) (pc' := 70) rfl (hb hby d1_64) rfl (feq hc).2 (by decide) (by decide) k) ?_
      exact B70 T0 _ x0 x1 x2   X0 e0 N0 ((if_neg hc).symm.trans hf)
  have B58 : ∀ (T0 : State) (locs : List Loc) (x0 : Int32) (x1 : Int32) (x2 : Int32), Stand p l e ({ frames := 0, cells := 0, slots := 0, locals := 0 } : Room) s m #[(.int p0), (.int p1)] below meth c T0 locs 0 0 → T0.heap = h0 → Fr n0 locs → f1_58 = f1_0 p0 p1 → own_Goes p e below s (own_Pure ((.int (f1_0 p0 p1))) h0 n0) ({ frames := 0, cells := 0, slots := 0, locals := 0 } : Room).cells ({ frames := 0, cells := 0, slots := 0, locals := 0 } : Room).slots T0 (mkF m 58 #[.val (.int x0), .val (.int x1), .val (.int x2)] []) := by
    intro T0 locs x0 x1 x2   X0 e0 N0 hf
    refine own_step (T' := T0) (g' := (mkF m 60 #[.val (.int x0), .val (.int x1), .val (.int x2)] [(.int (92 : Int32))])) (fun _ k => XS.bipush X0.here hx rfl (hb hby d1_58) k) ?_
    exact own_ret X0 Bd (v := some (.int ((92 : Int32).toUInt32.toUInt16.toUInt32.toInt32))) (fun q => by rw [Bd.returns] at q; cases q) (fun fs q => retN X0 hx (t := .char) Bd.returns (by simp) (hb hby d1_60) q) (show own_Pure ((.int (f1_0 p0 p1))) h0 n0 _ _ _ from ⟨congrArg (fun z => some (Value.int z)) hf, N0, e0⟩) (by decide) (by decide)
  have B52 : ∀ (T0 : State) (locs : List Loc) (x0 : Int32) (x1 : Int32) (x2 : Int32), Stand p l e ({ frames := 0, cells := 0, slots := 0, locals := 0 } : Room) s m #[(.int p0), (.int p1)] below meth c T0 locs 0 0 → T0.heap = h0 → Fr n0 locs → f1_52 x1 x2 = f1_0 p0 p1 → own_Goes p e below s (own_Pure ((.int (f1_0 p0 p1))) h0 n0) ({ frames := 0, cells := 0, slots := 0, locals := 0 } : Room).cells ({ frames := 0, cells := 0, slots := 0, locals := 0 } : Room).slots T0 (mkF m 52 #[.val (.int x0), .val (.int x1), .val (.int x2)] []) := by
    intro T0 locs x0 x1 x2   X0 e0 N0 hf
    refine own_step (T' := T0) (g' := (mkF m 53 #[.val (.int x0), .val (.int x1), .val (.int x2)] [(.int x2)])) (fun _ k => XS.iloadN X0.here hx rfl (hb hby d1_52) rfl k) ?_
    refine own_step (T' := T0) (g' := (mkF m 55 #[.val (.int x0), .val (.int x1), .val (.int x2)] [(.int (6 : Int32)), (.int x2)])) (fun _ k => XS.bipush X0.here hx rfl (hb hby d1_53) k) ?_
    by_cases hc : x2 = (6 : Int32)
    · refine own_step (T' := T0) (g' := (mkF m 58 #[.val (.int x0), .val (.int x1), .val (.int x2)] [])) (fun _ k => XS.icmpNo X0.here hx rfl (hb hby d1_55) rfl (teq hc).2 k) ?_
      exact B58 T0 _ x0 x1 x2   X0 e0 N0 ((if_pos hc).symm.trans hf)
    · refine own_step (T' := T0) (g' := (mkF m 61 #[.val (.int x0), .val (.int x1), .val (.int x2)] [])) (fun _ k => XS.icmpYes X0.here hx rfl (pc0 := 55) (pc' := 61) rfl (hb hby d1_55) rfl (feq hc).2 (by decide) (by decide) k) ?_
      exact B61 T0 _ x0 x1 x2   X0 e0 N0 ((if_neg hc).symm.trans hf)
  have B49 : ∀ (T0 : State) (locs : List Loc) (x0 : Int32) (x1 : Int32) (x2 : Int32), Stand p l e ({ frames := 0, cells := 0, slots := 0, locals := 0 } : Room) s m #[(.int p0), (.int p1)] below meth c T0 locs 0 0 → T0.heap = h0 → Fr n0 locs → f1_49 = f1_0 p0 p1 → own_Goes p e below s (own_Pure ((.int (f1_0 p0 p1))) h0 n0) ({ frames := 0, cells := 0, slots := 0, locals := 0 } : Room).cells ({ frames := 0, cells := 0, slots := 0, locals := 0 } : Room).slots T0 (mkF m 49 #[.val (.int x0), .val (.int x1), .val (.int x2)] []) := by
    intro T0 locs x0 x1 x2   X0 e0 N0 hf
    refine own_step (T' := T0) (g' := (mkF m 51 #[.val (.int x0), .val (.int x1), .val (.int x2)] [(.int (10 : Int32))])) (fun _ k => XS.bipush X0.here hx rfl (hb hby d1_49) k) ?_
    exact own_ret X0 Bd (v := some (.int ((10 : Int32).toUInt32.toUInt16.toUInt32.toInt32))) (fun q => by rw [Bd.returns] at q; cases q) (fun fs q => retN X0 hx (t := .char) Bd.returns (by simp) (hb hby d1_51) q) (show own_Pure ((.int (f1_0 p0 p1))) h0 n0 _ _ _ from ⟨congrArg (fun z => some (Value.int z)) hf, N0, e0⟩) (by decide) (by decide)
  have B44 : ∀ (T0 : State) (locs : List Loc) (x0 : Int32) (x1 : Int32) (x2 : Int32), Stand p l e ({ frames := 0, cells := 0, slots := 0, locals := 0 } : Room) s m #[(.int p0), (.int p1)] below meth c T0 locs 0 0 → T0.heap = h0 → Fr n0 locs → f1_44 x1 x2 = f1_0 p0 p1 → own_Goes p e below s (own_Pure ((.int (f1_0 p0 p1))) h0 n0) ({ frames := 0, cells := 0, slots := 0, locals := 0 } : Room).cells ({ frames := 0, cells := 0, slots := 0, locals := 0 } : Room).slots T0 (mkF m 44 #[.val (.int x0), .val (.int x1), .val (.int x2)] []) := by
    intro T0 locs x0 x1 x2   X0 e0 N0 hf
    refine own_step (T' := T0) (g' := (mkF m 45 #[.val (.int x0), .val (.int x1), .val (.int x2)] [(.int x2)])) (fun _ k => XS.iloadN X0.here hx rfl (hb hby d1_44) rfl k) ?_
    refine own_step (T' := T0) (g' := (mkF m 46 #[.val (.int x0), .val (.int x1), .val (.int x2)] [(.int (5 : Int32)), (.int x2)])) (fun _ k => XS.iconst X0.here hx rfl (hb hby d1_45) k) ?_
    by_cases hc : x2 = (5 : Int32)
    · refine own_step (T' := T0) (g' := (mkF m 49 #[.val (.int x0), .val (.int x1), .val (.int x2)] [])) (fun _ k => XS.icmpNo X0.here hx rfl (hb hby d1_46) rfl (teq hc).2 k) ?_
      exact B49 T0 _ x0 x1 x2   X0 e0 N0 ((if_pos hc).symm.trans hf)
    · refine own_step (T' := T0) (g' := (mkF m 52 #[.val (.int x0), .val (.int x1), .val (.int x2)] [])) (fun _ k => XS.icmpYes X0.here hx rfl (pc0 := 46) (pc' := 52) rfl (hb hby d1_46) rfl (feq hc).2 (by decide) (by decide) k) ?_
      exact B52 T0 _ x0 x1 x2   X0 e0 N0 ((if_neg hc).symm.trans hf)
  have B41 : ∀ (T0 : State) (locs : List Loc) (x0 : Int32) (x1 : Int32) (x2 : Int32), Stand p l e ({ frames := 0, cells := 0, slots := 0, locals := 0 } : Room) s m #[(.int p0), (.int p1)] below meth c T0 locs 0 0 → T0.heap = h0 → Fr n0 locs → f1_41 = f1_0 p0 p1 → own_Goes p e below s (own_Pure ((.int (f1_0 p0 p1))) h0 n0) ({ frames := 0, cells := 0, slots := 0, locals := 0 } : Room).cells ({ frames := 0, cells := 0, slots := 0, locals := 0 } : Room).slots T0 (mkF m 41 #[.val (.int x0), .val (.int x1), .val (.int x2)] []) := by
    intro T0 locs x0 x1 x2   X0 e0 N0 hf
    refine own_step (T' := T0) (g' := (mkF m 43 #[.val (.int x0), .val (.int x1), .val (.int x2)] [(.int (13 : Int32))])) (fun _ k => XS.bipush X0.here hx rfl (hb hby d1_41) k) ?_
    exact own_ret X0 Bd (v := some (.int ((13 : Int32).toUInt32.toUInt16.toUInt32.toInt32))) (fun q => by rw [Bd.returns] at q; cases q) (fun fs q => retN X0 hx (t := .char) Bd.returns (by simp) (hb hby d1_43) q) (show own_Pure ((.int (f1_0 p0 p1))) h0 n0 _ _ _ from ⟨congrArg (fun z => some (Value.int z)) hf, N0, e0⟩) (by decide) (by decide)
  have B36 : ∀ (T0 : State) (locs : List Loc) (x0 : Int32) (x1 : Int32) (x2 : Int32), Stand p l e ({ frames := 0, cells := 0, slots := 0, locals := 0 } : Room) s m #[(.int p0), (.int p1)] below meth c T0 locs 0 0 → T0.heap = h0 → Fr n0 locs → f1_36 x1 x2 = f1_0 p0 p1 → own_Goes p e below s (own_Pure ((.int (f1_0 p0 p1))) h0 n0) ({ frames := 0, cells := 0, slots := 0, locals := 0 } : Room).cells ({ frames := 0, cells := 0, slots := 0, locals := 0 } : Room).slots T0 (mkF m 36 #[.val (.int x0), .val (.int x1), .val (.int x2)] []) := by
    intro T0 locs x0 x1 x2   X0 e0 N0 hf
    refine own_step (T' := T0) (g' := (mkF m 37 #[.val (.int x0), .val (.int x1), .val (.int x2)] [(.int x2)])) (fun _ k => XS.iloadN X0.here hx rfl (hb hby d1_36) rfl k) ?_
    refine own_step (T' := T0) (g' := (mkF m 38 #[.val (.int x0), .val (.int x1), .val (.int x2)] [(.int (4 : Int32)), (.int x2)])) (fun _ k => XS.iconst X0.here hx rfl (hb hby d1_37) k) ?_
    by_cases hc : x2 = (4 : Int32)
    · refine own_step (T' := T0) (g' := (mkF m 41 #[.val (.int x0), .val (.int x1), .val (.int x2)] [])) (fun _ k => XS.icmpNo X0.here hx rfl (hb hby d1_38) rfl (teq hc).2 k) ?_
      exact B41 T0 _ x0 x1 x2   X0 e0 N0 ((if_pos hc).symm.trans hf)
    · refine own_step (T' := T0) (g' := (mkF m 44 #[.val (.int x0), .val (.int x1), .val (.int x2)] [])) (fun _ k => XS.icmpYes X0.here hx rfl (pc0 := 38) (pc' := 44) rfl (hb hby d1_38) rfl (feq hc).2 (by decide) (by decide) k) ?_
      exact B44 T0 _ x0 x1 x2   X0 e0 N0 ((if_neg hc).symm.trans hf)
  have B33 : ∀ (T0 : State) (locs : List Loc) (x0 : Int32) (x1 : Int32) (x2 : Int32), Stand p l e ({ frames := 0, cells := 0, slots := 0, locals := 0 } : Room) s m #[(.int p0), (.int p1)] below meth c T0 locs 0 0 → T0.heap = h0 → Fr n0 locs → f1_33 = f1_0 p0 p1 → own_Goes p e below s (own_Pure ((.int (f1_0 p0 p1))) h0 n0) ({ frames := 0, cells := 0, slots := 0, locals := 0 } : Room).cells ({ frames := 0, cells := 0, slots := 0, locals := 0 } : Room).slots T0 (mkF m 33 #[.val (.int x0), .val (.int x1), .val (.int x2)] []) := by
    intro T0 locs x0 x1 x2   X0 e0 N0 hf
    refine own_step (T' := T0) (g' := (mkF m 35 #[.val (.int x0), .val (.int x1), .val (.int x2)] [(.int (62 : Int32))])) (fun _ k => XS.bipush X0.here hx rfl (hb hby d1_33) k) ?_
    exact own_ret X0 Bd (v := some (.int ((62 : Int32).toUInt32.toUInt16.toUInt32.toInt32))) (fun q => by rw [Bd.returns] at q; cases q) (fun fs q => retN X0 hx (t := .char) Bd.returns (by simp) (hb hby d1_35) q) (show own_Pure ((.int (f1_0 p0 p1))) h0 n0 _ _ _ from ⟨congrArg (fun z => some (Value.int z)) hf, N0, e0⟩) (by decide) (by decide)
  have B28 : ∀ (T0 : State) (locs : List Loc) (x0 : Int32) (x1 : Int32) (x2 : Int32), Stand p l e ({ frames := 0, cells := 0, slots := 0, locals := 0 } : Room) s m #[(.int p0), (.int p1)] below meth c T0 locs 0 0 → T0.heap = h0 → Fr n0 locs → f1_28 x1 x2 = f1_0 p0 p1 → own_Goes p e below s (own_Pure ((.int (f1_0 p0 p1))) h0 n0) ({ frames := 0, cells := 0, slots := 0, locals := 0 } : Room).cells ({ frames := 0, cells := 0, slots := 0, locals := 0 } : Room).slots T0 (mkF m 28 #[.val (.int x0), .val (.int x1), .val (.int x2)] []) := by
    intro T0 locs x0 x1 x2   X0 e0 N0 hf
    refine own_step (T' := T0) (g' := (mkF m 29 #[.val (.int x0), .val (.int x1), .val (.int x2)] [(.int x2)])) (fun _ k => XS.iloadN X0.here hx rfl (hb hby d1_28) rfl k) ?_
    refine own_step (T' := T0) (g' := (mkF m 30 #[.val (.int x0), .val (.int x1), .val (.int x2)] [(.int (3 : Int32)), (.int x2)])) (fun _ k => XS.iconst X0.here hx rfl (hb hby d1_29) k) ?_
    by_cases hc : x2 = (3 : Int32)
    · refine own_step (T' := T0) (g' := (mkF m 33 #[.val (.int x0), .val (.int x1), .val (.int x2)] [])) (fun _ k => XS.icmpNo X0.here hx rfl (hb hby d1_30) rfl (teq hc).2 k) ?_
      exact B33 T0 _ x0 x1 x2   X0 e0 N0 ((if_pos hc).symm.trans hf)
    · refine own_step (T' := T0) (g' := (mkF m 36 #[.val (.int x0), .val (.int x1), .val (.int x2)] [])) (fun _ k => XS.icmpYes X0.here hx rfl (pc0 := 30) (pc' := 36) rfl (hb hby d1_30) rfl (feq hc).2 (by decide) (by decide) k) ?_
      exact B36 T0 _ x0 x1 x2   X0 e0 N0 ((if_neg hc).symm.trans hf)
  have B25 : ∀ (T0 : State) (locs : List Loc) (x0 : Int32) (x1 : Int32) (x2 : Int32), Stand p l e ({ frames := 0, cells := 0, slots := 0, locals := 0 } : Room) s m #[(.int p0), (.int p1)] below meth c T0 locs 0 0 → T0.heap = h0 → Fr n0 locs → f1_25 = f1_0 p0 p1 → own_Goes p e below s (own_Pure ((.int (f1_0 p0 p1))) h0 n0) ({ frames := 0, cells := 0, slots := 0, locals := 0 } : Room).cells ({ frames := 0, cells := 0, slots := 0, locals := 0 } : Room).slots T0 (mkF m 25 #[.val (.int x0), .val (.int x1), .val (.int x2)] []) := by
    intro T0 locs x0 x1 x2   X0 e0 N0 hf
    refine own_step (T' := T0) (g' := (mkF m 27 #[.val (.int x0), .val (.int x1), .val (.int x2)] [(.int (34 : Int32))])) (fun _ k => XS.bipush X0.here hx rfl (hb hby d1_25) k) ?_
    exact own_ret X0 Bd (v := some (.int ((34 : Int32).toUInt32.toUInt16.toUInt32.toInt32))) (fun q => by rw [Bd.returns] at q; cases q) (fun fs q => retN X0 hx (t := .char) Bd.returns (by simp) (hb hby d1_27) q) (show own_Pure ((.int (f1_0 p0 p1))) h0 n0 _ _ _ from ⟨congrArg (fun z => some (Value.int z)) hf, N0, e0⟩) (by decide) (by decide)
  have B20 : ∀ (T0 : State) (locs : List Loc) (x0 : Int32) (x1 : Int32) (x2 : Int32), Stand p l e ({ frames := 0, cells := 0, slots := 0, locals := 0 } : Room) s m #[(.int p0), (.int p1)] below meth c T0 locs 0 0 → T0.heap = h0 → Fr n0 locs → f1_20 x1 x2 = f1_0 p0 p1 → own_Goes p e below s (own_Pure ((.int (f1_0 p0 p1))) h0 n0) ({ frames := 0, cells := 0, slots := 0, locals := 0 } : Room).cells ({ frames := 0, cells := 0, slots := 0, locals := 0 } : Room).slots T0 (mkF m 20 #[.val (.int x0), .val (.int x1), .val (.int x2)] []) := by
    intro T0 locs x0 x1 x2   X0 e0 N0 hf
    refine own_step (T' := T0) (g' := (mkF m 21 #[.val (.int x0), .val (.int x1), .val (.int x2)] [(.int x2)])) (fun _ k => XS.iloadN X0.here hx rfl (hb hby d1_20) rfl k) ?_
    refine own_step (T' := T0) (g' := (mkF m 22 #[.val (.int x0), .val (.int x1), .val (.int x2)] [(.int (2 : Int32)), (.int x2)])) (fun _ k => XS.iconst X0.here hx rfl (hb hby d1_21) k) ?_
    by_cases hc : x2 = (2 : Int32)
    · refine own_step (T' := T0) (g' := (mkF m 25 #[.val (.int x0), .val (.int x1), .val (.int x2)] [])) (fun _ k => XS.icmpNo X0.here hx rfl (hb hby d1_22) rfl (teq hc).2 k) ?_
      exact B25 T0 _ x0 x1 x2   X0 e0 N0 ((if_pos hc).symm.trans hf)
    · refine own_step (T' := T0) (g' := (mkF m 28 #[.val (.int x0), .val (.int x1), .val (.int x2)] [])) (fun _ k => XS.icmpYes X0.here hx rfl (pc0 := 22) (pc' := 28) rfl (hb hby d1_22) rfl (feq hc).2 (by decide) (by decide) k) ?_
      exact B28 T0 _ x0 x1 x2   X0 e0 N0 ((if_neg hc).symm.trans hf)
  have B17 : ∀ (T0 : State) (locs : List Loc) (x0 : Int32) (x1 : Int32) (x2 : Int32), Stand p l e ({ frames := 0, cells := 0, slots := 0, locals := 0 } : Room) s m #[(.int p0), (.int p1)] below meth c T0 locs 0 0 → T0.heap = h0 → Fr n0 locs → f1_17 = f1_0 p0 p1 → own_Goes p e below s (own_Pure ((.int (f1_0 p0 p1))) h0 n0) ({ frames := 0, cells := 0, slots := 0, locals := 0 } : Room).cells ({ frames := 0, cells := 0, slots := 0, locals := 0 } : Room).slots T0 (mkF m 17 #[.val (.int x0), .val (.int x1), .val (.int x2)] []) := by
    intro T0 locs x0 x1 x2   X0 e0 N0 hf
    refine own_step (T' := T0) (g' := (mkF m 19 #[.val (.int x0), .val (.int x1), .val (.int x2)] [(.int (9 : Int32))])) (fun _ k => XS.bipush X0.here hx rfl (hb hby d1_17) k) ?_
    exact own_ret X0 Bd (v := some (.int ((9 : Int32).toUInt32.toUInt16.toUInt32.toInt32))) (fun q => by rw [Bd.returns] at q; cases q) (fun fs q => retN X0 hx (t := .char) Bd.returns (by simp) (hb hby d1_19) q) (show own_Pure ((.int (f1_0 p0 p1))) h0 n0 _ _ _ from ⟨congrArg (fun z => some (Value.int z)) hf, N0, e0⟩) (by decide) (by decide)
  have B12 : ∀ (T0 : State) (locs : List Loc) (x0 : Int32) (x1 : Int32) (x2 : Int32), Stand p l e ({ frames := 0, cells := 0, slots := 0, locals := 0 } : Room) s m #[(.int p0), (.int p1)] below meth c T0 locs 0 0 → T0.heap = h0 → Fr n0 locs → f1_12 x1 x2 = f1_0 p0 p1 → own_Goes p e below s (own_Pure ((.int (f1_0 p0 p1))) h0 n0) ({ frames := 0, cells := 0, slots := 0, locals := 0 } : Room).cells ({ frames := 0, cells := 0, slots := 0, locals := 0 } : Room).slots T0 (mkF m 12 #[.val (.int x0), .val (.int x1), .val (.int x2)] []) := by
    intro T0 locs x0 x1 x2   X0 e0 N0 hf
    refine own_step (T' := T0) (g' := (mkF m 13 #[.val (.int x0), .val (.int x1), .val (.int x2)] [(.int x2)])) (fun _ k => XS.iloadN X0.here hx rfl (hb hby d1_12) rfl k) ?_
    refine own_step (T' := T0) (g' := (mkF m 14 #[.val (.int x0), .val (.int x1), .val (.int x2)] [(.int (1 : Int32)), (.int x2)])) (fun _ k => XS.iconst X0.here hx rfl (hb hby d1_13) k) ?_
    by_cases hc : x2 = (1 : Int32)
    · refine own_step (T' := T0) (g' := (mkF m 17 #[.val (.int x0), .val (.int x1), .val (.int x2)] [])) (fun _ k => XS.icmpNo X0.here hx rfl (hb hby d1_14) rfl (teq hc).2 k) ?_
      exact B17 T0 _ x0 x1 x2   X0 e0 N0 ((if_pos hc).symm.trans hf)
    · refine own_step (T' := T0) (g' := (mkF m 20 #[.val (.int x0), .val (.int x1), .val (.int x2)] [])) (fun _ k => XS.icmpYes X0.here hx rfl (pc0 := 14) (pc' := 20) rfl (hb hby d1_14) rfl (feq hc).2 (by decide) (by decide) k) ?_
      exact B20 T0 _ x0 x1 x2   X0 e0 N0 ((if_neg hc).symm.trans hf)
  have B9 : ∀ (T0 : State) (locs : List Loc) (x0 : Int32) (x1 : Int32) (x2 : Int32), Stand p l e ({ frames := 0, cells := 0, slots := 0, locals := 0 } : Room) s m #[(.int p0), (.int p1)] below meth c T0 locs 0 0 → T0.heap = h0 → Fr n0 locs → f1_9 = f1_0 p0 p1 → own_Goes p e below s (own_Pure ((.int (f1_0 p0 p1))) h0 n0) ({ frames := 0, cells := 0, slots := 0, locals := 0 } : Room).cells ({ frames := 0, cells := 0, slots := 0, locals := 0 } : Room).slots T0 (mkF m 9 #[.val (.int x0), .val (.int x1), .val (.int x2)] []) := by
    intro T0 locs x0 x1 x2   X0 e0 N0 hf
    refine own_step (T' := T0) (g' := (mkF m 11 #[.val (.int x0), .val (.int x1), .val (.int x2)] [(.int (32 : Int32))])) (fun _ k => XS.bipush X0.here hx rfl (hb hby d1_9) k) ?_
    exact own_ret X0 Bd (v := some (.int ((32 : Int32).toUInt32.toUInt16.toUInt32.toInt32))) (fun q => by rw [Bd.returns] at q; cases q) (fun fs q => retN X0 hx (t := .char) Bd.returns (by simp) (hb hby d1_11) q) (show own_Pure ((.int (f1_0 p0 p1))) h0 n0 _ _ _ from ⟨congrArg (fun z => some (Value.int z)) hf, N0, e0⟩) (by decide) (by decide)
  have B0 : ∀ (T0 : State) (locs : List Loc) (x0 : Int32) (x1 : Int32), Stand p l e ({ frames := 0, cells := 0, slots := 0, locals := 0 } : Room) s m #[(.int p0), (.int p1)] below meth c T0 locs 0 0 → T0.heap = h0 → Fr n0 locs → f1_0 x0 x1 = f1_0 p0 p1 → own_Goes p e below s (own_Pure ((.int (f1_0 p0 p1))) h0 n0) ({ frames := 0, cells := 0, slots := 0, locals := 0 } : Room).cells ({ frames := 0, cells := 0, slots := 0, locals := 0 } : Room).slots T0 (mkF m 0 #[.val (.int x0), .val (.int x1), .unset] []) := by
    intro T0 locs x0 x1   X0 e0 N0 hf
    refine own_step (T' := T0) (g' := (mkF m 1 #[.val (.int x0), .val (.int x1), .unset] [(.int x0)])) (fun _ k => XS.iloadN X0.here hx rfl (hb hby d1_0) rfl k) ?_
    refine own_step (T' := T0) (g' := (mkF m 3 #[.val (.int x0), .val (.int x1), .unset] [(.int (15 : Int32)), (.int x0)])) (fun _ k => XS.bipush X0.here hx rfl (hb hby d1_1) k) ?_
    refine own_step (T' := T0) (g' := (mkF m 4 #[.val (.int x0), .val (.int x1), .unset] [(.int (x0 &&& (15 : Int32)))])) (fun _ k => XS.iand X0.here hx rfl (hb hby d1_3) rfl k) ?_
    refine own_step (T' := T0) (g' := (mkF m 5 #[.val (.int x0), .val (.int x1), .val (.int (x0 &&& (15 : Int32)))] [])) (fun _ k => XS.istoreN X0.here hx rfl (hb hby d1_4) rfl (l' := #[.val (.int x0), .val (.int x1), .val (.int (x0 &&& (15 : Int32)))]) rfl k) ?_
    refine own_step (T' := T0) (g' := (mkF m 6 #[.val (.int x0), .val (.int x1), .val (.int (x0 &&& (15 : Int32)))] [(.int (x0 &&& (15 : Int32)))])) (fun _ k => XS.iloadN X0.here hx rfl (hb hby d1_5) rfl k) ?_
    by_cases hc : (x0 &&& (15 : Int32)) = (0 : Int32)
    · refine own_step (T' := T0) (g' := (mkF m 9 #[.val (.int x0), .val (.int x1), .val (.int (x0 &&& (15 : Int32)))] [])) (fun _ k => XS.ifNo X0.here hx rfl (hb hby d1_6) rfl ((if0 _ _).trans (teq hc).2) k) ?_
      exact B9 T0 _ x0 x1 (x0 &&& (15 : Int32))   X0 e0 N0 ((if_pos hc).symm.trans hf)
    · refine own_step (T' := T0) (g' := (mkF m 12 #[.val (.int x0), .val (.int x1), .val (.int (x0 &&& (15 : Int32)))] [])) (fun _ k => XS.ifYes X0.here hx rfl (pc0 := 6) (pc' := 12) rfl (hb hby d1_6) rfl ((if0 _ _).trans (feq hc).2) (by decide) (by decide) k) ?_
      exact B12 T0 _ x0 x1 (x0 &&& (15 : Int32))   X0 e0 N0 ((if_neg hc).symm.trans hf)
  have hB := B0 s₁ [] p0 p1  X00 e00 (Fr.nil n0) rfl
  obtain ⟨s₂, o, q1, q2, q3, v, L, q4, q5, q6⟩ := hB
  exact ⟨s₂, o, castTop (ef_1 m p0 p1) q1, q2, q3, v, L, q4, q5, q6⟩
set_option maxRecDepth 65536 in
set_option maxHeartbeats 40000000 in
theorem rm2 (l : Launch) (Z : State) (a0 : Array Value) (hw : ∀ d ∈ tables_1, d.before a0 Z = true) (ws : List Jvm.Cond) (p0 : Int32) (p1 : Int32) (h0 : Heap) (n0 : Nat) (Z0 : n0 ≤ h0.size) :
    MetFree l (⟨"com/example/stanzary/stanzary/dialect/angle/AngleSyntax", "endsBare", "(CZ)Z"⟩ : MethodName) (head1 (Jvm.Cond.code (⟨"com/example/stanzary/stanzary/dialect/angle/AngleSyntax", "endsBare", "(CZ)Z"⟩ : MethodName) prog_4_method_6_code 2 (some .boolean) :: ws) ({ frames := 0, cells := 0, slots := 0, locals := 0 } : Room)) (fun a U => a = #[(.int p0), (.int p1)] ∧ Z.Warmed39 U.vm ∧ U.heap = h0) (fun _ _ _ _ _ => True) (fun _ U o U' => ∃ v L, o = .returned v ∧ own_Pure ((.int (f2_0 p0 p1))) h0 n0 v U'.heap L ∧ FrameEnd U o U' L ({ frames := 0, cells := 0, slots := 0, locals := 0 } : Room).cells ({ frames := 0, cells := 0, slots := 0, locals := 0 } : Room).slots) := by
  refine MetFree.of_bodySF (plainFor_of_name pn_2) hisR ?_
  intro p e s m args below meth c s₁ Bd hml0 hP hK
  obtain ⟨rfl, hZ, hh0⟩ := hP
  have hx := Bd.exec
  have hby := Bd.bytes
  have hml : c.maxLocals = 2 := hml0
  have hown : s.vm.findClass "com/example/stanzary/stanzary/dialect/angle/AngleSyntax" = some m.cls := findClass_of_methodNamed Bd.named
  have X00 : Stand p l e ({ frames := 0, cells := 0, slots := 0, locals := 0 } : Room) s m #[(.int p0), (.int p1)] below meth c s₁ [] 0 0 := Stand.of_body Bd
  have e00 : s₁.heap = h0 := by rw [← hh0, Bd.state]; rfl
  have B33 : ∀ (T0 : State) (locs : List Loc) (x0 : Int32) (x1 : Int32) (t0 : Int32), Stand p l e ({ frames := 0, cells := 0, slots := 0, locals := 0 } : Room) s m #[(.int p0), (.int p1)] below meth c T0 locs 0 0 → T0.heap = h0 → Fr n0 locs → f2_33 t0 = f2_0 p0 p1 → own_Goes p e below s (own_Pure ((.int (f2_0 p0 p1))) h0 n0) ({ frames := 0, cells := 0, slots := 0, locals := 0 } : Room).cells ({ frames := 0, cells := 0, slots := 0, locals := 0 } : Room).slots T0 (mkF m 33 #[.val (.int x0), .val (.int x1)] [(.int t0)]) := by
    intro T0 locs x0 x1 t0   X0 e0 N0 hf
    exact own_ret X0 Bd (v := some (.int (t0 &&& 1))) (fun q => by rw [Bd.returns] at q; cases q) (fun fs q => retN X0 hx (t := .boolean) Bd.returns (by simp) (hb hby d2_33) q) (show own_Pure ((.int (f2_0 p0 p1))) h0 n0 _ _ _ from ⟨congrArg (fun z => some (Value.int z)) hf, N0, e0⟩) (by decide) (by decide)
  have B32 : ∀ (T0 : State) (locs : List Loc) (x0 : Int32) (x1 : Int32), Stand p l e ({ frames := 0, cells := 0, slots := 0, locals := 0 } : Room) s m #[(.int p0), (.int p1)] below meth c T0 locs 0 0 → T0.heap = h0 → Fr n0 locs → f2_32 = f2_0 p0 p1 → own_Goes p e below s (own_Pure ((.int (f2_0 p0 p1))) h0 n0) ({ frames := 0, cells := 0, slots := 0, locals := 0 } : Room).cells ({ frames := 0, cells := 0, slots := 0, locals := 0 } : Room).slots T0 (mkF m 32 #[.val (.int x0), .val (.int x1)] []) := by
    intro T0 locs x0 x1   X0 e0 N0 hf
    refine own_step (T' := T0) (g' := (mkF m 33 #[.val (.int x0), .val (.int x1)] [(.int (0 : Int32))])) (fun _ k => XS.iconst X0.here hx rfl (hb hby d2_32) k) ?_
    exact B33 T0 _ x0 x1 (0 : Int32)   X0 e0 N0 hf
  have B28 : ∀ (T0 : State) (locs : List Loc) (x0 : Int32) (x1 : Int32), Stand p l e ({ frames := 0, cells := 0, slots := 0, locals := 0 } : Room) s m #[(.int p0), (.int p1)] below meth c T0 locs 0 0 → T0.heap = h0 → Fr n0 locs → f2_28 = f2_0 p0 p1 → own_Goes p e below s (own_Pure ((.int (f2_0 p0 p1))) h0 n0) ({ frames := 0, cells := 0, slots := 0, locals := 0 } : Room).cells ({ frames := 0, cells := 0, slots := 0, locals := 0 } : Room).slots T0 (mkF m 28 #[.val (.int x0), .val (.int x1)] []) := by
    intro T0 locs x0 x1   X0 e0 N0 hf
    refine own_step (T' := T0) (g' := (mkF m 29 #[.val (.int x0), .val (.int x1)] [(.int (1 : Int32))])) (fun _ k => XS.iconst X0.here hx rfl (hb hby d2_28) k) ?_
    refine own_step (T' := T0) (g' := (mkF m 33 #[.val (.int x0), .val (.int x1)] [(.int (1 : Int32))])) (fun _ k => XS.goto X0.here hx rfl (pc0 := 29) (pc' := 33) rfl (hb hby d2_29) (by decide) (by decide) k) ?_
    exact B33 T0 _ x0 x1 (1 : Int32)   X0 e0 N0 hf
  have B22 : ∀ (T0 : State) (locs : List Loc) (x0 : Int32) (x1 : Int32), Stand p l e ({ frames := 0, cells := 0, slots := 0, locals := 0 } : Room) s m #[(.int p0), (.int p1)] below meth c T0 locs 0 0 → T0.heap = h0 → Fr n0 locs → f2_22 x0 = f2_0 p0 p1 → own_Goes p e below s (own_Pure ((.int (f2_0 p0 p1))) h0 n0) ({ frames := 0, cells := 0, slots := 0, locals := 0 } : Room).cells ({ frames := 0, cells := 0, slots := 0, locals := 0 } : Room).slots T0 (mkF m 22 #[.val (.int x0), .val (.int x1)] []) := by
    intro T0 locs x0 x1   X0 e0 N0 hf
    refine own_step (T' := T0) (g' := (mkF m 23 #[.val (.int x0), .val (.int x1)] [(.int x0)])) (fun _ k => XS.iloadN X0.here hx rfl (hb hby d2_22) rfl k) ?_
    refine own_step (T' := T0) (g' := (mkF m 25 #[.val (.int x0), .val (.int x1)] [(.int (62 : Int32)), (.int x0)])) (fun _ k => XS.bipush X0.here hx rfl (hb hby d2_23) k) ?_
    by_cases hc : x0 = (62 : Int32)
    · refine own_step (T' := T0) (g' := (mkF m 28 #[.val (.int x0), .val (.int x1)] [])) (fun _ k => XS.icmpNo X0.here hx rfl (hb hby d2_25) rfl (teq hc).2 k) ?_
      exact B28 T0 _ x0 x1   X0 e0 N0 ((if_pos hc).symm.trans hf)
    · refine own_step (T' := T0) (g' := (mkF m 32 #[.val (.int x0), .val (.int x1)] [])) (fun _ k => XS.icmpYes X0.here hx rfl (pc0 := 25) (pc' := 32) rfl (hb hby d2_25) rfl (feq hc).2 (by decide) (by decide) k) ?_
      exact B32 T0 _ x0 x1   X0 e0 N0 ((if_neg hc).symm.trans hf)
  have B18 : ∀ (T0 : State) (locs : List Loc) (x0 : Int32) (x1 : Int32), Stand p l e ({ frames := 0, cells := 0, slots := 0, locals := 0 } : Room) s m #[(.int p0), (.int p1)] below meth c T0 locs 0 0 → T0.heap = h0 → Fr n0 locs → f2_18 x0 x1 = f2_0 p0 p1 → own_Goes p e below s (own_Pure ((.int (f2_0 p0 p1))) h0 n0) ({ frames := 0, cells := 0, slots := 0, locals := 0 } : Room).cells ({ frames := 0, cells := 0, slots := 0, locals := 0 } : Room).slots T0 (mkF m 18 #[.val (.int x0), .val (.int x1)] []) := by
    intro T0 locs x0 x1   X0 e0 N0 hf
    refine own_step (T' := T0) (g' := (mkF m 19 #[.val (.int x0), .val (.int x1)] [(.int x1)])) (fun _ k => XS.iloadN X0.here hx rfl (hb hby d2_18) rfl k) ?_
    by_cases hc : x1 = (0 : Int32)
    · refine own_step (T' := T0) (g' := (mkF m 32 #[.val (.int x0), .val (.int x1)] [])) (fun _ k => XS.ifYes X0.here hx rfl (pc0 := 19) (pc' := 32) rfl (hb hby d2_19) rfl ((if0 _ _).trans (teq hc).1) (by decide) (by decide) k) ?_
      exact B32 T0 _ x0 x1   X0 e0 N0 ((if_pos hc).symm.trans hf)
    · refine own_step (T' := T0) (g' := (mkF m 22 #[.val (.int x0), .val (.int x1)] [])) (fun _ k => XS.ifNo X0.here hx rfl (hb hby d2_19) rfl ((if0 _ _).trans (feq hc).1) k) ?_
      exact B22 T0 _ x0 x1   X0 e0 N0 ((if_neg hc).symm.trans hf)
  have B12 : ∀ (T0 : State) (locs : List Loc) (x0 : Int32) (x1 : Int32), Stand p l e ({ frames := 0, cells := 0, slots := 0, locals := 0 } : Room) s m #[(.int p0), (.int p1)] below meth c T0 locs 0 0 → T0.heap = h0 → Fr n0 locs → f2_12 x0 x1 = f2_0 p0 p1 → own_Goes p e below s (own_Pure ((.int (f2_0 p0 p1))) h0 n0) ({ frames := 0, cells := 0, slots := 0, locals := 0 } : Room).cells ({ frames := 0, cells := 0, slots := 0, locals := 0 } : Room).slots T0 (mkF m 12 #[.val (.int x0), .val (.int x1)] []) := by
    intro T0 locs x0 x1   X0 e0 N0 hf
    refine own_step (T' := T0) (g' := (mkF m 13 #[.val (.int x0), .val (.int x1)] [(.int x0)])) (fun _ k => XS.iloadN X0.here hx rfl (hb hby d2_12) rfl k) ?_
    refine own_step (T' := T0) (g' := (mkF m 15 #[.val (.int x0), .val (.int x1)] [(.int (34 : Int32)), (.int x0)])) (fun _ k => XS.bipush X0.here hx rfl (hb hby d2_13) k) ?_
    by_cases hc : x0 = (34 : Int32)
    · refine own_step (T' := T0) (g' := (mkF m 28 #[.val (.int x0), .val (.int x1)] [])) (fun _ k => XS.icmpYes X0.here hx rfl (pc0 := 15) (pc' := 28) rfl (hb hby d2_15) rfl (teq hc).1 (by decide) (by decide) k) ?_
      exact B28 T0 _ x0 x1   X0 e0 N0 ((if_pos hc).symm.trans hf)
    · refine own_step (T' := T0) (g' := (mkF m 18 #[.val (.int x0), .val (.int x1)] [])) (fun _ k => XS.icmpNo X0.here hx rfl (hb hby d2_15) rfl (feq hc).1 k) ?_
      exact B18 T0 _ x0 x1   X0 e0 N0 ((if_neg hc).symm.trans hf)
  have B6 : ∀ (T0 : State) (locs : List Loc) (x0 : Int32) (x1 : Int32), Stand p l e ({ frames := 0, cells := 0, slots := 0, locals := 0 } : Room) s m #[(.int p0), (.int p1)] below meth c T0 locs 0 0 → T0.heap = h0 → Fr n0 locs → f2_6 x0 x1 = f2_0 p0 p1 → own_Goes p e below s (own_Pure ((.int (f2_0 p0 p1))) h0 n0) ({ frames := 0, cells := 0, slots := 0, locals := 0 } : Room).cells ({ frames := 0, cells := 0, slots := 0, locals := 0 } : Room).slots T0 (mkF m 6 #[.val (.int x0), .val (.int x1)] []) := by
    intro T0 locs x0 x1   X0 e0 N0 hf
    refine own_step (T' := T0) (g' := (mkF m 7 #[.val (.int x0), .val (.int x1)] [(.int x0)])) (fun _ k => XS.iloadN X0.here hx rfl (hb hby d2_6) rfl k) ?_
    refine own_step (T' := T0) (g' := (mkF m 9 #[.val (.int x0), .val (.int x1)] [(.int (9 : Int32)), (.int x0)])) (fun _ k => XS.bipush X0.here hx rfl (hb hby d2_7) k) ?_
    by_cases hc : x0 = (9 : Int32)
    · refine own_step (T' := T0) (g' := (mkF m 28 #[.val (.int x0), .val (.int x1)] [])) (fun _ k => XS.icmpYes X0.here hx rfl (pc0 := 9) (pc' := 28) rfl (hb hby d2_9) rfl (teq hc).1 (by decide) (by decide) k) ?_
      exact B28 T0 _ x0 x1   X0 e0 N0 ((if_pos hc).symm.trans hf)
    · refine own_step (T' := T0) (g' := (mkF m 12 #[.val (.int x0), .val (.int x1)] [])) (fun _ k => XS.icmpNo X0.here hx rfl (hb hby d2_9) rfl (feq hc).1 k) ?_
      exact B12 T0 _ x0 x1   X0 e0 N0 ((if_neg hc).symm.trans hf)
  have B0 : ∀ (T0 : State) (locs : List Loc) (x0 : Int32) (x1 : Int32), Stand p l e ({ frames := 0, cells := 0, slots := 0, locals := 0 } : Room) s m #[(.int p0), (.int p1)] below meth c T0 locs 0 0 → T0.heap = h0 → Fr n0 locs → f2_0 x0 x1 = f2_0 p0 p1 → own_Goes p e below s (own_Pure ((.int (f2_0 p0 p1))) h0 n0) ({ frames := 0, cells := 0, slots := 0, locals := 0 } : Room).cells ({ frames := 0, cells := 0, slots := 0, locals := 0 } : Room).slots T0 (mkF m 0 #[.val (.int x0), .val (.int x1)] []) := by
    intro T0 locs x0 x1   X0 e0 N0 hf
    refine own_step (T' := T0) (g' := (mkF m 1 #[.val (.int x0), .val (.int x1)] [(.int x0)])) (fun _ k => XS.iloadN X0.here hx rfl (hb hby d2_0) rfl k) ?_
    refine own_step (T' := T0) (g' := (mkF m 3 #[.val (.int x0), .val (.int x1)] [(.int (32 : Int32)), (.int x0)])) (fun _ k => XS.bipush X0.here hx rfl (hb hby d2_1) k) ?_
    by_cases hc : x0 = (32 : Int32)
    · refine own_step (T' := T0) (g' := (mkF m 28 #[.val (.int x0), .val (.int x1)] [])) (fun _ k => XS.icmpYes X0.here hx rfl (pc0 := 3) (pc' := 28) rfl (hb hby d2_3) rfl (teq hc).1 (by decide) (by decide) k) ?_
      exact B28 T0 _ x0 x1   X0 e0 N0 ((if_pos hc).symm.trans hf)
    · refine own_step (T' := T0) (g' := (mkF m 6 #[.val (.int x0), .val (.int x1)] [])) (fun _ k => XS.icmpNo X0.here hx rfl (hb hby d2_3) rfl (feq hc).1 k) ?_
      exact B6 T0 _ x0 x1   X0 e0 N0 ((if_neg hc).symm.trans hf)
  have hB := B0 s₁ [] p0 p1  X00 e00 (Fr.nil n0) rfl
  obtain ⟨s₂, o, q1, q2, q3, v, L, q4, q5, q6⟩ := hB
  exact ⟨s₂, o, castTop (ef_2 m p0 p1) q1, q2, q3, v, L, q4, q5, q6⟩
set_option maxRecDepth 65536 in
set_option maxHeartbeats 40000000 in
theorem rm3 (l : Launch) (Z : State) (a0 : Array Value) (hw : ∀ d ∈ tables_1, d.before a0 Z = true) (ws : List Jvm.Cond) (p0 : Int32) (h0 : Heap) (n0 : Nat) (Z0 : n0 ≤ h0.size) :
    MetFree l (⟨"com/example/stanzary/stanzary/dialect/angle/AngleSyntax", "isBlank", "(C)Z"⟩ : MethodName) (head1 (Jvm.Cond.code (⟨"com/example/stanzary/stanzary/dialect/angle/AngleSyntax", "isBlank", "(C)Z"⟩ : MethodName) prog_4_method_7_code 1 (some .boolean) :: ws) ({ frames := 0, cells := 0, slots := 0, locals := 0 } : Room)) (fun a U => a = #[(.int p0)] ∧ Z.Warmed39 U.vm ∧ U.heap = h0) (fun _ _ _ _ _ => True) (fun _ U o U' => ∃ v L, o = .returned v ∧ own_Pure ((.int (f3_0 p0))) h0 n0 v U'.heap L ∧ FrameEnd U o U' L ({ frames := 0, cells := 0, slots := 0, locals := 0 } : Room).cells ({ frames := 0, cells := 0, slots := 0, locals := 0 } : Room).slots) := by
  refine MetFree.of_bodySF (plainFor_of_name pn_3) hisR ?_
  intro p e s m args below meth c s₁ Bd hml0 hP hK
  obtain ⟨rfl, hZ, hh0⟩ := hP
  have hx := Bd.exec
  have hby := Bd.bytes
  have hml : c.maxLocals = 1 := hml0
  have hown : s.vm.findClass "com/example/stanzary/stanzary/dialect/angle/AngleSyntax" = some m.cls := findClass_of_methodNamed Bd.named
  have X00 : Stand p l e ({ frames := 0, cells := 0, slots := 0, locals := 0 } : Room) s m #[(.int p0)] below meth c s₁ [] 0 0 := Stand.of_body Bd
  have e00 : s₁.heap = h0 := by rw [← hh0, Bd.state]; rfl
  have B17 : ∀ (T0 : State) (locs : List Loc) (x0 : Int32) (t0 : Int32), Stand p l e ({ frames := 0, cells := 0, slots := 0, locals := 0 } : Room) s m #[(.int p0)] below meth c T0 locs 0 0 → T0.heap = h0 → Fr n0 locs → f3_17 t0 = f3_0 p0 → own_Goes p e below s (own_Pure ((.int (f3_0 p0))) h0 n0) ({ frames := 0, cells := 0, slots := 0, locals := 0 } : Room).cells ({ frames := 0, cells := 0, slots := 0, locals := 0 } : Room).slots T0 (mkF m 17 #[.val (.int x0)] [(.int t0)]) := by
    intro T0 locs x0 t0   X0 e0 N0 hf
    exact own_ret X0 Bd (v := some (.int (t0 &&& 1))) (fun q => by rw [Bd.returns] at q; cases q) (fun fs q => retN X0 hx (t := .boolean) Bd.returns (by simp) (hb hby d3_17) q) (show own_Pure ((.int (f3_0 p0))) h0 n0 _ _ _ from ⟨congrArg (fun z => some (Value.int z)) hf, N0, e0⟩) (by decide) (by decide)
  have B16 : ∀ (T0 : State) (locs : List Loc) (x0 : Int32), Stand p l e ({ frames := 0, cells := 0, slots := 0, locals := 0 } : Room) s m #[(.int p0)] below meth c T0 locs 0 0 → T0.heap = h0 → Fr n0 locs → f3_16 = f3_0 p0 → own_Goes p e below s (own_Pure ((.int (f3_0 p0))) h0 n0) ({ frames := 0, cells := 0, slots := 0, locals := 0 } : Room).cells ({ frames := 0, cells := 0, slots := 0, locals := 0 } : Room).slots T0 (mkF m 16 #[.val (.int x0)] []) := by
    intro T0 locs x0   X0 e0 N0 hf
    refine own_step (T' := T0) (g' := (mkF m 17 #[.val (.int x0)] [(.int (0 : Int32))])) (fun _ k => XS.iconst X0.here hx rfl (hb hby d3_16) k) ?_
    exact B17 T0 _ x0 (0 : Int32)   X0 e0 N0 hf
  have B12 : ∀ (T0 : State) (locs : List Loc) (x0 : Int32), Stand p l e ({ frames := 0, cells := 0, slots := 0, locals := 0 } : Room) s m #[(.int p0)] below meth c T0 locs 0 0 → T0.heap = h0 → Fr n0 locs → f3_12 = f3_0 p0 → own_Goes p e below s (own_Pure ((.int (f3_0 p0))) h0 n0) ({ frames := 0, cells := 0, slots := 0, locals := 0 } : Room).cells ({ frames := 0, cells := 0, slots := 0, locals := 0 } : Room).slots T0 (mkF m 12 #[.val (.int x0)] []) := by
    intro T0 locs x0   X0 e0 N0 hf
    refine own_step (T' := T0) (g' := (mkF m 13 #[.val (.int x0)] [(.int (1 : Int32))])) (fun _ k => XS.iconst X0.here hx rfl (hb hby d3_12) k) ?_
    refine own_step (T' := T0) (g' := (mkF m 17 #[.val (.int x0)] [(.int (1 : Int32))])) (fun _ k => XS.goto X0.here hx rfl (pc0 := 13) (pc' := 17) rfl (hb hby d3_13) (by decide) (by decide) k) ?_
    exact B17 T0 _ x0 (1 : Int32)   X0 e0 N0 hf
  have B6 : ∀ (T0 : State) (locs : List Loc) (x0 : Int32), Stand p l e ({ frames := 0, cells := 0, slots := 0, locals := 0 } : Room) s m #[(.int p0)] below meth c T0 locs 0 0 → T0.heap = h0 → Fr n0 locs → f3_6 x0 = f3_0 p0 → own_Goes p e below s (own_Pure ((.int (f3_0 p0))) h0 n0) ({ frames := 0, cells := 0, slots := 0, locals := 0 } : Room).cells ({ frames := 0, cells := 0, slots := 0, locals := 0 } : Room).slots T0 (mkF m 6 #[.val (.int x0)] []) := by
    intro T0 locs x0   X0 e0 N0 hf
    refine own_step (T' := T0) (g' := (mkF m 7 #[.val (.int x0)] [(.int x0)])) (fun _ k => XS.iloadN X0.here hx rfl (hb hby d3_6) rfl k) ?_
    refine own_step (T' := T0) (g' := (mkF m 9 #[.val (.int x0)] [(.int (9 : Int32)), (.int x0)])) (fun _ k => XS.bipush X0.here hx rfl (hb hby d3_7) k) ?_
    by_cases hc : x0 = (9 : Int32)
    · refine own_step (T' := T0) (g' := (mkF m 12 #[.val (.int x0)] [])) (fun _ k => XS.icmpNo X0.here hx rfl (hb hby d3_9) rfl (teq hc).2 k) ?_
      exact B12 T0 _ x0   X0 e0 N0 ((if_pos hc).symm.trans hf)
    · refine own_step (T' := T0) (g' := (mkF m 16 #[.val (.int x0)] [])) (fun _ k => XS.icmpYes X0.here hx rfl (pc0 := 9) (pc' := 16) rfl (hb hby d3_9) rfl (feq hc).2 (by decide) (by decide) k) ?_
      exact B16 T0 _ x0   X0 e0 N0 ((if_neg hc).symm.trans hf)
  have B0 : ∀ (T0 : State) (locs : List Loc) (x0 : Int32), Stand p l e ({ frames := 0, cells := 0, slots := 0, locals := 0 } : Room) s m #[(.int p0)] below meth c T0 locs 0 0 → T0.heap = h0 → Fr n0 locs → f3_0 x0 = f3_0 p0 → own_Goes p e below s (own_Pure ((.int (f3_0 p0))) h0 n0) ({ frames := 0, cells := 0, slots := 0, locals := 0 } : Room).cells ({ frames := 0, cells := 0, slots := 0, locals := 0 } : Room).slots T0 (mkF m 0 #[.val (.int x0)] []) := by
    intro T0 locs x0   X0 e0 N0 hf
    refine own_step (T' := T0) (g' := (mkF m 1 #[.val (.int x0)] [(.int x0)])) (fun _ k => XS.iloadN X0.here hx rfl (hb hby d3_0) rfl k) ?_
    refine own_step (T' := T0) (g' := (mkF m 3 #[.val (.int x0)] [(.int (32 : Int32)), (.int x0)])) (fun _ k => XS.bipush X0.here hx rfl (hb hby d3_1) k) ?_
    by_cases hc : x0 = (32 : Int32)
    · refine own_step (T' := T0) (g' := (mkF m 12 #[.val (.int x0)] [])) (fun _ k => XS.icmpYes X0.here hx rfl (pc0 := 3) (pc' := 12) rfl (hb hby d3_3) rfl (teq hc).1 (by decide) (by decide) k) ?_
      exact B12 T0 _ x0   X0 e0 N0 ((if_pos hc).symm.trans hf)
    · refine own_step (T' := T0) (g' := (mkF m 6 #[.val (.int x0)] [])) (fun _ k => XS.icmpNo X0.here hx rfl (hb hby d3_3) rfl (feq hc).1 k) ?_
      exact B6 T0 _ x0   X0 e0 N0 ((if_neg hc).symm.trans hf)
  have hB := B0 s₁ [] p0  X00 e00 (Fr.nil n0) rfl
  obtain ⟨s₂, o, q1, q2, q3, v, L, q4, q5, q6⟩ := hB
  exact ⟨s₂, o, castTop (ef_3 m p0) q1, q2, q3, v, L, q4, q5, q6⟩
set_option maxRecDepth 65536 in
set_option maxHeartbeats 40000000 in
theorem rm0 (l : Launch) (Z : State) (a0 : Array Value) (hw : ∀ d ∈ tables_1, d.before a0 Z = true) (ws : List Jvm.Cond) (p0 : Int32) (p1 : Int32) (h0 : Heap) (n0 : Nat) (Z0 : n0 ≤ h0.size) (hlaw : f0_0 p0 p1 = 1) :
    MetFree l x (head1 (Jvm.Cond.code x code maxLocals ret :: ws) room_1) (fun a U => a = #[(.int p0), (.int p1)] ∧ Z.Warmed39 U.vm ∧ U.heap = h0) (fun _ _ _ _ _ => True) (fun _ U o U' => ∃ v L, o = .returned v ∧ own_Law n0 v U'.heap L ∧ FrameEnd U o U' L 0 0) := by
  refine MetFree.of_bodySF (plainFor_of_name pn_0) hisR ?_
  intro p e s m args below meth c s₁ Bd hml0 hP hK
  obtain ⟨rfl, hZ, hh0⟩ := hP
  have hx := Bd.exec
  have hby := Bd.bytes
  have hml : c.maxLocals = 10 := hml0
  have hown : s.vm.findClass "com/example/stanzary/stanzary/dialect/angle/AngleSyntaxEndsBarePinLaw" = some m.cls := findClass_of_methodNamed Bd.named
  have X00 : Stand p l e room_1 s m #[(.int p0), (.int p1)] below meth c s₁ [] 0 0 := Stand.of_body Bd
  have e00 : s₁.heap = h0 := by rw [← hh0, Bd.state]; rfl
  have B112 : ∀ (T0 : State) (locs : List Loc) (x0 : Int32) (x1 : Int32) (x2 : Int32) (x3 : Int32) (x4 : Int32) (x5 : Int32) (x6 : Int32) (x7 : Int32) (x8 : Int32) (x9 : Int32) (t0 : Int32) (hh : Heap), n0 ≤ hh.size → Stand p l e room_1 s m #[(.int p0), (.int p1)] below meth c T0 locs 0 0 → T0.heap = hh → Fr n0 locs → f0_112 t0 = 1 → own_Goes p e below s (own_Law n0) 0 0 T0 (mkF m 112 #[.val (.int x0), .val (.int x1), .val (.int x2), .val (.int x3), .val (.int x4), .val (.int x5), .val (.int x6), .val (.int x7), .val (.int x8), .val (.int x9)] [(.int t0)]) := by
    intro T0 locs x0 x1 x2 x3 x4 x5 x6 x7 x8 x9 t0 hh Zh  X0 e0 N0 hf
    exact own_ret X0 Bd (v := some (.int (t0 &&& 1))) (fun q => by rw [Bd.returns] at q; cases q) (fun fs q => retN X0 hx (t := .boolean) Bd.returns (by simp) (hb hby at_112) q) (show own_Law n0 _ _ _ from ⟨congrArg (fun z => some (Value.int z)) hf, N0⟩) (by decide) (by decide)
  have B111 : ∀ (T0 : State) (locs : List Loc) (x0 : Int32) (x1 : Int32) (x2 : Int32) (x3 : Int32) (x4 : Int32) (x5 : Int32) (x6 : Int32) (x7 : Int32) (x8 : Int32) (x9 : Int32) (hh : Heap), n0 ≤ hh.size → Stand p l e room_1 s m #[(.int p0), (.int p1)] below meth c T0 locs 0 0 → T0.heap = hh → Fr n0 locs → f0_111 = 1 → own_Goes p e below s (own_Law n0) 0 0 T0 (mkF m 111 #[.val (.int x0), .val (.int x1), .val (.int x2), .val (.int x3), .val (.int x4), .val (.int x5), .val (.int x6), .val (.int x7), .val (.int x8), .val (.int x9)] []) := by
    intro T0 locs x0 x1 x2 x3 x4 x5 x6 x7 x8 x9 hh Zh  X0 e0 N0 hf
    refine own_step (T' := T0) (g' := (mkF m 112 #[.val (.int x0), .val (.int x1), .val (.int x2), .val (.int x3), .val (.int x4), .val (.int x5), .val (.int x6), .val (.int x7), .val (.int x8), .val (.int x9)] [(.int (0 : Int32))])) (fun _ k => XS.iconst X0.here hx rfl (hb hby at_111) k) ?_
    exact B112 T0 _ x0 x1 x2 x3 x4 x5 x6 x7 x8 x9 (0 : Int32) hh Zh  X0 e0 N0 hf
  have B107 : ∀ (T0 : State) (locs : List Loc) (x0 : Int32) (x1 : Int32) (x2 : Int32) (x3 : Int32) (x4 : Int32) (x5 : Int32) (x6 : Int32) (x7 : Int32) (x8 : Int32) (x9 : Int32) (hh : Heap), n0 ≤ hh.size → Stand p l e room_1 s m #[(.int p0), (.int p1)] below meth c T0 locs 0 0 → T0.heap = hh → Fr n0 locs → f0_107 = 1 → own_Goes p e below s (own_Law n0) 0 0 T0 (mkF m 107 #[.val (.int x0), .val (.int x1), .val (.int x2), .val (.int x3), .val (.int x4), .val (.int x5), .val (.int x6), .val (.int x7), .val (.int x8), .val (.int x9)] []) := by
    intro T0 locs x0 x1 x2 x3 x4 x5 x6 x7 x8 x9 hh Zh  X0 e0 N0 hf
    refine own_step (T' := T0) (g' := (mkF m 108 #[.val (.int x0), .val (.int x1), .val (.int x2), .val (.int x3), .val (.int x4), .val (.int x5), .val (.int x6), .val (.int x7), .val (.int x8), .val (.int x9)] [(.int (1 : Int32))])) (fun _ k => XS.iconst X0.here hx rfl (hb hby at_107) k) ?_
    refine own_step (T' := T0) (g' := (mkF m 112 #[.val (.int x0), .val (.int x1), .val (.int x2), .val (.int x3), .val (.int x4), .val (.int x5), .val (.int x6), .val (.int x7), .val (.int x8), .val (.int x9)] [(.int (1 : Int32))])) (fun _ k => XS.goto X0.here hx rfl (pc0 := 108) (pc' := 112) rfl (hb hby at_108) (by decide) (by decide) k) ?_
    exact B112 T0 _ x0 x1 x2 x3 x4 x5 x6 x7 x8 x9 (1 : Int32) hh Zh  X0 e0 N0 hf
  have B102 : ∀ (T0 : State) (locs : List Loc) (x0 : Int32) (x1 : Int32) (x2 : Int32) (x3 : Int32) (x4 : Int32) (x5 : Int32) (x6 : Int32) (x7 : Int32) (x8 : Int32) (x9 : Int32) (hh : Heap), n0 ≤ hh.size → Stand p l e room_1 s m #[(.int p0), (.int p1)] below meth c T0 locs 0 0 → T0.heap = hh → Fr n0 locs → f0_102 x9 = 1 → own_Goes p e below s (own_Law n0) 0 0 T0 (mkF m 102 #[.val (.int x0), .val (.int x1), .val (.int x2), .val (.int x3), .val (.int x4), .val (.int x5), .val (.int x6), .val (.int x7), .val (.int x8), .val (.int x9)] []) := by
    intro T0 locs x0 x1 x2 x3 x4 x5 x6 x7 x8 x9 hh Zh  X0 e0 N0 hf
    refine own_step (T' := T0) (g' := (mkF m 104 #[.val (.int x0), .val (.int x1), .val (.int x2), .val (.int x3), .val (.int x4), .val (.int x5), .val (.int x6), .val (.int x7), .val (.int x8), .val (.int x9)] [(.int x9)])) (fun _ k => XS.iload X0.here hx rfl (hb hby at_102) rfl k) ?_
    by_cases hc : x9 = (0 : Int32)
    · refine own_step (T' := T0) (g' := (mkF m 111 #[.val (.int x0), .val (.int x1), .val (.int x2), .val (.int x3), .val (.int x4), .val (.int x5), .val (.int x6), .val (.int x7), .val (.int x8), .val (.int x9)] [])) (fun _ k => XS.ifYes X0.here hx rfl (pc0 := 104) (pc' := 111) rfl (hb hby at_104) rfl ((if0 _ _).trans (teq hc).1) (by decide) (by decide) k) ?_
      exact B111 T0 _ x0 x1 x2 x3 x4 x5 x6 x7 x8 x9 hh Zh  X0 e0 N0 ((if_pos hc).symm.trans hf)
    · refine own_step (T' := T0) (g' := (mkF m 107 #[.val (.int x0), .val (.int x1), .val (.int x2), .val (.int x3), .val (.int x4), .val (.int x5), .val (.int x6), .val (.int x7), .val (.int x8), .val (.int x9)] [])) (fun _ k => XS.ifNo X0.here hx rfl (hb hby at_104) rfl ((if0 _ _).trans (feq hc).1) k) ?_
      exact B107 T0 _ x0 x1 x2 x3 x4 x5 x6 x7 x8 x9 hh Zh  X0 e0 N0 ((if_neg hc).symm.trans hf)
  have B95 : ∀ (T0 : State) (locs : List Loc) (x0 : Int32) (x1 : Int32) (x2 : Int32) (x3 : Int32) (x4 : Int32) (x5 : Int32) (x6 : Int32) (x7 : Int32) (x8 : Int32) (x9 : Int32) (hh : Heap), n0 ≤ hh.size → Stand p l e room_1 s m #[(.int p0), (.int p1)] below meth c T0 locs 0 0 → T0.heap = hh → Fr n0 locs → f0_95 x4 x8 x9 = 1 → own_Goes p e below s (own_Law n0) 0 0 T0 (mkF m 95 #[.val (.int x0), .val (.int x1), .val (.int x2), .val (.int x3), .val (.int x4), .val (.int x5), .val (.int x6), .val (.int x7), .val (.int x8), .val (.int x9)] []) := by
    intro T0 locs x0 x1 x2 x3 x4 x5 x6 x7 x8 x9 hh Zh  X0 e0 N0 hf
    refine own_step (T' := T0) (g' := (mkF m 97 #[.val (.int x0), .val (.int x1), .val (.int x2), .val (.int x3), .val (.int x4), .val (.int x5), .val (.int x6), .val (.int x7), .val (.int x8), .val (.int x9)] [(.int x4)])) (fun _ k => XS.iload X0.here hx rfl (hb hby at_95) rfl k) ?_
    refine own_step (T' := T0) (g' := (mkF m 99 #[.val (.int x0), .val (.int x1), .val (.int x2), .val (.int x3), .val (.int x4), .val (.int x5), .val (.int x6), .val (.int x7), .val (.int x8), .val (.int x9)] [(.int x8), (.int x4)])) (fun _ k => XS.iload X0.here hx rfl (hb hby at_97) rfl k) ?_
    by_cases hc : x4 = x8
    · refine own_step (T' := T0) (g' := (mkF m 102 #[.val (.int x0), .val (.int x1), .val (.int x2), .val (.int x3), .val (.int x4), .val (.int x5), .val (.int x6), .val (.int x7), .val (.int x8), .val (.int x9)] [])) (fun _ k => XS.icmpNo X0.here hx rfl (hb hby at_99) rfl (teq hc).2 k) ?_
      exact B102 T0 _ x0 x1 x2 x3 x4 x5 x6 x7 x8 x9 hh Zh  X0 e0 N0 ((if_pos hc).symm.trans hf)
    · refine own_step (T' := T0) (g' := (mkF m 111 #[.val (.int x0), .val (.int x1), .val (.int x2), .val (.int x3), .val (.int x4), .val (.int x5), .val (.int x6), .val (.int x7), .val (.int x8), .val (.int x9)] [])) (fun _ k => XS.icmpYes X0.here hx rfl (pc0 := 99) (pc' := 111) rfl (hb hby at_99) rfl (feq hc).2 (by decide) (by decide) k) ?_
      exact B111 T0 _ x0 x1 x2 x3 x4 x5 x6 x7 x8 x9 hh Zh  X0 e0 N0 ((if_neg hc).symm.trans hf)
  have B86 : ∀ (T0 : State) (locs : List Loc) (x0 : Int32) (x1 : Int32) (x2 : Int32) (x3 : Int32) (x4 : Int32) (x5 : Int32) (x6 : Int32) (x7 : Int32) (x8 : Int32) (t0 : Int32) (hh : Heap), n0 ≤ hh.size → Stand p l e room_1 s m #[(.int p0), (.int p1)] below meth c T0 locs 0 0 → T0.heap = hh → Fr n0 locs → f0_86 x4 x5 x7 x8 t0 = 1 → own_Goes p e below s (own_Law n0) 0 0 T0 (mkF m 86 #[.val (.int x0), .val (.int x1), .val (.int x2), .val (.int x3), .val (.int x4), .val (.int x5), .val (.int x6), .val (.int x7), .val (.int x8), .unset] [(.int t0)]) := by
    intro T0 locs x0 x1 x2 x3 x4 x5 x6 x7 x8 t0 hh Zh  X0 e0 N0 hf
    refine own_step (T' := T0) (g' := (mkF m 88 #[.val (.int x0), .val (.int x1), .val (.int x2), .val (.int x3), .val (.int x4), .val (.int x5), .val (.int x6), .val (.int x7), .val (.int x8), .val (.int t0)] [])) (fun _ k => XS.istore X0.here hx rfl (hb hby at_86) rfl (l' := #[.val (.int x0), .val (.int x1), .val (.int x2), .val (.int x3), .val (.int x4), .val (.int x5), .val (.int x6), .val (.int x7), .val (.int x8), .val (.int t0)]) rfl k) ?_
    refine own_step (T' := T0) (g' := (mkF m 90 #[.val (.int x0), .val (.int x1), .val (.int x2), .val (.int x3), .val (.int x4), .val (.int x5), .val (.int x6), .val (.int x7), .val (.int x8), .val (.int t0)] [(.int x5)])) (fun _ k => XS.iload X0.here hx rfl (hb hby at_88) rfl k) ?_
    refine own_step (T' := T0) (g' := (mkF m 92 #[.val (.int x0), .val (.int x1), .val (.int x2), .val (.int x3), .val (.int x4), .val (.int x5), .val (.int x6), .val (.int x7), .val (.int x8), .val (.int t0)] [(.int x7), (.int x5)])) (fun _ k => XS.iload X0.here hx rfl (hb hby at_90) rfl k) ?_
    by_cases hc : x5 = x7
    · refine own_step (T' := T0) (g' := (mkF m 95 #[.val (.int x0), .val (.int x1), .val (.int x2), .val (.int x3), .val (.int x4), .val (.int x5), .val (.int x6), .val (.int x7), .val (.int x8), .val (.int t0)] [])) (fun _ k => XS.icmpNo X0.here hx rfl (hb hby at_92) rfl (teq hc).2 k) ?_
      exact B95 T0 _ x0 x1 x2 x3 x4 x5 x6 x7 x8 t0 hh Zh  X0 e0 N0 ((if_pos hc).symm.trans hf)
    · refine own_step (T' := T0) (g' := (mkF m 111 #[.val (.int x0), .val (.int x1), .val (.int x2), .val (.int x3), .val (.int x4), .val (.int x5), .val (.int x6), .val (.int x7), .val (.int x8), .val (.int t0)] [])) (fun _ k => XS.icmpYes X0.here hx rfl (pc0 := 92) (pc' := 111) rfl (hb hby at_92) rfl (feq hc).2 (by decide) (by decide) k) ?_
      exact B111 T0 _ x0 x1 x2 x3 x4 x5 x6 x7 x8 t0 hh Zh  X0 e0 N0 ((if_neg hc).symm.trans hf)
  have B85 : ∀ (T0 : State) (locs : List Loc) (x0 : Int32) (x1 : Int32) (x2 : Int32) (x3 : Int32) (x4 : Int32) (x5 : Int32) (x6 : Int32) (x7 : Int32) (x8 : Int32) (hh : Heap), n0 ≤ hh.size → Stand p l e room_1 s m #[(.int p0), (.int p1)] below meth c T0 locs 0 0 → T0.heap = hh → Fr n0 locs → f0_85 x4 x5 x7 x8 = 1 → own_Goes p e below s (own_Law n0) 0 0 T0 (mkF m 85 #[.val (.int x0), .val (.int x1), .val (.int x2), .val (.int x3), .val (.int x4), .val (.int x5), .val (.int x6), .val (.int x7), .val (.int x8), .unset] []) := by
    intro T0 locs x0 x1 x2 x3 x4 x5 x6 x7 x8 hh Zh  X0 e0 N0 hf
    refine own_step (T' := T0) (g' := (mkF m 86 #[.val (.int x0), .val (.int x1), .val (.int x2), .val (.int x3), .val (.int x4), .val (.int x5), .val (.int x6), .val (.int x7), .val (.int x8), .unset] [(.int (0 : Int32))])) (fun _ k => XS.iconst X0.here hx rfl (hb hby at_85) k) ?_
    exact B86 T0 _ x0 x1 x2 x3 x4 x5 x6 x7 x8 (0 : Int32) hh Zh  X0 e0 N0 hf
  have B81 : ∀ (T0 : State) (locs : List Loc) (x0 : Int32) (x1 : Int32) (x2 : Int32) (x3 : Int32) (x4 : Int32) (x5 : Int32) (x6 : Int32) (x7 : Int32) (x8 : Int32) (hh : Heap), n0 ≤ hh.size → Stand p l e room_1 s m #[(.int p0), (.int p1)] below meth c T0 locs 0 0 → T0.heap = hh → Fr n0 locs → f0_81 x4 x5 x7 x8 = 1 → own_Goes p e below s (own_Law n0) 0 0 T0 (mkF m 81 #[.val (.int x0), .val (.int x1), .val (.int x2), .val (.int x3), .val (.int x4), .val (.int x5), .val (.int x6), .val (.int x7), .val (.int x8), .unset] []) := by
    intro T0 locs x0 x1 x2 x3 x4 x5 x6 x7 x8 hh Zh  X0 e0 N0 hf
    refine own_step (T' := T0) (g' := (mkF m 82 #[.val (.int x0), .val (.int x1), .val (.int x2), .val (.int x3), .val (.int x4), .val (.int x5), .val (.int x6), .val (.int x7), .val (.int x8), .unset] [(.int (1 : Int32))])) (fun _ k => XS.iconst X0.here hx rfl (hb hby at_81) k) ?_
    refine own_step (T' := T0) (g' := (mkF m 86 #[.val (.int x0), .val (.int x1), .val (.int x2), .val (.int x3), .val (.int x4), .val (.int x5), .val (.int x6), .val (.int x7), .val (.int x8), .unset] [(.int (1 : Int32))])) (fun _ k => XS.goto X0.here hx rfl (pc0 := 82) (pc' := 86) rfl (hb hby at_82) (by decide) (by decide) k) ?_
    exact B86 T0 _ x0 x1 x2 x3 x4 x5 x6 x7 x8 (1 : Int32) hh Zh  X0 e0 N0 hf
  have B76 : ∀ (T0 : State) (locs : List Loc) (x0 : Int32) (x1 : Int32) (x2 : Int32) (x3 : Int32) (x4 : Int32) (x5 : Int32) (x6 : Int32) (x7 : Int32) (x8 : Int32) (hh : Heap), n0 ≤ hh.size → Stand p l e room_1 s m #[(.int p0), (.int p1)] below meth c T0 locs 0 0 → T0.heap = hh → Fr n0 locs → f0_76 x4 x5 x7 x8 = 1 → own_Goes p e below s (own_Law n0) 0 0 T0 (mkF m 76 #[.val (.int x0), .val (.int x1), .val (.int x2), .val (.int x3), .val (.int x4), .val (.int x5), .val (.int x6), .val (.int x7), .val (.int x8), .unset] []) := by
    intro T0 locs x0 x1 x2 x3 x4 x5 x6 x7 x8 hh Zh  X0 e0 N0 hf
    refine own_step (T' := T0) (g' := (mkF m 78 #[.val (.int x0), .val (.int x1), .val (.int x2), .val (.int x3), .val (.int x4), .val (.int x5), .val (.int x6), .val (.int x7), .val (.int x8), .unset] [(.int x5)])) (fun _ k => XS.iload X0.here hx rfl (hb hby at_76) rfl k) ?_
    by_cases hc : x5 = (0 : Int32)
    · refine own_step (T' := T0) (g' := (mkF m 85 #[.val (.int x0), .val (.int x1), .val (.int x2), .val (.int x3), .val (.int x4), .val (.int x5), .val (.int x6), .val (.int x7), .val (.int x8), .unset] [])) (fun _ k => XS.ifYes X0.here hx rfl (pc0 := 78) (pc' := 85) rfl (hb hby at_78) rfl ((if0 _ _).trans (teq hc).1) (by decide) (by decide) k) ?_
      exact B85 T0 _ x0 x1 x2 x3 x4 x5 x6 x7 x8 hh Zh  X0 e0 N0 ((if_pos hc).symm.trans hf)
    · refine own_step (T' := T0) (g' := (mkF m 81 #[.val (.int x0), .val (.int x1), .val (.int x2), .val (.int x3), .val (.int x4), .val (.int x5), .val (.int x6), .val (.int x7), .val (.int x8), .unset] [])) (fun _ k => XS.ifNo X0.here hx rfl (hb hby at_78) rfl ((if0 _ _).trans (feq hc).1) k) ?_
      exact B81 T0 _ x0 x1 x2 x3 x4 x5 x6 x7 x8 hh Zh  X0 e0 N0 ((if_neg hc).symm.trans hf)
  have B67 : ∀ (T0 : State) (locs : List Loc) (x0 : Int32) (x1 : Int32) (x2 : Int32) (x3 : Int32) (x4 : Int32) (x5 : Int32) (x6 : Int32) (x7 : Int32) (t0 : Int32) (hh : Heap), n0 ≤ hh.size → Stand p l e room_1 s m #[(.int p0), (.int p1)] below meth c T0 locs 0 0 → T0.heap = hh → Fr n0 locs → f0_67 x2 x4 x5 x7 t0 = 1 → own_Goes p e below s (own_Law n0) 0 0 T0 (mkF m 67 #[.val (.int x0), .val (.int x1), .val (.int x2), .val (.int x3), .val (.int x4), .val (.int x5), .val (.int x6), .val (.int x7), .unset, .unset] [(.int t0)]) := by
    intro T0 locs x0 x1 x2 x3 x4 x5 x6 x7 t0 hh Zh  X0 e0 N0 hf
    refine own_step (T' := T0) (g' := (mkF m 69 #[.val (.int x0), .val (.int x1), .val (.int x2), .val (.int x3), .val (.int x4), .val (.int x5), .val (.int x6), .val (.int x7), .val (.int t0), .unset] [])) (fun _ k => XS.istore X0.here hx rfl (hb hby at_67) rfl (l' := #[.val (.int x0), .val (.int x1), .val (.int x2), .val (.int x3), .val (.int x4), .val (.int x5), .val (.int x6), .val (.int x7), .val (.int t0), .unset]) rfl k) ?_
    refine own_step (T' := T0) (g' := (mkF m 70 #[.val (.int x0), .val (.int x1), .val (.int x2), .val (.int x3), .val (.int x4), .val (.int x5), .val (.int x6), .val (.int x7), .val (.int t0), .unset] [(.int x2)])) (fun _ k => XS.iloadN X0.here hx rfl (hb hby at_69) rfl k) ?_
    obtain ⟨_, _, ⟨T1, L1, k1, n1⟩, -, X1, ⟨Lc1, hQ1, l1, y1, z1⟩, st1⟩ := Jvm.LawKit.callS X0 hx (y := (⟨"com/example/stanzary/stanzary/dialect/angle/AngleSyntax", "isBlank", "(C)Z"⟩ : MethodName)) hown (mvT hZ (hw _ (List.mem_of_getElem? (i := 8) rfl))) (mvT hZ (hw _ (List.mem_of_getElem? (i := 9) rfl))) (mvT hZ (hw _ (List.mem_of_getElem? (i := 6) rfl))) (mvT hZ (hw _ (List.mem_of_getElem? (i := 10) rfl))) (by decide) (backOf (W := 0) (rm3 l Z a0 hw [] x2 hh n0 Zh) hZ (hw _ (List.mem_of_getElem? (i := 10) rfl)) (hw _ (List.mem_of_getElem? (i := 6) rfl)) (by decide) (by decide)) (g := (mkF m 70 #[.val (.int x0), .val (.int x1), .val (.int x2), .val (.int x3), .val (.int x4), .val (.int x5), .val (.int x6), .val (.int x7), .val (.int t0), .unset] [(.int x2)])) rfl (by rw [hml]; rfl) (argsL := [(.int x2)]) (rest := []) (lenOf pd_2 rfl) rfl (by show 2 * 0 + _ ≤ _; exact Nat.le_of_eq rfl) (hb hby at_70) (fun _ _ => ⟨rfl, e0, (by decide : 0 + 0 ≤ _), (by decide : 0 + 0 ≤ _)⟩)
    dsimp only [Pt.U, Pt.locs, Pt.cells, Pt.slots] at X1 l1 y1 z1 st1 hQ1
    subst l1 y1 z1
    obtain ⟨rfl, N1q, e1⟩ := hQ1
    have N1 := Fr.app N0 N1q
    refine own_step (T' := T1) (g' := (mkF m 73 #[.val (.int x0), .val (.int x1), .val (.int x2), .val (.int x3), .val (.int x4), .val (.int x5), .val (.int x6), .val (.int x7), .val (.int t0), .unset] [(.int (f3_0 x2))])) (fun _ k => st1 _ k) ?_
    by_cases hc : (f3_0 x2) = (0 : Int32)
    · refine own_step (T' := T1) (g' := (mkF m 81 #[.val (.int x0), .val (.int x1), .val (.int x2), .val (.int x3), .val (.int x4), .val (.int x5), .val (.int x6), .val (.int x7), .val (.int t0), .unset] [])) (fun _ k => XS.ifYes X1.here hx rfl (pc0 := 73) (pc' := 81) rfl (hb hby at_73) rfl ((if0 _ _).trans (teq hc).1) (by decide) (by decide) k) ?_
      exact B81 T1 _ x0 x1 x2 x3 x4 x5 x6 x7 t0 hh Zh  X1 e1 N1 ((if_pos hc).symm.trans hf)
    · refine own_step (T' := T1) (g' := (mkF m 76 #[.val (.int x0), .val (.int x1), .val (.int x2), .val (.int x3), .val (.int x4), .val (.int x5), .val (.int x6), .val (.int x7), .val (.int t0), .unset] [])) (fun _ k => XS.ifNo X1.here hx rfl (hb hby at_73) rfl ((if0 _ _).trans (feq hc).1) k) ?_
      exact B76 T1 _ x0 x1 x2 x3 x4 x5 x6 x7 t0 hh Zh  X1 e1 N1 ((if_neg hc).symm.trans hf)
  have B66 : ∀ (T0 : State) (locs : List Loc) (x0 : Int32) (x1 : Int32) (x2 : Int32) (x3 : Int32) (x4 : Int32) (x5 : Int32) (x6 : Int32) (x7 : Int32) (hh : Heap), n0 ≤ hh.size → Stand p l e room_1 s m #[(.int p0), (.int p1)] below meth c T0 locs 0 0 → T0.heap = hh → Fr n0 locs → f0_66 x2 x4 x5 x7 = 1 → own_Goes p e below s (own_Law n0) 0 0 T0 (mkF m 66 #[.val (.int x0), .val (.int x1), .val (.int x2), .val (.int x3), .val (.int x4), .val (.int x5), .val (.int x6), .val (.int x7), .unset, .unset] []) := by
    intro T0 locs x0 x1 x2 x3 x4 x5 x6 x7 hh Zh  X0 e0 N0 hf
    refine own_step (T' := T0) (g' := (mkF m 67 #[.val (.int x0), .val (.int x1), .val (.int x2), .val (.int x3), .val (.int x4), .val (.int x5), .val (.int x6), .val (.int x7), .unset, .unset] [(.int (0 : Int32))])) (fun _ k => XS.iconst X0.here hx rfl (hb hby at_66) k) ?_
    exact B67 T0 _ x0 x1 x2 x3 x4 x5 x6 x7 (0 : Int32) hh Zh  X0 e0 N0 hf
  have B62 : ∀ (T0 : State) (locs : List Loc) (x0 : Int32) (x1 : Int32) (x2 : Int32) (x3 : Int32) (x4 : Int32) (x5 : Int32) (x6 : Int32) (x7 : Int32) (hh : Heap), n0 ≤ hh.size → Stand p l e room_1 s m #[(.int p0), (.int p1)] below meth c T0 locs 0 0 → T0.heap = hh → Fr n0 locs → f0_62 x2 x4 x5 x7 = 1 → own_Goes p e below s (own_Law n0) 0 0 T0 (mkF m 62 #[.val (.int x0), .val (.int x1), .val (.int x2), .val (.int x3), .val (.int x4), .val (.int x5), .val (.int x6), .val (.int x7), .unset, .unset] []) := by
    intro T0 locs x0 x1 x2 x3 x4 x5 x6 x7 hh Zh  X0 e0 N0 hf
    refine own_step (T' := T0) (g' := (mkF m 63 #[.val (.int x0), .val (.int x1), .val (.int x2), .val (.int x3), .val (.int x4), .val (.int x5), .val (.int x6), .val (.int x7), .unset, .unset] [(.int (1 : Int32))])) (fun _ k => XS.iconst X0.here hx rfl (hb hby at_62) k) ?_
    refine own_step (T' := T0) (g' := (mkF m 67 #[.val (.int x0), .val (.int x1), .val (.int x2), .val (.int x3), .val (.int x4), .val (.int x5), .val (.int x6), .val (.int x7), .unset, .unset] [(.int (1 : Int32))])) (fun _ k => XS.goto X0.here hx rfl (pc0 := 63) (pc' := 67) rfl (hb hby at_63) (by decide) (by decide) k) ?_
    exact B67 T0 _ x0 x1 x2 x3 x4 x5 x6 x7 (1 : Int32) hh Zh  X0 e0 N0 hf
  have B56 : ∀ (T0 : State) (locs : List Loc) (x0 : Int32) (x1 : Int32) (x2 : Int32) (x3 : Int32) (x4 : Int32) (x5 : Int32) (x6 : Int32) (x7 : Int32) (hh : Heap), n0 ≤ hh.size → Stand p l e room_1 s m #[(.int p0), (.int p1)] below meth c T0 locs 0 0 → T0.heap = hh → Fr n0 locs → f0_56 x2 x3 x4 x5 x7 = 1 → own_Goes p e below s (own_Law n0) 0 0 T0 (mkF m 56 #[.val (.int x0), .val (.int x1), .val (.int x2), .val (.int x3), .val (.int x4), .val (.int x5), .val (.int x6), .val (.int x7), .unset, .unset] []) := by
    intro T0 locs x0 x1 x2 x3 x4 x5 x6 x7 hh Zh  X0 e0 N0 hf
    refine own_step (T' := T0) (g' := (mkF m 57 #[.val (.int x0), .val (.int x1), .val (.int x2), .val (.int x3), .val (.int x4), .val (.int x5), .val (.int x6), .val (.int x7), .unset, .unset] [(.int x3)])) (fun _ k => XS.iloadN X0.here hx rfl (hb hby at_56) rfl k) ?_
    refine own_step (T' := T0) (g' := (mkF m 59 #[.val (.int x0), .val (.int x1), .val (.int x2), .val (.int x3), .val (.int x4), .val (.int x5), .val (.int x6), .val (.int x7), .unset, .unset] [(.int (62 : Int32)), (.int x3)])) (fun _ k => XS.bipush X0.here hx rfl (hb hby at_57) k) ?_
    by_cases hc : x3 = (62 : Int32)
    · refine own_step (T' := T0) (g' := (mkF m 62 #[.val (.int x0), .val (.int x1), .val (.int x2), .val (.int x3), .val (.int x4), .val (.int x5), .val (.int x6), .val (.int x7), .unset, .unset] [])) (fun _ k => XS.icmpNo X0.here hx rfl (hb hby at_59) rfl (teq hc).2 k) ?_
      exact B62 T0 _ x0 x1 x2 x3 x4 x5 x6 x7 hh Zh  X0 e0 N0 ((if_pos hc).symm.trans hf)
    · refine own_step (T' := T0) (g' := (mkF m 66 #[.val (.int x0), .val (.int x1), .val (.int x2), .val (.int x3), .val (.int x4), .val (.int x5), .val (.int x6), .val (.int x7), .unset, .unset] [])) (fun _ k => XS.icmpYes X0.here hx rfl (pc0 := 59) (pc' := 66) rfl (hb hby at_59) rfl (feq hc).2 (by decide) (by decide) k) ?_
      exact B66 T0 _ x0 x1 x2 x3 x4 x5 x6 x7 hh Zh  X0 e0 N0 ((if_neg hc).symm.trans hf)
  have B45 : ∀ (T0 : State) (locs : List Loc) (x0 : Int32) (x1 : Int32) (x2 : Int32) (x3 : Int32) (x4 : Int32) (x5 : Int32) (t0 : Int32) (hh : Heap), n0 ≤ hh.size → Stand p l e room_1 s m #[(.int p0), (.int p1)] below meth c T0 locs 0 0 → T0.heap = hh → Fr n0 locs → f0_45 x2 x3 x4 x5 t0 = 1 → own_Goes p e below s (own_Law n0) 0 0 T0 (mkF m 45 #[.val (.int x0), .val (.int x1), .val (.int x2), .val (.int x3), .val (.int x4), .val (.int x5), .unset, .unset, .unset, .unset] [(.int t0)]) := by
    intro T0 locs x0 x1 x2 x3 x4 x5 t0 hh Zh  X0 e0 N0 hf
    refine own_step (T' := T0) (g' := (mkF m 47 #[.val (.int x0), .val (.int x1), .val (.int x2), .val (.int x3), .val (.int x4), .val (.int x5), .val (.int t0), .unset, .unset, .unset] [])) (fun _ k => XS.istore X0.here hx rfl (hb hby at_45) rfl (l' := #[.val (.int x0), .val (.int x1), .val (.int x2), .val (.int x3), .val (.int x4), .val (.int x5), .val (.int t0), .unset, .unset, .unset]) rfl k) ?_
    refine own_step (T' := T0) (g' := (mkF m 49 #[.val (.int x0), .val (.int x1), .val (.int x2), .val (.int x3), .val (.int x4), .val (.int x5), .val (.int t0), .unset, .unset, .unset] [(.int t0)])) (fun _ k => XS.iload X0.here hx rfl (hb hby at_47) rfl k) ?_
    refine own_step (T' := T0) (g' := (mkF m 51 #[.val (.int x0), .val (.int x1), .val (.int x2), .val (.int x3), .val (.int x4), .val (.int x5), .val (.int t0), .val (.int t0), .unset, .unset] [])) (fun _ k => XS.istore X0.here hx rfl (hb hby at_49) rfl (l' := #[.val (.int x0), .val (.int x1), .val (.int x2), .val (.int x3), .val (.int x4), .val (.int x5), .val (.int t0), .val (.int t0), .unset, .unset]) rfl k) ?_
    refine own_step (T' := T0) (g' := (mkF m 53 #[.val (.int x0), .val (.int x1), .val (.int x2), .val (.int x3), .val (.int x4), .val (.int x5), .val (.int t0), .val (.int t0), .unset, .unset] [(.int t0)])) (fun _ k => XS.iload X0.here hx rfl (hb hby at_51) rfl k) ?_
    by_cases hc : t0 = (0 : Int32)
    · refine own_step (T' := T0) (g' := (mkF m 56 #[.val (.int x0), .val (.int x1), .val (.int x2), .val (.int x3), .val (.int x4), .val (.int x5), .val (.int t0), .val (.int t0), .unset, .unset] [])) (fun _ k => XS.ifNo X0.here hx rfl (hb hby at_53) rfl ((if0 _ _).trans (teq hc).2) k) ?_
      exact B56 T0 _ x0 x1 x2 x3 x4 x5 t0 t0 hh Zh  X0 e0 N0 ((if_pos hc).symm.trans hf)
    · refine own_step (T' := T0) (g' := (mkF m 62 #[.val (.int x0), .val (.int x1), .val (.int x2), .val (.int x3), .val (.int x4), .val (.int x5), .val (.int t0), .val (.int t0), .unset, .unset] [])) (fun _ k => XS.ifYes X0.here hx rfl (pc0 := 53) (pc' := 62) rfl (hb hby at_53) rfl ((if0 _ _).trans (feq hc).2) (by decide) (by decide) k) ?_
      exact B62 T0 _ x0 x1 x2 x3 x4 x5 t0 t0 hh Zh  X0 e0 N0 ((if_neg hc).symm.trans hf)
  have B44 : ∀ (T0 : State) (locs : List Loc) (x0 : Int32) (x1 : Int32) (x2 : Int32) (x3 : Int32) (x4 : Int32) (x5 : Int32) (hh : Heap), n0 ≤ hh.size → Stand p l e room_1 s m #[(.int p0), (.int p1)] below meth c T0 locs 0 0 → T0.heap = hh → Fr n0 locs → f0_44 x2 x3 x4 x5 = 1 → own_Goes p e below s (own_Law n0) 0 0 T0 (mkF m 44 #[.val (.int x0), .val (.int x1), .val (.int x2), .val (.int x3), .val (.int x4), .val (.int x5), .unset, .unset, .unset, .unset] []) := by
    intro T0 locs x0 x1 x2 x3 x4 x5 hh Zh  X0 e0 N0 hf
    refine own_step (T' := T0) (g' := (mkF m 45 #[.val (.int x0), .val (.int x1), .val (.int x2), .val (.int x3), .val (.int x4), .val (.int x5), .unset, .unset, .unset, .unset] [(.int (0 : Int32))])) (fun _ k => XS.iconst X0.here hx rfl (hb hby at_44) k) ?_
    exact B45 T0 _ x0 x1 x2 x3 x4 x5 (0 : Int32) hh Zh  X0 e0 N0 hf
  have B40 : ∀ (T0 : State) (locs : List Loc) (x0 : Int32) (x1 : Int32) (x2 : Int32) (x3 : Int32) (x4 : Int32) (x5 : Int32) (hh : Heap), n0 ≤ hh.size → Stand p l e room_1 s m #[(.int p0), (.int p1)] below meth c T0 locs 0 0 → T0.heap = hh → Fr n0 locs → f0_40 x2 x3 x4 x5 = 1 → own_Goes p e below s (own_Law n0) 0 0 T0 (mkF m 40 #[.val (.int x0), .val (.int x1), .val (.int x2), .val (.int x3), .val (.int x4), .val (.int x5), .unset, .unset, .unset, .unset] []) := by
    intro T0 locs x0 x1 x2 x3 x4 x5 hh Zh  X0 e0 N0 hf
    refine own_step (T' := T0) (g' := (mkF m 41 #[.val (.int x0), .val (.int x1), .val (.int x2), .val (.int x3), .val (.int x4), .val (.int x5), .unset, .unset, .unset, .unset] [(.int (1 : Int32))])) (fun _ k => XS.iconst X0.here hx rfl (hb hby at_40) k) ?_
    refine own_step (T' := T0) (g' := (mkF m 45 #[.val (.int x0), .val (.int x1), .val (.int x2), .val (.int x3), .val (.int x4), .val (.int x5), .unset, .unset, .unset, .unset] [(.int (1 : Int32))])) (fun _ k => XS.goto X0.here hx rfl (pc0 := 41) (pc' := 45) rfl (hb hby at_41) (by decide) (by decide) k) ?_
    exact B45 T0 _ x0 x1 x2 x3 x4 x5 (1 : Int32) hh Zh  X0 e0 N0 hf
  have B34 : ∀ (T0 : State) (locs : List Loc) (x0 : Int32) (x1 : Int32) (x2 : Int32) (x3 : Int32) (x4 : Int32) (x5 : Int32) (hh : Heap), n0 ≤ hh.size → Stand p l e room_1 s m #[(.int p0), (.int p1)] below meth c T0 locs 0 0 → T0.heap = hh → Fr n0 locs → f0_34 x2 x3 x4 x5 = 1 → own_Goes p e below s (own_Law n0) 0 0 T0 (mkF m 34 #[.val (.int x0), .val (.int x1), .val (.int x2), .val (.int x3), .val (.int x4), .val (.int x5), .unset, .unset, .unset, .unset] []) := by
    intro T0 locs x0 x1 x2 x3 x4 x5 hh Zh  X0 e0 N0 hf
    refine own_step (T' := T0) (g' := (mkF m 35 #[.val (.int x0), .val (.int x1), .val (.int x2), .val (.int x3), .val (.int x4), .val (.int x5), .unset, .unset, .unset, .unset] [(.int x3)])) (fun _ k => XS.iloadN X0.here hx rfl (hb hby at_34) rfl k) ?_
    refine own_step (T' := T0) (g' := (mkF m 37 #[.val (.int x0), .val (.int x1), .val (.int x2), .val (.int x3), .val (.int x4), .val (.int x5), .unset, .unset, .unset, .unset] [(.int (34 : Int32)), (.int x3)])) (fun _ k => XS.bipush X0.here hx rfl (hb hby at_35) k) ?_
    by_cases hc : x3 = (34 : Int32)
    · refine own_step (T' := T0) (g' := (mkF m 40 #[.val (.int x0), .val (.int x1), .val (.int x2), .val (.int x3), .val (.int x4), .val (.int x5), .unset, .unset, .unset, .unset] [])) (fun _ k => XS.icmpNo X0.here hx rfl (hb hby at_37) rfl (teq hc).2 k) ?_
      exact B40 T0 _ x0 x1 x2 x3 x4 x5 hh Zh  X0 e0 N0 ((if_pos hc).symm.trans hf)
    · refine own_step (T' := T0) (g' := (mkF m 44 #[.val (.int x0), .val (.int x1), .val (.int x2), .val (.int x3), .val (.int x4), .val (.int x5), .unset, .unset, .unset, .unset] [])) (fun _ k => XS.icmpYes X0.here hx rfl (pc0 := 37) (pc' := 44) rfl (hb hby at_37) rfl (feq hc).2 (by decide) (by decide) k) ?_
      exact B44 T0 _ x0 x1 x2 x3 x4 x5 hh Zh  X0 e0 N0 ((if_neg hc).symm.trans hf)
  have B28 : ∀ (T0 : State) (locs : List Loc) (x0 : Int32) (x1 : Int32) (x2 : Int32) (x3 : Int32) (x4 : Int32) (x5 : Int32) (hh : Heap), n0 ≤ hh.size → Stand p l e room_1 s m #[(.int p0), (.int p1)] below meth c T0 locs 0 0 → T0.heap = hh → Fr n0 locs → f0_28 x2 x3 x4 x5 = 1 → own_Goes p e below s (own_Law n0) 0 0 T0 (mkF m 28 #[.val (.int x0), .val (.int x1), .val (.int x2), .val (.int x3), .val (.int x4), .val (.int x5), .unset, .unset, .unset, .unset] []) := by
    intro T0 locs x0 x1 x2 x3 x4 x5 hh Zh  X0 e0 N0 hf
    refine own_step (T' := T0) (g' := (mkF m 29 #[.val (.int x0), .val (.int x1), .val (.int x2), .val (.int x3), .val (.int x4), .val (.int x5), .unset, .unset, .unset, .unset] [(.int x3)])) (fun _ k => XS.iloadN X0.here hx rfl (hb hby at_28) rfl k) ?_
    refine own_step (T' := T0) (g' := (mkF m 31 #[.val (.int x0), .val (.int x1), .val (.int x2), .val (.int x3), .val (.int x4), .val (.int x5), .unset, .unset, .unset, .unset] [(.int (9 : Int32)), (.int x3)])) (fun _ k => XS.bipush X0.here hx rfl (hb hby at_29) k) ?_
    by_cases hc : x3 = (9 : Int32)
    · refine own_step (T' := T0) (g' := (mkF m 40 #[.val (.int x0), .val (.int x1), .val (.int x2), .val (.int x3), .val (.int x4), .val (.int x5), .unset, .unset, .unset, .unset] [])) (fun _ k => XS.icmpYes X0.here hx rfl (pc0 := 31) (pc' := 40) rfl (hb hby at_31) rfl (teq hc).1 (by decide) (by decide) k) ?_
      exact B40 T0 _ x0 x1 x2 x3 x4 x5 hh Zh  X0 e0 N0 ((if_pos hc).symm.trans hf)
    · refine own_step (T' := T0) (g' := (mkF m 34 #[.val (.int x0), .val (.int x1), .val (.int x2), .val (.int x3), .val (.int x4), .val (.int x5), .unset, .unset, .unset, .unset] [])) (fun _ k => XS.icmpNo X0.here hx rfl (hb hby at_31) rfl (feq hc).1 k) ?_
      exact B34 T0 _ x0 x1 x2 x3 x4 x5 hh Zh  X0 e0 N0 ((if_neg hc).symm.trans hf)
  have B0 : ∀ (T0 : State) (locs : List Loc) (x0 : Int32) (x1 : Int32) (hh : Heap), n0 ≤ hh.size → Stand p l e room_1 s m #[(.int p0), (.int p1)] below meth c T0 locs 0 0 → T0.heap = hh → Fr n0 locs → f0_0 x0 x1 = 1 → own_Goes p e below s (own_Law n0) 0 0 T0 (mkF m 0 #[.val (.int x0), .val (.int x1), .unset, .unset, .unset, .unset, .unset, .unset, .unset, .unset] []) := by
    intro T0 locs x0 x1 hh Zh  X0 e0 N0 hf
    refine own_step (T' := T0) (g' := (mkF m 1 #[.val (.int x0), .val (.int x1), .unset, .unset, .unset, .unset, .unset, .unset, .unset, .unset] [(.int x0)])) (fun _ k => XS.iloadN X0.here hx rfl (hb hby at_0) rfl k) ?_
    refine own_step (T' := T0) (g' := (mkF m 2 #[.val (.int x0), .val (.int x1), .unset, .unset, .unset, .unset, .unset, .unset, .unset, .unset] [(.int x1), (.int x0)])) (fun _ k => XS.iloadN X0.here hx rfl (hb hby at_1) rfl k) ?_
    obtain ⟨_, _, ⟨T1, L1, k1, n1⟩, -, X1, ⟨Lc1, hQ1, l1, y1, z1⟩, st1⟩ := Jvm.LawKit.callS X0 hx (y := (⟨"com/example/stanzary/stanzary/dialect/angle/AngleSyntaxEndsBarePinLaw", "pick", "(II)C"⟩ : MethodName)) hown (mvT hZ (hw _ (List.mem_of_getElem? (i := 0) rfl))) (mvT hZ (hw _ (List.mem_of_getElem? (i := 1) rfl))) (mvT hZ (hw _ (List.mem_of_getElem? (i := 2) rfl))) (mvT hZ (hw _ (List.mem_of_getElem? (i := 3) rfl))) (by decide) (backOf (W := 0) (rm1 l Z a0 hw [] x0 x1 hh n0 Zh) hZ (hw _ (List.mem_of_getElem? (i := 3) rfl)) (hw _ (List.mem_of_getElem? (i := 2) rfl)) (by decide) (by decide)) (g := (mkF m 2 #[.val (.int x0), .val (.int x1), .unset, .unset, .unset, .unset, .unset, .unset, .unset, .unset] [(.int x1), (.int x0)])) rfl (by rw [hml]; rfl) (argsL := [(.int x0), (.int x1)]) (rest := []) (lenOf pd_0 rfl) rfl (by show 2 * 0 + _ ≤ _; exact Nat.le_of_eq rfl) (hb hby at_2) (fun _ _ => ⟨rfl, e0, (by decide : 0 + 0 ≤ _), (by decide : 0 + 0 ≤ _)⟩)
    dsimp only [Pt.U, Pt.locs, Pt.cells, Pt.slots] at X1 l1 y1 z1 st1 hQ1
    subst l1 y1 z1
    obtain ⟨rfl, N1q, e1⟩ := hQ1
    have N1 := Fr.app N0 N1q
    refine own_step (T' := T1) (g' := (mkF m 5 #[.val (.int x0), .val (.int x1), .unset, .unset, .unset, .unset, .unset, .unset, .unset, .unset] [(.int (f1_0 x0 x1))])) (fun _ k => st1 _ k) ?_
    refine own_step (T' := T1) (g' := (mkF m 6 #[.val (.int x0), .val (.int x1), .val (.int (f1_0 x0 x1)), .unset, .unset, .unset, .unset, .unset, .unset, .unset] [])) (fun _ k => XS.istoreN X1.here hx rfl (hb hby at_5) rfl (l' := #[.val (.int x0), .val (.int x1), .val (.int (f1_0 x0 x1)), .unset, .unset, .unset, .unset, .unset, .unset, .unset]) rfl k) ?_
    refine own_step (T' := T1) (g' := (mkF m 7 #[.val (.int x0), .val (.int x1), .val (.int (f1_0 x0 x1)), .unset, .unset, .unset, .unset, .unset, .unset, .unset] [(.int (f1_0 x0 x1))])) (fun _ k => XS.iloadN X1.here hx rfl (hb hby at_6) rfl k) ?_
    refine own_step (T' := T1) (g' := (mkF m 8 #[.val (.int x0), .val (.int x1), .val (.int (f1_0 x0 x1)), .val (.int (f1_0 x0 x1)), .unset, .unset, .unset, .unset, .unset, .unset] [])) (fun _ k => XS.istoreN X1.here hx rfl (hb hby at_7) rfl (l' := #[.val (.int x0), .val (.int x1), .val (.int (f1_0 x0 x1)), .val (.int (f1_0 x0 x1)), .unset, .unset, .unset, .unset, .unset, .unset]) rfl k) ?_
    refine own_step (T' := T1) (g' := (mkF m 9 #[.val (.int x0), .val (.int x1), .val (.int (f1_0 x0 x1)), .val (.int (f1_0 x0 x1)), .unset, .unset, .unset, .unset, .unset, .unset] [(.int (f1_0 x0 x1))])) (fun _ k => XS.iloadN X1.here hx rfl (hb hby at_8) rfl k) ?_
    refine own_step (T' := T1) (g' := (mkF m 10 #[.val (.int x0), .val (.int x1), .val (.int (f1_0 x0 x1)), .val (.int (f1_0 x0 x1)), .unset, .unset, .unset, .unset, .unset, .unset] [(.int (1 : Int32)), (.int (f1_0 x0 x1))])) (fun _ k => XS.iconst X1.here hx rfl (hb hby at_9) k) ?_
    obtain ⟨_, _, ⟨T2, L2, k2, n2⟩, -, X2, ⟨Lc2, hQ2, l2, y2, z2⟩, st2⟩ := Jvm.LawKit.callS X1 hx (y := (⟨"com/example/stanzary/stanzary/dialect/angle/AngleSyntax", "endsBare", "(CZ)Z"⟩ : MethodName)) hown (mvT hZ (hw _ (List.mem_of_getElem? (i := 4) rfl))) (mvT hZ (hw _ (List.mem_of_getElem? (i := 5) rfl))) (mvT hZ (hw _ (List.mem_of_getElem? (i := 6) rfl))) (mvT hZ (hw _ (List.mem_of_getElem? (i := 7) rfl))) (by decide) (backOf (W := 0) (rm2 l Z a0 hw [] (f1_0 x0 x1) (1 : Int32) hh n0 Zh) hZ (hw _ (List.mem_of_getElem? (i := 7) rfl)) (hw _ (List.mem_of_getElem? (i := 6) rfl)) (by decide) (by decide)) (g := (mkF m 10 #[.val (.int x0), .val (.int x1), .val (.int (f1_0 x0 x1)), .val (.int (f1_0 x0 x1)), .unset, .unset, .unset, .unset, .unset, .unset] [(.int (1 : Int32)), (.int (f1_0 x0 x1))])) rfl (by rw [hml]; rfl) (argsL := [(.int (f1_0 x0 x1)), (.int (1 : Int32))]) (rest := []) (lenOf pd_1 rfl) rfl (by show 2 * 0 + _ ≤ _; exact Nat.le_of_eq rfl) (hb hby at_10) (fun _ _ => ⟨rfl, e1, (by decide : 0 + 0 ≤ _), (by decide : 0 + 0 ≤ _)⟩)
    dsimp only [Pt.U, Pt.locs, Pt.cells, Pt.slots] at X2 l2 y2 z2 st2 hQ2
    subst l2 y2 z2
    obtain ⟨rfl, N2q, e2⟩ := hQ2
    have N2 := Fr.app N1 N2q
    refine own_step (T' := T2) (g' := (mkF m 13 #[.val (.int x0), .val (.int x1), .val (.int (f1_0 x0 x1)), .val (.int (f1_0 x0 x1)), .unset, .unset, .unset, .unset, .unset, .unset] [(.int (f2_0 (f1_0 x0 x1) (1 : Int32)))])) (fun _ k => st2 _ k) ?_
    refine own_step (T' := T2) (g' := (mkF m 15 #[.val (.int x0), .val (.int x1), .val (.int (f1_0 x0 x1)), .val (.int (f1_0 x0 x1)), .val (.int (f2_0 (f1_0 x0 x1) (1 : Int32))), .unset, .unset, .unset, .unset, .unset] [])) (fun _ k => XS.istore X2.here hx rfl (hb hby at_13) rfl (l' := #[.val (.int x0), .val (.int x1), .val (.int (f1_0 x0 x1)), .val (.int (f1_0 x0 x1)), .val (.int (f2_0 (f1_0 x0 x1) (1 : Int32))), .unset, .unset, .unset, .unset, .unset]) rfl k) ?_
    refine own_step (T' := T2) (g' := (mkF m 16 #[.val (.int x0), .val (.int x1), .val (.int (f1_0 x0 x1)), .val (.int (f1_0 x0 x1)), .val (.int (f2_0 (f1_0 x0 x1) (1 : Int32))), .unset, .unset, .unset, .unset, .unset] [(.int (f1_0 x0 x1))])) (fun _ k => XS.iloadN X2.here hx rfl (hb hby at_15) rfl k) ?_
    refine own_step (T' := T2) (g' := (mkF m 17 #[.val (.int x0), .val (.int x1), .val (.int (f1_0 x0 x1)), .val (.int (f1_0 x0 x1)), .val (.int (f2_0 (f1_0 x0 x1) (1 : Int32))), .unset, .unset, .unset, .unset, .unset] [(.int (0 : Int32)), (.int (f1_0 x0 x1))])) (fun _ k => XS.iconst X2.here hx rfl (hb hby at_16) k) ?_
    obtain ⟨_, _, ⟨T3, L3, k3, n3⟩, -, X3, ⟨Lc3, hQ3, l3, y3, z3⟩, st3⟩ := Jvm.LawKit.callS X2 hx (y := (⟨"com/example/stanzary/stanzary/dialect/angle/AngleSyntax", "endsBare", "(CZ)Z"⟩ : MethodName)) hown (mvT hZ (hw _ (List.mem_of_getElem? (i := 4) rfl))) (mvT hZ (hw _ (List.mem_of_getElem? (i := 5) rfl))) (mvT hZ (hw _ (List.mem_of_getElem? (i := 6) rfl))) (mvT hZ (hw _ (List.mem_of_getElem? (i := 7) rfl))) (by decide) (backOf (W := 0) (rm2 l Z a0 hw [] (f1_0 x0 x1) (0 : Int32) hh n0 Zh) hZ (hw _ (List.mem_of_getElem? (i := 7) rfl)) (hw _ (List.mem_of_getElem? (i := 6) rfl)) (by decide) (by decide)) (g := (mkF m 17 #[.val (.int x0), .val (.int x1), .val (.int (f1_0 x0 x1)), .val (.int (f1_0 x0 x1)), .val (.int (f2_0 (f1_0 x0 x1) (1 : Int32))), .unset, .unset, .unset, .unset, .unset] [(.int (0 : Int32)), (.int (f1_0 x0 x1))])) rfl (by rw [hml]; rfl) (argsL := [(.int (f1_0 x0 x1)), (.int (0 : Int32))]) (rest := []) (lenOf pd_1 rfl) rfl (by show 2 * 0 + _ ≤ _; exact Nat.le_of_eq rfl) (hb hby at_17) (fun _ _ => ⟨rfl, e2, (by decide : 0 + 0 ≤ _), (by decide : 0 + 0 ≤ _)⟩)
    dsimp only [Pt.U, Pt.locs, Pt.cells, Pt.slots] at X3 l3 y3 z3 st3 hQ3
    subst l3 y3 z3
    obtain ⟨rfl, N3q, e3⟩ := hQ3
    have N3 := Fr.app N2 N3q
    refine own_step (T' := T3) (g' := (mkF m 20 #[.val (.int x0), .val (.int x1), .val (.int (f1_0 x0 x1)), .val (.int (f1_0 x0 x1)), .val (.int (f2_0 (f1_0 x0 x1) (1 : Int32))), .unset, .unset, .unset, .unset, .unset] [(.int (f2_0 (f1_0 x0 x1) (0 : Int32)))])) (fun _ k => st3 _ k) ?_
    refine own_step (T' := T3) (g' := (mkF m 22 #[.val (.int x0), .val (.int x1), .val (.int (f1_0 x0 x1)), .val (.int (f1_0 x0 x1)), .val (.int (f2_0 (f1_0 x0 x1) (1 : Int32))), .val (.int (f2_0 (f1_0 x0 x1) (0 : Int32))), .unset, .unset, .unset, .unset] [])) (fun _ k => XS.istore X3.here hx rfl (hb hby at_20) rfl (l' := #[.val (.int x0), .val (.int x1), .val (.int (f1_0 x0 x1)), .val (.int (f1_0 x0 x1)), .val (.int (f2_0 (f1_0 x0 x1) (1 : Int32))), .val (.int (f2_0 (f1_0 x0 x1) (0 : Int32))), .unset, .unset, .unset, .unset]) rfl k) ?_
    refine own_step (T' := T3) (g' := (mkF m 23 #[.val (.int x0), .val (.int x1), .val (.int (f1_0 x0 x1)), .val (.int (f1_0 x0 x1)), .val (.int (f2_0 (f1_0 x0 x1) (1 : Int32))), .val (.int (f2_0 (f1_0 x0 x1) (0 : Int32))), .unset, .unset, .unset, .unset] [(.int (f1_0 x0 x1))])) (fun _ k => XS.iloadN X3.here hx rfl (hb hby at_22) rfl k) ?_
    refine own_step (T' := T3) (g' := (mkF m 25 #[.val (.int x0), .val (.int x1), .val (.int (f1_0 x0 x1)), .val (.int (f1_0 x0 x1)), .val (.int (f2_0 (f1_0 x0 x1) (1 : Int32))), .val (.int (f2_0 (f1_0 x0 x1) (0 : Int32))), .unset, .unset, .unset, .unset] [(.int (32 : Int32)), (.int (f1_0 x0 x1))])) (fun _ k => XS.bipush X3.here hx rfl (hb hby at_23) k) ?_
    by_cases hc : (f1_0 x0 x1) = (32 : Int32)
    · refine own_step (T' := T3) (g' := (mkF m 40 #[.val (.int x0), .val (.int x1), .val (.int (f1_0 x0 x1)), .val (.int (f1_0 x0 x1)), .val (.int (f2_0 (f1_0 x0 x1) (1 : Int32))), .val (.int (f2_0 (f1_0 x0 x1) (0 : Int32))), .unset, .unset, .unset, .unset] [])) (fun _ k => XS.icmpYes X3.here hx rfl (pc0 := 25) (pc' := 40) rfl (hb hby at_25) rfl (teq hc).1 (by decide) (by decide) k) ?_
      exact B40 T3 _ x0 x1 (f1_0 x0 x1) (f1_0 x0 x1) (f2_0 (f1_0 x0 x1) (1 : Int32)) (f2_0 (f1_0 x0 x1) (0 : Int32)) hh Zh  X3 e3 N3 ((if_pos hc).symm.trans hf)
    · refine own_step (T' := T3) (g' := (mkF m 28 #[.val (.int x0), .val (.int x1), .val (.int (f1_0 x0 x1)), .val (.int (f1_0 x0 x1)), .val (.int (f2_0 (f1_0 x0 x1) (1 : Int32))), .val (.int (f2_0 (f1_0 x0 x1) (0 : Int32))), .unset, .unset, .unset, .unset] [])) (fun _ k => XS.icmpNo X3.here hx rfl (hb hby at_25) rfl (feq hc).1 k) ?_
      exact B28 T3 _ x0 x1 (f1_0 x0 x1) (f1_0 x0 x1) (f2_0 (f1_0 x0 x1) (1 : Int32)) (f2_0 (f1_0 x0 x1) (0 : Int32)) hh Zh  X3 e3 N3 ((if_neg hc).symm.trans hf)
  have hB := B0 s₁ [] p0 p1 h0 Z0 X00 e00 (Fr.nil n0) hlaw
  obtain ⟨s₂, o, q1, q2, q3, v, L, q4, q5, q6⟩ := hB
  exact ⟨s₂, o, castTop (ef_0 m p0 p1) q1, q2, q3, v, L, q4, q5, q6⟩
set_option maxRecDepth 65536 in
set_option maxHeartbeats 40000000 in
theorem comes_1 {Post : Tables → Env → Array Value → State → Outcome → State → Prop} (hpost : ∀ tb e args s v u, (limb_1_1.after args s (.returned v) u = true ∧ limb_1_2.after args s (.returned v) u = true ∧ True) → FrameEnd s (.returned v) u (Jvm.fieldLocs frame_1_writes args s ++ Jvm.arrayLocs frame_1_arrays args s ++ Jvm.staticLocs frame_1_statics s) 0 0 → Post tb e args s (.returned v) u) :
    ArmFor flags0 classFile x code maxLocals ret World_1 tables_1 room_1 Calls_1 rest_1 Pre_1 Post := by
  intro l hfl _ _ p e ha hc hk s m args below hf hA hF happ hP
  obtain ⟨hcalls, hrest, hpre⟩ := hP
  obtain ⟨-, -, -, hnamed, -, -, -, hat⟩ := (Spec.applies_iff hf).mp happ
  obtain ⟨hg, hn⟩ := and_e (Cond.before_iff.mp (show (Jvm.Cond.and given_1 narrow_1).before args s = true from hpre))
  obtain ⟨hcnt, g0⟩ := and_e hg
  obtain ⟨a0, g1⟩ := and_e g0
  obtain ⟨w0, w1, rfl⟩ : ∃ w0 w1 : Value, args = #[w0, w1] := by
    have hs : args.size = 2 := by simpa [Cond.value, given_1] using hcnt
    obtain ⟨L⟩ := args
    match L, hs with
    | [w0, w1], _ => exact ⟨w0, w1, rfl⟩
  have hw := fun d (hd : d ∈ tables_1) => atoms_spec (ws := Jvm.Cond.code x code maxLocals ret :: tables_1) hat d (List.mem_cons_of_mem _ hd)
  obtain ⟨i0, ei0⟩ := is_v a0
  obtain rfl : w0 = (.int i0) := Option.some.inj ei0
  obtain ⟨i1, ei1⟩ := is_v g1
  obtain rfl : w1 = (.int i1) := Option.some.inj ei1
  obtain ⟨n, o, h1, h2, h3, _, L, rfl, ⟨rfl, N⟩, hq⟩ := rm0 l s _ hw tables_1 i0 i1 s.heap s.heap.size (Nat.le_refl _) (own_law i0 i1) p e ha hc hk s m _ below hf ((Spec.applies_iff_loose hf).mp happ).1 ⟨rfl, State.Warmed39.refl s, rfl⟩ trivial
  refine ⟨n, _, h1, h2, h3, hpost _ _ _ _ _ _ ⟨Cond.after_iff.mpr rfl, Cond.after_iff.mpr (eq_i res_at (Term.int_eval (1)) rfl), trivial⟩ ⟨hq.1, hq.2.1, (hq.2.2.sift fun y hy => Or.inr (N y hy)).mono (by decide) (by decide)⟩⟩
theorem main_1_1 : Claimed_1_1 := comes_1 fun _ _ _ _ _ _ h hF => ⟨h.1, hF⟩
theorem main_1_2 : Claimed_1_2 := comes_1 fun _ _ _ _ _ _ h hF => ⟨h.2.1, hF⟩
end Jvm.Pilot.@@N@@
namespace Jvm.Pilot.@@N@@
open Jvm Jvm.ClassFile Sem Op Lib Jvm.Free Jvm.Stand Jvm.Pilot.@@N@@.Jvm.D
/-! MADE BY PROGRAM (witnessworld.py) out of the Statement's table words and the real class files: 10 classes; the members and pool entries that the words name. The judged class is class 1, her method 2. -/
namespace start1
open Jvm.ClassFile
def u (s : String) : CpInfo := .utf8 (stringToUtf16 s)
/-- a pool by its gaps: so many unusable entries, then the entry; so many at the end -/
def gap : Nat → List CpInfo → List CpInfo
  | 0, r => r
  | n + 1, r => .unusable :: gap n r
def poolList (es : List (Nat × CpInfo)) (last : Nat) : List CpInfo := es.foldr (fun e r => gap e.1 (e.2 :: r)) (gap last [])
def pool (es : List (Nat × CpInfo)) (last : Nat) : Array CpInfo := ⟨poolList es last⟩
def fileOf (pool : Array CpInfo) (this : Nat) (attrs : Array Attribute := #[]) (ms : Array MethodInfo := #[]) (fl : Nat := 33) (sup : Nat := 0) (ifs : Array Nat := #[]) (fds : Array FieldInfo := #[]) : ClassFile where
  minorVersion := 0
  majorVersion := 65
  constantPool := pool
  accessFlags := fl
  thisClass := this
  superClass := sup
  interfaces := ifs
  fields := fds
  methods := ms
  attributes := attrs
def plain (name : String) (sup : Option ClassId) : Class where
  name := name
  kind := .ordinary
  loader := none
  accessFlags := 33
  super := sup
  interfaces := #[]
  cf := none
  fields := #[]
  methods := #[]
  instanceTypes := #[]
  staticTypes := #[]
  resolved := #[]
  callSites := []
  init := .initialized
  statics := none
  mirror := none

def pool0 : Array CpInfo := pool [(5, u "<init>"), (0, u "()V"), (1, .class_ 10), (1, u "java/lang/Object")] 113

def k0m0 : Method := { name := "<init>", desc := "()V", sig := { parameters := [], returnType := none }, accessFlags := 1, code := none }
/-- java/lang/Object -/
def k0 : Class := { plain "java/lang/Object" none with
  accessFlags := 33
  interfaces := #[]
  cf := some (fileOf pool0 8 #[] #[{ accessFlags := 1, nameIndex := 5, descriptorIndex := 6, attributes := #[] }] 33 0 #[] #[])
  fields := #[]
  methods := #[k0m0]
  instanceTypes := #[]
  staticTypes := #[]
  resolved := Array.replicate 124 none
  statics := none }

def pool1 : Array CpInfo := pool [(2, .class_ 4), (1, u "java/lang/Object"), (0, u "<init>"), (0, u "()V"), (0, .integer 65535), (0, .methodref 9 10), (0, .class_ 11), (0, .nameAndType 12 13), (0, u "com/example/stanzary/stanzary/dialect/angle/AngleSyntaxEndsBarePinLaw"), (0, u "pick"), (0, u "(II)C"), (0, .methodref 15 16), (0, .class_ 17), (0, .nameAndType 18 19), (0, u "com/example/stanzary/stanzary/dialect/angle/AngleSyntax"), (0, u "endsBare"), (0, u "(CZ)Z"), (0, .methodref 15 21), (0, .nameAndType 22 23), (0, u "isBlank"), (0, u "(C)Z"), (3, u "law"), (0, u "(II)Z")] 2

def k1m0 : Method := { name := "<init>", desc := "()V", sig := { parameters := [], returnType := none }, accessFlags := 1, code := none }
def k1c1 : Code := { maxStack := 2, maxLocals := 3, code := method_2_code, exceptionTable := #[], attributes := #[] }
def k1m1 : Method := { name := "pick", desc := "(II)C", sig := { parameters := [.int, .int], returnType := some .char }, accessFlags := 10, code := some k1c1 }
def k1c2 : Code := { maxStack := 2, maxLocals := 10, code := code, exceptionTable := #[], attributes := #[] }
def k1m2 : Method := { name := "law", desc := "(II)Z", sig := { parameters := [.int, .int], returnType := some .boolean }, accessFlags := 9, code := some k1c2 }
/-- com/example/stanzary/stanzary/dialect/angle/AngleSyntaxEndsBarePinLaw -/
def k1 : Class := { plain "com/example/stanzary/stanzary/dialect/angle/AngleSyntaxEndsBarePinLaw" (some 0) with
  accessFlags := 49
  interfaces := #[]
  cf := some (fileOf pool1 9 #[] #[{ accessFlags := 1, nameIndex := 5, descriptorIndex := 6, attributes := #[] }, { accessFlags := 10, nameIndex := 12, descriptorIndex := 13, attributes := #[] }, { accessFlags := 9, nameIndex := 27, descriptorIndex := 28, attributes := #[] }] 49 2 #[] #[])
  fields := #[]
  methods := #[k1m0, k1m1, k1m2]
  instanceTypes := #[]
  staticTypes := #[]
  resolved := Array.replicate 31 none
  statics := none }

def pool2 : Array CpInfo := pool [(2, .class_ 4), (1, u "com/example/stanzary/stanzary/tree/Syntax"), (91, .class_ 97), (0, u "java/lang/Object")] 39

/-- com/example/stanzary/stanzary/tree/Syntax -/
def k2 : Class := { plain "com/example/stanzary/stanzary/tree/Syntax" (some 0) with
  accessFlags := 1537
  interfaces := #[]
  cf := some (fileOf pool2 2 #[] #[] 1537 96 #[] #[])
  fields := #[]
  methods := #[]
  instanceTypes := #[]
  staticTypes := #[]
  resolved := Array.replicate 137 none
  statics := none }

def pool3 : Array CpInfo := pool [(2, .class_ 4), (1, u "java/lang/Object"), (0, u "<init>"), (0, u "()V"), (17, .class_ 26), (1, u "com/example/stanzary/stanzary/dialect/angle/AngleSyntax"), (52, u "endsBare"), (0, u "(CZ)Z"), (3, .class_ 86), (1, u "com/example/stanzary/stanzary/tree/Syntax"), (9, u "INSTANCE"), (0, u "Lcom/example/stanzary/stanzary/dialect/angle/AngleSyntax;"), (13, u "isBlank"), (0, u "(C)Z")] 33

def k3m0 : Method := { name := "<init>", desc := "()V", sig := { parameters := [], returnType := none }, accessFlags := 2, code := none }
def k3c1 : Code := { maxStack := 2, maxLocals := 2, code := prog_4_method_6_code, exceptionTable := #[], attributes := #[] }
def k3m1 : Method := { name := "endsBare", desc := "(CZ)Z", sig := { parameters := [.char, .boolean], returnType := some .boolean }, accessFlags := 8, code := some k3c1 }
def k3c2 : Code := { maxStack := 2, maxLocals := 1, code := prog_4_method_7_code, exceptionTable := #[], attributes := #[] }
def k3m2 : Method := { name := "isBlank", desc := "(C)Z", sig := { parameters := [.char], returnType := some .boolean }, accessFlags := 8, code := some k3c2 }
/-- com/example/stanzary/stanzary/dialect/angle/AngleSyntax -/
def k3 : Class := { plain "com/example/stanzary/stanzary/dialect/angle/AngleSyntax" (some 0) with
  accessFlags := 48
  interfaces := #[2]
  cf := some (fileOf pool3 24 #[] #[{ accessFlags := 2, nameIndex := 5, descriptorIndex := 6, attributes := #[] }, { accessFlags := 8, nameIndex := 79, descriptorIndex := 80, attributes := #[] }, { accessFlags := 8, nameIndex := 111, descriptorIndex := 112, attributes := #[] }] 48 2 #[84] #[{ accessFlags := 24, nameIndex := 96, descriptorIndex := 97, attributes := #[] }])
  fields := #[{ name := "INSTANCE", type := (.object "com/example/stanzary/stanzary/dialect/angle/AngleSyntax"), accessFlags := 24, slot := 0, constantValue := 0 }]
  methods := #[k3m0, k3m1, k3m2]
  instanceTypes := #[]
  staticTypes := #[(.object "com/example/stanzary/stanzary/dialect/angle/AngleSyntax")]
  resolved := Array.replicate 146 none
  statics := none }

def pool4 : Array CpInfo := pool [(1, u "java/lang/Cloneable"), (0, .class_ 1), (0, u "java/lang/Object"), (0, .class_ 3)] 3

/-- java/lang/Cloneable -/
def k4 : Class := { plain "java/lang/Cloneable" (some 0) with
  accessFlags := 1537
  interfaces := #[]
  cf := some (fileOf pool4 2 #[] #[] 1537 4 #[] #[])
  fields := #[]
  methods := #[]
  instanceTypes := #[]
  staticTypes := #[]
  resolved := Array.replicate 8 none
  statics := none }

def pool5 : Array CpInfo := pool [(1, u "java/io/Serializable"), (0, .class_ 1), (0, u "java/lang/Object"), (0, .class_ 3)] 3

/-- java/io/Serializable -/
def k5 : Class := { plain "java/io/Serializable" (some 0) with
  accessFlags := 1537
  interfaces := #[]
  cf := some (fileOf pool5 2 #[] #[] 1537 4 #[] #[])
  fields := #[]
  methods := #[]
  instanceTypes := #[]
  staticTypes := #[]
  resolved := Array.replicate 8 none
  statics := none }

/-- the primitive byte -/
def k6 : Class := { plain "byte" none with kind := .primitive 'B', accessFlags := 0x411 }
/-- [B -/
def k7 : Class := { plain "[B" (some 0) with kind := .array 6 .byte, interfaces := #[4, 5], accessFlags := 1041 }

/-- the primitive int -/
def k8 : Class := { plain "int" none with kind := .primitive 'I', accessFlags := 0x411 }
/-- [I -/
def k9 : Class := { plain "[I" (some 0) with kind := .array 8 .int, interfaces := #[4, 5], accessFlags := 1041 }

def heap : Heap := #[]
def classes : Array Class := #[k0, k1, k2, k3, k4, k5, k6, k7, k8, k9]
def interned : List (Array UInt16 × Addr) := []
def slotsUsed : Nat := 0
def theMethod : MethodId := ⟨1, 2⟩
def args0 : Array Value := #[.int 5, .int 6]
def aboutOver (below : List Frame) : State where
  vm := { classes := classes, interned := interned.toArray }
  heap := heap
  slotsUsed := slotsUsed
  threads := #[{ frames := .invoking theMethod args0 :: below }]
def below0 : List Frame := [.native { method := ⟨0, 0⟩, args := #[] }]
def about1 : State := aboutOver below0
def p0 : Program := .bare "" "" ""
def e0 : Env := launch0.env 0 0 0
theorem w_frames : about1.frames = Frame.invoking theMethod args0 :: below0 := rfl
set_option maxRecDepth 65536 in
theorem w_args : argsFit about1.vm theMethod args0 = true := by decide +kernel
set_option maxRecDepth 65536 in
theorem w_heap : heapFits about1 = true := by decide +kernel
set_option maxRecDepth 65536 in
theorem w_runnable : about1.curStatus? = some .runnable := by decide +kernel
set_option maxRecDepth 65536 in
theorem w_alone : about1.alone = true := by decide +kernel
set_option maxRecDepth 65536 in
theorem w_named : about1.methodNamed? x = some theMethod := by decide +kernel
set_option maxRecDepth 65536 in
theorem w_hears : about1.hears theMethod below0 = true := by decide +kernel
set_option maxRecDepth 65536 in
theorem w_ripe : about1.ripe theMethod args0 below0 = true := by decide +kernel
theorem w_running : about1.status = .running := rfl
set_option maxRecDepth 65536 in
theorem w_room : about1.hasRoom e0.platform room_1 = true :=
  launch0.hasRoom_least _ room_1 (by decide +kernel) (by decide +kernel) (by decide +kernel) (by decide +kernel) (by decide +kernel) (by decide +kernel)
theorem allAtoms_all (ts : List Jvm.Cond) (a : Array Jvm.Value) (st : Jvm.State) : (allAtoms ts).before a st = ts.all (fun c => c.before a st) := by
  induction ts with
  | nil => rfl
  | cons c t ih =>
    show (Jvm.Cond.and c (allAtoms t)).before a st = _
    rw [Jvm.Cond.before_and, ih, List.all_cons]
def words1 : List Jvm.Cond := Jvm.Cond.code x code maxLocals ret :: tables_1
/-- a 'code' word, met by the world's own term for the bytes: nothing is compared byte by byte -/
theorem code_word {y : MethodName} {bytes : ByteArray} {mx : Nat} {rt : Option FieldType} {a : Array Value} {s : State} {m : MethodId} {meth : Method} {c : Code} (h1 : s.methodNamed? y = some m) (h2 : s.vm.method? m = some meth) (h3 : meth.code = some c) (h4 : c.code = bytes)
    (h5 : (c.maxLocals == mx && c.exceptionTable.isEmpty && decide (c.maxStack ≤ mostOperands) && decide (meth.sig.returnType = rt) && !meth.locks && decide (parseMethodDescriptor y.desc = some meth.sig)) = true) : (Jvm.Cond.code y bytes mx rt).before a s = true := by
  simp only [Bool.and_eq_true, beq_iff_eq, Bool.not_eq_true', decide_eq_true_eq] at h5
  obtain ⟨⟨⟨⟨⟨g1, g2⟩, g3⟩, g4⟩, g5⟩, g6⟩ := h5
  simp [Cond.before, Cond.holds, Cond.value, h1, h2, h3, h4, g1, g2, g3, g4, g5, g6]
def isCode : Jvm.Cond → Bool
  | .code _ _ _ _ => true
  | _ => false
theorem all_split {L : List Jvm.Cond} {P : Jvm.Cond → Bool} (h1 : L.all (fun c => isCode c || P c) = true) (h2 : ∀ c ∈ L.filter isCode, P c = true) : L.all P = true := by
  refine List.all_eq_true.mpr fun c hc => ?_
  have h := List.all_eq_true.mp h1 c hc
  rcases Bool.eq_false_or_eq_true (isCode c) with hi | hi
  · exact h2 c (List.mem_filter.mpr ⟨hc, hi⟩)
  · simpa [hi] using h
set_option maxRecDepth 65536 in
theorem w_c0 : (Jvm.Cond.code x code maxLocals ret).before args0 about1 = true := code_word (m := ⟨1, 2⟩) (meth := k1m2) (c := k1c2) (by decide +kernel) rfl rfl rfl (by decide +kernel)
set_option maxRecDepth 65536 in
theorem w_c1 : (Jvm.Cond.code ({ cls := "com/example/stanzary/stanzary/dialect/angle/AngleSyntaxEndsBarePinLaw", name := "pick", desc := "(II)C" } : Jvm.MethodName) method_2_code (3 : Nat) (Option.some Jvm.ClassFile.FieldType.char)).before args0 about1 = true := code_word (m := ⟨1, 1⟩) (meth := k1m1) (c := k1c1) (by decide +kernel) rfl rfl rfl (by decide +kernel)
set_option maxRecDepth 65536 in
theorem w_c2 : (Jvm.Cond.code ({ cls := "com/example/stanzary/stanzary/dialect/angle/AngleSyntax", name := "endsBare", desc := "(CZ)Z" } : Jvm.MethodName) prog_4_method_6_code (2 : Nat) (Option.some Jvm.ClassFile.FieldType.boolean)).before args0 about1 = true := code_word (m := ⟨3, 1⟩) (meth := k3m1) (c := k3c1) (by decide +kernel) rfl rfl rfl (by decide +kernel)
set_option maxRecDepth 65536 in
theorem w_c3 : (Jvm.Cond.code ({ cls := "com/example/stanzary/stanzary/dialect/angle/AngleSyntax", name := "isBlank", desc := "(C)Z" } : Jvm.MethodName) prog_4_method_7_code (1 : Nat) (Option.some Jvm.ClassFile.FieldType.boolean)).before args0 about1 = true := code_word (m := ⟨3, 2⟩) (meth := k3m2) (c := k3c2) (by decide +kernel) rfl rfl rfl (by decide +kernel)
def codes1 : List Jvm.Cond := [Jvm.Cond.code x code maxLocals ret, Jvm.Cond.code ({ cls := "com/example/stanzary/stanzary/dialect/angle/AngleSyntaxEndsBarePinLaw", name := "pick", desc := "(II)C" } : Jvm.MethodName) method_2_code (3 : Nat) (Option.some Jvm.ClassFile.FieldType.char), Jvm.Cond.code ({ cls := "com/example/stanzary/stanzary/dialect/angle/AngleSyntax", name := "endsBare", desc := "(CZ)Z" } : Jvm.MethodName) prog_4_method_6_code (2 : Nat) (Option.some Jvm.ClassFile.FieldType.boolean), Jvm.Cond.code ({ cls := "com/example/stanzary/stanzary/dialect/angle/AngleSyntax", name := "isBlank", desc := "(C)Z" } : Jvm.MethodName) prog_4_method_7_code (1 : Nat) (Option.some Jvm.ClassFile.FieldType.boolean)]
set_option maxRecDepth 65536 in
theorem codes_eq : words1.filter isCode = codes1 := rfl
theorem w_codes : ∀ c ∈ words1.filter isCode, c.before args0 about1 = true := by
  rw [codes_eq]
  intro c hc
  simp only [codes1, List.mem_cons, List.not_mem_nil, or_false] at hc
  rcases hc with rfl | rfl | rfl | rfl
  · exact w_c0
  · exact w_c1
  · exact w_c2
  · exact w_c3
set_option maxRecDepth 65536 in
theorem w_t1 : words1.all (fun c => isCode c || c.before args0 about1) = true := by decide +kernel
theorem w_tables : (allAtoms (Jvm.Cond.code x code maxLocals ret :: tables_1)).before args0 about1 = true := by
  rw [allAtoms_all]
  show words1.all (fun c => c.before args0 about1) = true
  refine all_split ?_ w_codes
  rw [w_t1]
set_option maxRecDepth 65536 in
theorem w_case : (Jvm.Cond.and given_1 narrow_1).before args0 about1 = true := by decide +kernel
theorem w_applies : (headSpec (Jvm.Cond.code x code maxLocals ret :: tables_1) room_1).applies x e0.platform about1 = true :=
  (Spec.applies_iff w_frames).mpr ⟨w_running, w_runnable, w_alone, w_named, w_hears, w_ripe, w_room, w_tables⟩
theorem atStart : AtStart classFile x code maxLocals ret World_1 tables_1 room_1 Calls_1 rest_1 Pre_1 launch0 p0 e0 about1 theMethod args0 below0 :=
  ⟨lists_1, trivial, launch0.admits_env _ _ _, launch0.least_env, fairChoices_fair.cas, fairChoices_fair.clock, w_frames, w_args, w_heap, w_applies, trivial, trivial, w_case⟩
end start1
theorem witness_1 : WitnessClaimed_1 := ⟨start1.p0, start1.e0, start1.about1, start1.theMethod, start1.args0, start1.below0, start1.atStart⟩
end Jvm.Pilot.@@N@@
