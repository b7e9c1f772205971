import JvmDerived
import JvmDerived.Pilot.@@N@@Statement
import JvmDerived.Pilot.@@N@@Code
set_option linter.unusedVariables false
set_option linter.unusedSimpArgs false
namespace Jvm.RoadKit
open Sem ClassFile Op Lib Jvm.Stand Jvm.Free Jvm.LawKit
section New
variable {p : Program} {l : Launch} {e : Env} {R : Room} {s : State} {m : MethodId} {args : Array Value} {below : List Frame} {meth : Method} {c : Code} {T : State} {locs : List Loc} {cells slots : Nat}
theorem retI (X : Stand p l e R s m args below meth c T locs cells slots) (hx : p.tables.exec = Jvm.exec) {pc : Nat} {Ls : Array Slot} {z : Int32} {rest : List Value} (hret : meth.sig.returnType = some .int) (hd : decode c.code pc = .ok (.ireturn, 1)) {fs : List Frame}
    (hl : ∀ (f : JFrame) (acts : List Action), f.method = m → f.locked = none → f.entered = [] → (doReturn e (T.setTop f) acts (some (.int z))).1 = T.setFrames fs) : Steps p.tables e below (T.setTop (mkF m pc Ls (.int z :: rest))) (T.setFrames fs) := by
  have hm' : T.vm.method? m = some meth := X.method'
  have hn : narrow .int (.int z) = .int z := rfl
  show Steps p.tables e below (T.setTop { method := m, pc := pc, locals := Ls, stack := _ :: rest, locked := none }) _
  jvm_step X.here [X.here.top, hx, hd, hm', hret, hn]
  first | (intro acts; rw [hl _ acts rfl rfl rfl]) | rw [hl _ _ rfl rfl rfl]
  exact Steps.refl _
theorem own_retL (X : Stand p l e R s m args below meth c T locs cells slots) (hx : p.tables.exec = Jvm.exec) {pc : Nat} {Ls : Array Slot} {z : Int64} {rest : List Value} (hret : meth.sig.returnType = some .long) (hd : decode c.code pc = .ok (.lreturn, 1)) {fs : List Frame}
    (hl : ∀ (f : JFrame) (acts : List Action), f.method = m → f.locked = none → f.entered = [] → (doReturn e (T.setTop f) acts (some (.long z))).1 = T.setFrames fs) : Steps p.tables e below (T.setTop (mkF m pc Ls (.long z :: rest))) (T.setFrames fs) :=
  retOut X hx hret rfl (Or.inr (Or.inl ⟨rfl, rfl, z, rfl⟩)) hd hl
/-- from the state T with the frame g on top the run comes to the invocation's end, returns v, and Q and the frame's bounds hold there -/
def own_Goes (p : Program) (e : Env) (below : List Frame) (s : State) (Q : Option Value → Heap → List Loc → Prop) (k n : Nat) (T : State) (g : JFrame) : Prop :=
  ∃ s₂ o, Steps p.tables e below (T.setTop g) s₂ ∧ s₂.status = .running ∧ Ended s₂ below o ∧ ∃ v L, o = .returned v ∧ Q v s₂.heap L ∧ FrameEnd s o s₂ L k n
theorem own_step {Q : Option Value → Heap → List Loc → Prop} {k n : Nat} {T T' : State} {g g' : JFrame} (h : ∀ t, Steps p.tables e below (T'.setTop g') t → Steps p.tables e below (T.setTop g) t) (w : own_Goes p e below s Q k n T' g') : own_Goes p e below s Q k n T g := by
  obtain ⟨s₂, o, h1, r⟩ := w
  exact ⟨s₂, o, h _ h1, r⟩
theorem own_ret {x : MethodName} {S : Spec} {code : ByteArray} {maxLocals : Nat} {ret : Option FieldType} {s₁ : State} (X : Stand p l e R s m args below meth c T locs cells slots) (Bd : BodyLoose p l x S code maxLocals ret e s m args below meth c s₁) {v : Option Value} (hv : meth.sig.returnType = none → v = none) {g : JFrame}
    (hst : ∀ fs, (∀ (f : JFrame) (acts : List Action), f.method = m → f.locked = none → f.entered = [] → (doReturn e (T.setTop f) acts v).1 = T.setFrames fs) → Steps p.tables e below (T.setTop g) (T.setFrames fs)) {Q : Option Value → Heap → List Loc → Prop} (hQ : Q v T.heap locs) {k n : Nat} (hk : cells ≤ k) (hn : slots ≤ n) : own_Goes p e below s Q k n T g := by
  obtain ⟨fs, hr, hrun, hended, hW, hsame⟩ := X.leave (v := v) hv
  exact ⟨_, _, hst fs hr, hrun, hended, _, _, rfl, hQ, ⟨_, rfl⟩, hW, hsame.mono hk hn⟩
/-- what a body leaves that writes nothing: the value r, the heap as it was -/
def own_Pure (r : Value) (h0 : Heap) (n0 : Nat) (v : Option Value) (h : Heap) (L : List Loc) : Prop := v = some r ∧ Fr n0 L ∧ h = h0
/-- what the law leaves -/
def own_Law (n0 : Nat) (v : Option Value) (_ : Heap) (L : List Loc) : Prop := v = some (.int 1) ∧ Fr n0 L
end New
theorem own_getD (ws : List Int32) (i : Nat) : (ws.map Value.int).getD i (.int (0 : Int32)) = .int (ws.getD i (0 : Int32)) := by
  induction ws generalizing i with
  | nil => rfl
  | cons a r ih => cases i with
    | zero => rfl
    | succ j => exact ih j
end Jvm.RoadKit
namespace Jvm.Pilot.@@N@@
open Jvm Jvm.ClassFile Sem Op Lib Jvm.Free Jvm.Stand Jvm.LawKit Jvm.RoadKit Bundle Jvm.Pilot.@@N@@.Jvm.D
theorem pd_0 : parseMethodDescriptor "(I)Z" = some ⟨[.int], some .boolean⟩ := by decide +kernel
theorem d1_0 : decode prog_146_method_2_code 0 = .ok (.iload_n 0, 1) := by decide +kernel
theorem d1_1 : decode prog_146_method_2_code 1 = .ok (.bipush 65, 2) := by decide +kernel
theorem d1_3 : decode prog_146_method_2_code 3 = .ok (.if_icmp .lt 9, 3) := by decide +kernel
theorem d1_6 : decode prog_146_method_2_code 6 = .ok (.iload_n 0, 1) := by decide +kernel
theorem d1_7 : decode prog_146_method_2_code 7 = .ok (.bipush 90, 2) := by decide +kernel
theorem d1_9 : decode prog_146_method_2_code 9 = .ok (.if_icmp .le 176, 3) := by decide +kernel
theorem d1_12 : decode prog_146_method_2_code 12 = .ok (.iload_n 0, 1) := by decide +kernel
theorem d1_13 : decode prog_146_method_2_code 13 = .ok (.bipush 97, 2) := by decide +kernel
theorem d1_15 : decode prog_146_method_2_code 15 = .ok (.if_icmp .lt 9, 3) := by decide +kernel
theorem d1_18 : decode prog_146_method_2_code 18 = .ok (.iload_n 0, 1) := by decide +kernel
theorem d1_19 : decode prog_146_method_2_code 19 = .ok (.bipush 122, 2) := by decide +kernel
theorem d1_21 : decode prog_146_method_2_code 21 = .ok (.if_icmp .le 164, 3) := by decide +kernel
theorem d1_24 : decode prog_146_method_2_code 24 = .ok (.iload_n 0, 1) := by decide +kernel
theorem d1_25 : decode prog_146_method_2_code 25 = .ok (.sipush 192, 3) := by decide +kernel
theorem d1_28 : decode prog_146_method_2_code 28 = .ok (.if_icmp .lt 10, 3) := by decide +kernel
theorem d1_31 : decode prog_146_method_2_code 31 = .ok (.iload_n 0, 1) := by decide +kernel
theorem d1_32 : decode prog_146_method_2_code 32 = .ok (.sipush 214, 3) := by decide +kernel
theorem d1_35 : decode prog_146_method_2_code 35 = .ok (.if_icmp .le 150, 3) := by decide +kernel
theorem d1_38 : decode prog_146_method_2_code 38 = .ok (.iload_n 0, 1) := by decide +kernel
theorem d1_39 : decode prog_146_method_2_code 39 = .ok (.sipush 216, 3) := by decide +kernel
theorem d1_42 : decode prog_146_method_2_code 42 = .ok (.if_icmp .lt 10, 3) := by decide +kernel
theorem d1_45 : decode prog_146_method_2_code 45 = .ok (.iload_n 0, 1) := by decide +kernel
theorem d1_46 : decode prog_146_method_2_code 46 = .ok (.sipush 246, 3) := by decide +kernel
theorem d1_49 : decode prog_146_method_2_code 49 = .ok (.if_icmp .le 136, 3) := by decide +kernel
theorem d1_52 : decode prog_146_method_2_code 52 = .ok (.iload_n 0, 1) := by decide +kernel
theorem d1_53 : decode prog_146_method_2_code 53 = .ok (.sipush 248, 3) := by decide +kernel
theorem d1_56 : decode prog_146_method_2_code 56 = .ok (.if_icmp .lt 10, 3) := by decide +kernel
theorem d1_59 : decode prog_146_method_2_code 59 = .ok (.iload_n 0, 1) := by decide +kernel
theorem d1_60 : decode prog_146_method_2_code 60 = .ok (.sipush 767, 3) := by decide +kernel
theorem d1_63 : decode prog_146_method_2_code 63 = .ok (.if_icmp .le 122, 3) := by decide +kernel
theorem d1_66 : decode prog_146_method_2_code 66 = .ok (.iload_n 0, 1) := by decide +kernel
theorem d1_67 : decode prog_146_method_2_code 67 = .ok (.sipush 880, 3) := by decide +kernel
theorem d1_70 : decode prog_146_method_2_code 70 = .ok (.if_icmp .lt 10, 3) := by decide +kernel
theorem d1_73 : decode prog_146_method_2_code 73 = .ok (.iload_n 0, 1) := by decide +kernel
theorem d1_74 : decode prog_146_method_2_code 74 = .ok (.sipush 893, 3) := by decide +kernel
theorem d1_77 : decode prog_146_method_2_code 77 = .ok (.if_icmp .le 108, 3) := by decide +kernel
theorem d1_80 : decode prog_146_method_2_code 80 = .ok (.iload_n 0, 1) := by decide +kernel
theorem d1_81 : decode prog_146_method_2_code 81 = .ok (.sipush 895, 3) := by decide +kernel
theorem d1_84 : decode prog_146_method_2_code 84 = .ok (.if_icmp .lt 10, 3) := by decide +kernel
theorem d1_87 : decode prog_146_method_2_code 87 = .ok (.iload_n 0, 1) := by decide +kernel
theorem d1_88 : decode prog_146_method_2_code 88 = .ok (.sipush 8191, 3) := by decide +kernel
theorem d1_91 : decode prog_146_method_2_code 91 = .ok (.if_icmp .le 94, 3) := by decide +kernel
theorem d1_94 : decode prog_146_method_2_code 94 = .ok (.iload_n 0, 1) := by decide +kernel
theorem d1_95 : decode prog_146_method_2_code 95 = .ok (.sipush 8204, 3) := by decide +kernel
theorem d1_98 : decode prog_146_method_2_code 98 = .ok (.if_icmp .lt 10, 3) := by decide +kernel
theorem d1_101 : decode prog_146_method_2_code 101 = .ok (.iload_n 0, 1) := by decide +kernel
theorem d1_102 : decode prog_146_method_2_code 102 = .ok (.sipush 8205, 3) := by decide +kernel
theorem d1_105 : decode prog_146_method_2_code 105 = .ok (.if_icmp .le 80, 3) := by decide +kernel
theorem d1_108 : decode prog_146_method_2_code 108 = .ok (.iload_n 0, 1) := by decide +kernel
theorem d1_109 : decode prog_146_method_2_code 109 = .ok (.sipush 8304, 3) := by decide +kernel
theorem d1_112 : decode prog_146_method_2_code 112 = .ok (.if_icmp .lt 10, 3) := by decide +kernel
theorem d1_115 : decode prog_146_method_2_code 115 = .ok (.iload_n 0, 1) := by decide +kernel
theorem d1_116 : decode prog_146_method_2_code 116 = .ok (.sipush 8591, 3) := by decide +kernel
theorem d1_119 : decode prog_146_method_2_code 119 = .ok (.if_icmp .le 66, 3) := by decide +kernel
theorem d1_122 : decode prog_146_method_2_code 122 = .ok (.iload_n 0, 1) := by decide +kernel
theorem d1_123 : decode prog_146_method_2_code 123 = .ok (.sipush 11264, 3) := by decide +kernel
theorem d1_126 : decode prog_146_method_2_code 126 = .ok (.if_icmp .lt 10, 3) := by decide +kernel
theorem d1_129 : decode prog_146_method_2_code 129 = .ok (.iload_n 0, 1) := by decide +kernel
theorem d1_130 : decode prog_146_method_2_code 130 = .ok (.sipush 12271, 3) := by decide +kernel
theorem d1_133 : decode prog_146_method_2_code 133 = .ok (.if_icmp .le 52, 3) := by decide +kernel
theorem d1_136 : decode prog_146_method_2_code 136 = .ok (.iload_n 0, 1) := by decide +kernel
theorem d1_137 : decode prog_146_method_2_code 137 = .ok (.sipush 12289, 3) := by decide +kernel
theorem d1_140 : decode prog_146_method_2_code 140 = .ok (.if_icmp .lt 9, 3) := by decide +kernel
theorem d1_143 : decode prog_146_method_2_code 143 = .ok (.iload_n 0, 1) := by decide +kernel
theorem d1_144 : decode prog_146_method_2_code 144 = .ok (.ldc 7, 2) := by decide +kernel
theorem d1_146 : decode prog_146_method_2_code 146 = .ok (.if_icmp .le 39, 3) := by decide +kernel
theorem d1_149 : decode prog_146_method_2_code 149 = .ok (.iload_n 0, 1) := by decide +kernel
theorem d1_150 : decode prog_146_method_2_code 150 = .ok (.ldc 8, 2) := by decide +kernel
theorem d1_152 : decode prog_146_method_2_code 152 = .ok (.if_icmp .lt 9, 3) := by decide +kernel
theorem d1_155 : decode prog_146_method_2_code 155 = .ok (.iload_n 0, 1) := by decide +kernel
theorem d1_156 : decode prog_146_method_2_code 156 = .ok (.ldc 9, 2) := by decide +kernel
theorem d1_158 : decode prog_146_method_2_code 158 = .ok (.if_icmp .le 27, 3) := by decide +kernel
theorem d1_161 : decode prog_146_method_2_code 161 = .ok (.iload_n 0, 1) := by decide +kernel
theorem d1_162 : decode prog_146_method_2_code 162 = .ok (.ldc 10, 2) := by decide +kernel
theorem d1_164 : decode prog_146_method_2_code 164 = .ok (.if_icmp .lt 9, 3) := by decide +kernel
theorem d1_167 : decode prog_146_method_2_code 167 = .ok (.iload_n 0, 1) := by decide +kernel
theorem d1_168 : decode prog_146_method_2_code 168 = .ok (.ldc 11, 2) := by decide +kernel
theorem d1_170 : decode prog_146_method_2_code 170 = .ok (.if_icmp .le 15, 3) := by decide +kernel
theorem d1_173 : decode prog_146_method_2_code 173 = .ok (.iload_n 0, 1) := by decide +kernel
theorem d1_174 : decode prog_146_method_2_code 174 = .ok (.ldc 12, 2) := by decide +kernel
theorem d1_176 : decode prog_146_method_2_code 176 = .ok (.if_icmp .lt 13, 3) := by decide +kernel
theorem d1_179 : decode prog_146_method_2_code 179 = .ok (.iload_n 0, 1) := by decide +kernel
theorem d1_180 : decode prog_146_method_2_code 180 = .ok (.ldc 13, 2) := by decide +kernel
theorem d1_182 : decode prog_146_method_2_code 182 = .ok (.if_icmp .gt 7, 3) := by decide +kernel
theorem d1_185 : decode prog_146_method_2_code 185 = .ok (.iconst 1, 1) := by decide +kernel
theorem d1_186 : decode prog_146_method_2_code 186 = .ok (.goto 4, 3) := by decide +kernel
theorem d1_189 : decode prog_146_method_2_code 189 = .ok (.iconst 0, 1) := by decide +kernel
theorem d1_190 : decode prog_146_method_2_code 190 = .ok (.ireturn, 1) := by decide +kernel
theorem pn_1 : plainName "com/example/graphwright/graphwright/model/Terminals" = true := by first | (simp [plainName, overriddenIn]; done) | decide +kernel
theorem ef_1 (m : MethodId) (x0 : Int32) : entryFrame m #[(.int x0)] 1 = mkF m 0 #[.val (.int x0)] [] := by first | (simp [entryFrame, mkF, argsToLocals, Value.category]; done) | rfl
def f1_190 (t0 : Int32) : Int32 := (t0 &&& 1)
def f1_189 : Int32 := f1_190 (0 : Int32)
def f1_185 : Int32 := f1_190 (1 : Int32)
def f1_179 (x0 : Int32) : Int32 := if (983039 : Int32) < x0 then f1_189 else f1_185
def f1_173 (x0 : Int32) : Int32 := if x0 < (65536 : Int32) then f1_189 else f1_179 x0
def f1_167 (x0 : Int32) : Int32 := if (65533 : Int32) < x0 then f1_173 x0 else f1_185
def f1_161 (x0 : Int32) : Int32 := if x0 < (65008 : Int32) then f1_173 x0 else f1_167 x0
def f1_155 (x0 : Int32) : Int32 := if (64975 : Int32) < x0 then f1_161 x0 else f1_185
def f1_149 (x0 : Int32) : Int32 := if x0 < (63744 : Int32) then f1_161 x0 else f1_155 x0
def f1_143 (x0 : Int32) : Int32 := if (55295 : Int32) < x0 then f1_149 x0 else f1_185
def f1_136 (x0 : Int32) : Int32 := if x0 < (12289 : Int32) then f1_149 x0 else f1_143 x0
def f1_129 (x0 : Int32) : Int32 := if (12271 : Int32) < x0 then f1_136 x0 else f1_185
def f1_122 (x0 : Int32) : Int32 := if x0 < (11264 : Int32) then f1_136 x0 else f1_129 x0
def f1_115 (x0 : Int32) : Int32 := if (8591 : Int32) < x0 then f1_122 x0 else f1_185
def f1_108 (x0 : Int32) : Int32 := if x0 < (8304 : Int32) then f1_122 x0 else f1_115 x0
def f1_101 (x0 : Int32) : Int32 := if (8205 : Int32) < x0 then f1_108 x0 else f1_185
def f1_94 (x0 : Int32) : Int32 := if x0 < (8204 : Int32) then f1_108 x0 else f1_101 x0
def f1_87 (x0 : Int32) : Int32 := if (8191 : Int32) < x0 then f1_94 x0 else f1_185
def f1_80 (x0 : Int32) : Int32 := if x0 < (895 : Int32) then f1_94 x0 else f1_87 x0
def f1_73 (x0 : Int32) : Int32 := if (893 : Int32) < x0 then f1_80 x0 else f1_185
def f1_66 (x0 : Int32) : Int32 := if x0 < (880 : Int32) then f1_80 x0 else f1_73 x0
def f1_59 (x0 : Int32) : Int32 := if (767 : Int32) < x0 then f1_66 x0 else f1_185
def f1_52 (x0 : Int32) : Int32 := if x0 < (248 : Int32) then f1_66 x0 else f1_59 x0
def f1_45 (x0 : Int32) : Int32 := if (246 : Int32) < x0 then f1_52 x0 else f1_185
def f1_38 (x0 : Int32) : Int32 := if x0 < (216 : Int32) then f1_52 x0 else f1_45 x0
def f1_31 (x0 : Int32) : Int32 := if (214 : Int32) < x0 then f1_38 x0 else f1_185
def f1_24 (x0 : Int32) : Int32 := if x0 < (192 : Int32) then f1_38 x0 else f1_31 x0
def f1_18 (x0 : Int32) : Int32 := if (122 : Int32) < x0 then f1_24 x0 else f1_185
def f1_12 (x0 : Int32) : Int32 := if x0 < (97 : Int32) then f1_24 x0 else f1_18 x0
def f1_6 (x0 : Int32) : Int32 := if (90 : Int32) < x0 then f1_12 x0 else f1_185
def f1_0 (x0 : Int32) : Int32 := if x0 < (65 : Int32) then f1_12 x0 else f1_6 x0
theorem d2_0 : decode method_3_code 0 = .ok (.iload_n 0, 1) := by decide +kernel
theorem d2_1 : decode method_3_code 1 = .ok (.bipush 65, 2) := by decide +kernel
theorem d2_3 : decode method_3_code 3 = .ok (.if_icmp .ge 5, 3) := by decide +kernel
theorem d2_6 : decode method_3_code 6 = .ok (.iconst 1, 1) := by decide +kernel
theorem d2_7 : decode method_3_code 7 = .ok (.ireturn, 1) := by decide +kernel
theorem d2_8 : decode method_3_code 8 = .ok (.iload_n 0, 1) := by decide +kernel
theorem d2_9 : decode method_3_code 9 = .ok (.ldc 13, 2) := by decide +kernel
theorem d2_11 : decode method_3_code 11 = .ok (.if_icmp .le 5, 3) := by decide +kernel
theorem d2_14 : decode method_3_code 14 = .ok (.iconst 1, 1) := by decide +kernel
theorem d2_15 : decode method_3_code 15 = .ok (.ireturn, 1) := by decide +kernel
theorem d2_16 : decode method_3_code 16 = .ok (.iload_n 0, 1) := by decide +kernel
theorem d2_17 : decode method_3_code 17 = .ok (.bipush 91, 2) := by decide +kernel
theorem d2_19 : decode method_3_code 19 = .ok (.if_icmp .lt 11, 3) := by decide +kernel
theorem d2_22 : decode method_3_code 22 = .ok (.iload_n 0, 1) := by decide +kernel
theorem d2_23 : decode method_3_code 23 = .ok (.bipush 96, 2) := by decide +kernel
theorem d2_25 : decode method_3_code 25 = .ok (.if_icmp .gt 5, 3) := by decide +kernel
theorem d2_28 : decode method_3_code 28 = .ok (.iconst 1, 1) := by decide +kernel
theorem d2_29 : decode method_3_code 29 = .ok (.ireturn, 1) := by decide +kernel
theorem d2_30 : decode method_3_code 30 = .ok (.iload_n 0, 1) := by decide +kernel
theorem d2_31 : decode method_3_code 31 = .ok (.bipush 123, 2) := by decide +kernel
theorem d2_33 : decode method_3_code 33 = .ok (.if_icmp .lt 12, 3) := by decide +kernel
theorem d2_36 : decode method_3_code 36 = .ok (.iload_n 0, 1) := by decide +kernel
theorem d2_37 : decode method_3_code 37 = .ok (.sipush 191, 3) := by decide +kernel
theorem d2_40 : decode method_3_code 40 = .ok (.if_icmp .gt 5, 3) := by decide +kernel
theorem d2_43 : decode method_3_code 43 = .ok (.iconst 1, 1) := by decide +kernel
theorem d2_44 : decode method_3_code 44 = .ok (.ireturn, 1) := by decide +kernel
theorem d2_45 : decode method_3_code 45 = .ok (.iload_n 0, 1) := by decide +kernel
theorem d2_46 : decode method_3_code 46 = .ok (.sipush 215, 3) := by decide +kernel
theorem d2_49 : decode method_3_code 49 = .ok (.if_icmp .eq 10, 3) := by decide +kernel
theorem d2_52 : decode method_3_code 52 = .ok (.iload_n 0, 1) := by decide +kernel
theorem d2_53 : decode method_3_code 53 = .ok (.sipush 247, 3) := by decide +kernel
theorem d2_56 : decode method_3_code 56 = .ok (.if_icmp .ne 5, 3) := by decide +kernel
theorem d2_59 : decode method_3_code 59 = .ok (.iconst 1, 1) := by decide +kernel
theorem d2_60 : decode method_3_code 60 = .ok (.ireturn, 1) := by decide +kernel
theorem d2_61 : decode method_3_code 61 = .ok (.iload_n 0, 1) := by decide +kernel
theorem d2_62 : decode method_3_code 62 = .ok (.sipush 768, 3) := by decide +kernel
theorem d2_65 : decode method_3_code 65 = .ok (.if_icmp .lt 12, 3) := by decide +kernel
theorem d2_68 : decode method_3_code 68 = .ok (.iload_n 0, 1) := by decide +kernel
theorem d2_69 : decode method_3_code 69 = .ok (.sipush 879, 3) := by decide +kernel
theorem d2_72 : decode method_3_code 72 = .ok (.if_icmp .gt 5, 3) := by decide +kernel
theorem d2_75 : decode method_3_code 75 = .ok (.iconst 1, 1) := by decide +kernel
theorem d2_76 : decode method_3_code 76 = .ok (.ireturn, 1) := by decide +kernel
theorem d2_77 : decode method_3_code 77 = .ok (.iload_n 0, 1) := by decide +kernel
theorem d2_78 : decode method_3_code 78 = .ok (.sipush 894, 3) := by decide +kernel
theorem d2_81 : decode method_3_code 81 = .ok (.if_icmp .ne 5, 3) := by decide +kernel
theorem d2_84 : decode method_3_code 84 = .ok (.iconst 1, 1) := by decide +kernel
theorem d2_85 : decode method_3_code 85 = .ok (.ireturn, 1) := by decide +kernel
theorem d2_86 : decode method_3_code 86 = .ok (.iload_n 0, 1) := by decide +kernel
theorem d2_87 : decode method_3_code 87 = .ok (.sipush 8192, 3) := by decide +kernel
theorem d2_90 : decode method_3_code 90 = .ok (.if_icmp .lt 12, 3) := by decide +kernel
theorem d2_93 : decode method_3_code 93 = .ok (.iload_n 0, 1) := by decide +kernel
theorem d2_94 : decode method_3_code 94 = .ok (.sipush 8203, 3) := by decide +kernel
theorem d2_97 : decode method_3_code 97 = .ok (.if_icmp .gt 5, 3) := by decide +kernel
theorem d2_100 : decode method_3_code 100 = .ok (.iconst 1, 1) := by decide +kernel
theorem d2_101 : decode method_3_code 101 = .ok (.ireturn, 1) := by decide +kernel
theorem d2_102 : decode method_3_code 102 = .ok (.iload_n 0, 1) := by decide +kernel
theorem d2_103 : decode method_3_code 103 = .ok (.sipush 8206, 3) := by decide +kernel
theorem d2_106 : decode method_3_code 106 = .ok (.if_icmp .lt 12, 3) := by decide +kernel
theorem d2_109 : decode method_3_code 109 = .ok (.iload_n 0, 1) := by decide +kernel
theorem d2_110 : decode method_3_code 110 = .ok (.sipush 8303, 3) := by decide +kernel
theorem d2_113 : decode method_3_code 113 = .ok (.if_icmp .gt 5, 3) := by decide +kernel
theorem d2_116 : decode method_3_code 116 = .ok (.iconst 1, 1) := by decide +kernel
theorem d2_117 : decode method_3_code 117 = .ok (.ireturn, 1) := by decide +kernel
theorem d2_118 : decode method_3_code 118 = .ok (.iload_n 0, 1) := by decide +kernel
theorem d2_119 : decode method_3_code 119 = .ok (.sipush 8592, 3) := by decide +kernel
theorem d2_122 : decode method_3_code 122 = .ok (.if_icmp .lt 12, 3) := by decide +kernel
theorem d2_125 : decode method_3_code 125 = .ok (.iload_n 0, 1) := by decide +kernel
theorem d2_126 : decode method_3_code 126 = .ok (.sipush 11263, 3) := by decide +kernel
theorem d2_129 : decode method_3_code 129 = .ok (.if_icmp .gt 5, 3) := by decide +kernel
theorem d2_132 : decode method_3_code 132 = .ok (.iconst 1, 1) := by decide +kernel
theorem d2_133 : decode method_3_code 133 = .ok (.ireturn, 1) := by decide +kernel
theorem d2_134 : decode method_3_code 134 = .ok (.iload_n 0, 1) := by decide +kernel
theorem d2_135 : decode method_3_code 135 = .ok (.sipush 12272, 3) := by decide +kernel
theorem d2_138 : decode method_3_code 138 = .ok (.if_icmp .lt 12, 3) := by decide +kernel
theorem d2_141 : decode method_3_code 141 = .ok (.iload_n 0, 1) := by decide +kernel
theorem d2_142 : decode method_3_code 142 = .ok (.sipush 12288, 3) := by decide +kernel
theorem d2_145 : decode method_3_code 145 = .ok (.if_icmp .gt 5, 3) := by decide +kernel
theorem d2_148 : decode method_3_code 148 = .ok (.iconst 1, 1) := by decide +kernel
theorem d2_149 : decode method_3_code 149 = .ok (.ireturn, 1) := by decide +kernel
theorem d2_150 : decode method_3_code 150 = .ok (.iload_n 0, 1) := by decide +kernel
theorem d2_151 : decode method_3_code 151 = .ok (.ldc 26, 2) := by decide +kernel
theorem d2_153 : decode method_3_code 153 = .ok (.if_icmp .lt 11, 3) := by decide +kernel
theorem d2_156 : decode method_3_code 156 = .ok (.iload_n 0, 1) := by decide +kernel
theorem d2_157 : decode method_3_code 157 = .ok (.ldc 27, 2) := by decide +kernel
theorem d2_159 : decode method_3_code 159 = .ok (.if_icmp .gt 5, 3) := by decide +kernel
theorem d2_162 : decode method_3_code 162 = .ok (.iconst 1, 1) := by decide +kernel
theorem d2_163 : decode method_3_code 163 = .ok (.ireturn, 1) := by decide +kernel
theorem d2_164 : decode method_3_code 164 = .ok (.iload_n 0, 1) := by decide +kernel
theorem d2_165 : decode method_3_code 165 = .ok (.ldc 28, 2) := by decide +kernel
theorem d2_167 : decode method_3_code 167 = .ok (.if_icmp .lt 11, 3) := by decide +kernel
theorem d2_170 : decode method_3_code 170 = .ok (.iload_n 0, 1) := by decide +kernel
theorem d2_171 : decode method_3_code 171 = .ok (.ldc 29, 2) := by decide +kernel
theorem d2_173 : decode method_3_code 173 = .ok (.if_icmp .gt 5, 3) := by decide +kernel
theorem d2_176 : decode method_3_code 176 = .ok (.iconst 1, 1) := by decide +kernel
theorem d2_177 : decode method_3_code 177 = .ok (.ireturn, 1) := by decide +kernel
theorem d2_178 : decode method_3_code 178 = .ok (.iload_n 0, 1) := by decide +kernel
theorem d2_179 : decode method_3_code 179 = .ok (.ldc 30, 2) := by decide +kernel
theorem d2_181 : decode method_3_code 181 = .ok (.if_icmp .lt 11, 3) := by decide +kernel
theorem d2_184 : decode method_3_code 184 = .ok (.iload_n 0, 1) := by decide +kernel
theorem d2_185 : decode method_3_code 185 = .ok (.ldc 31, 2) := by decide +kernel
theorem d2_187 : decode method_3_code 187 = .ok (.if_icmp .gt 5, 3) := by decide +kernel
theorem d2_190 : decode method_3_code 190 = .ok (.iconst 1, 1) := by decide +kernel
theorem d2_191 : decode method_3_code 191 = .ok (.ireturn, 1) := by decide +kernel
theorem d2_192 : decode method_3_code 192 = .ok (.iconst 0, 1) := by decide +kernel
theorem d2_193 : decode method_3_code 193 = .ok (.ireturn, 1) := by decide +kernel
theorem pn_2 : plainName "com/example/graphwright/graphwright/model/TerminalsIsPnCharsBasePinLaw" = true := by first | (simp [plainName, overriddenIn]; done) | decide +kernel
theorem ef_2 (m : MethodId) (x0 : Int32) : entryFrame m #[(.int x0)] 1 = mkF m 0 #[.val (.int x0)] [] := by first | (simp [entryFrame, mkF, argsToLocals, Value.category]; done) | rfl
def f2_192 : Int32 := ((0 : Int32) &&& 1)
def f2_190 : Int32 := ((1 : Int32) &&& 1)
def f2_184 (x0 : Int32) : Int32 := if (65535 : Int32) < x0 then f2_192 else f2_190
def f2_178 (x0 : Int32) : Int32 := if x0 < (65534 : Int32) then f2_192 else f2_184 x0
def f2_176 : Int32 := ((1 : Int32) &&& 1)
def f2_170 (x0 : Int32) : Int32 := if (65007 : Int32) < x0 then f2_178 x0 else f2_176
def f2_164 (x0 : Int32) : Int32 := if x0 < (64976 : Int32) then f2_178 x0 else f2_170 x0
def f2_162 : Int32 := ((1 : Int32) &&& 1)
def f2_156 (x0 : Int32) : Int32 := if (63743 : Int32) < x0 then f2_164 x0 else f2_162
def f2_150 (x0 : Int32) : Int32 := if x0 < (55296 : Int32) then f2_164 x0 else f2_156 x0
def f2_148 : Int32 := ((1 : Int32) &&& 1)
def f2_141 (x0 : Int32) : Int32 := if (12288 : Int32) < x0 then f2_150 x0 else f2_148
def f2_134 (x0 : Int32) : Int32 := if x0 < (12272 : Int32) then f2_150 x0 else f2_141 x0
def f2_132 : Int32 := ((1 : Int32) &&& 1)
def f2_125 (x0 : Int32) : Int32 := if (11263 : Int32) < x0 then f2_134 x0 else f2_132
def f2_118 (x0 : Int32) : Int32 := if x0 < (8592 : Int32) then f2_134 x0 else f2_125 x0
def f2_116 : Int32 := ((1 : Int32) &&& 1)
def f2_109 (x0 : Int32) : Int32 := if (8303 : Int32) < x0 then f2_118 x0 else f2_116
def f2_102 (x0 : Int32) : Int32 := if x0 < (8206 : Int32) then f2_118 x0 else f2_109 x0
def f2_100 : Int32 := ((1 : Int32) &&& 1)
def f2_93 (x0 : Int32) : Int32 := if (8203 : Int32) < x0 then f2_102 x0 else f2_100
def f2_86 (x0 : Int32) : Int32 := if x0 < (8192 : Int32) then f2_102 x0 else f2_93 x0
def f2_84 : Int32 := ((1 : Int32) &&& 1)
def f2_77 (x0 : Int32) : Int32 := if x0 = (894 : Int32) then f2_84 else f2_86 x0
def f2_75 : Int32 := ((1 : Int32) &&& 1)
def f2_68 (x0 : Int32) : Int32 := if (879 : Int32) < x0 then f2_77 x0 else f2_75
def f2_61 (x0 : Int32) : Int32 := if x0 < (768 : Int32) then f2_77 x0 else f2_68 x0
def f2_59 : Int32 := ((1 : Int32) &&& 1)
def f2_52 (x0 : Int32) : Int32 := if x0 = (247 : Int32) then f2_59 else f2_61 x0
def f2_45 (x0 : Int32) : Int32 := if x0 = (215 : Int32) then f2_59 else f2_52 x0
def f2_43 : Int32 := ((1 : Int32) &&& 1)
def f2_36 (x0 : Int32) : Int32 := if (191 : Int32) < x0 then f2_45 x0 else f2_43
def f2_30 (x0 : Int32) : Int32 := if x0 < (123 : Int32) then f2_45 x0 else f2_36 x0
def f2_28 : Int32 := ((1 : Int32) &&& 1)
def f2_22 (x0 : Int32) : Int32 := if (96 : Int32) < x0 then f2_30 x0 else f2_28
def f2_16 (x0 : Int32) : Int32 := if x0 < (91 : Int32) then f2_30 x0 else f2_22 x0
def f2_14 : Int32 := ((1 : Int32) &&& 1)
def f2_8 (x0 : Int32) : Int32 := if (983039 : Int32) < x0 then f2_14 else f2_16 x0
def f2_6 : Int32 := ((1 : Int32) &&& 1)
def f2_0 (x0 : Int32) : Int32 := if x0 < (65 : Int32) then f2_6 else f2_8 x0
theorem pn_0 : plainName "com/example/graphwright/graphwright/model/TerminalsIsPnCharsBasePinLaw" = true := by first | (simp [plainName, overriddenIn]; done) | decide +kernel
theorem ef_0 (m : MethodId) (x0 : Int32) (x1 : Int32) (x2 : Int32) : entryFrame m #[(.int x0), (.int x1), (.int x2)] maxLocals = mkF m 0 #[.val (.int x0), .val (.int x1), .val (.int x2), .unset, .unset, .unset, .unset] [] := by first | (simp [entryFrame, mkF, argsToLocals, Value.category, maxLocals]; done) | rfl
def own_a0_219 : List Int32 := [65, 90, 97, 122, 192, 214, 216, 246, 248, 767, 880, 893, 895, 8191, 8204, 8205, 8304, 8591, 11264, 12271, 12289, 55295, 63744, 64975, 65008, 65533, 65536, 983039]
def f0_251 (t0 : Int32) : Int32 := (t0 &&& 1)
def f0_250 : Int32 := f0_251 (0 : Int32)
def f0_246 : Int32 := f0_251 (1 : Int32)
def f0_243 (t0 : Int32) (t1 : Int32) : Int32 := if t1 = t0 then f0_246 else f0_250
def f0_242 (t0 : Int32) : Int32 := f0_243 (0 : Int32) t0
def f0_238 (t0 : Int32) : Int32 := f0_243 (1 : Int32) t0
def f0_225 (x4 : Int32) : Int32 := if (f2_0 x4) = (0 : Int32) then f0_238 (f1_0 x4) else f0_242 (f1_0 x4)
def f0_196 (x1 : Int32) (x2 : Int32) : Int32 := f0_225 ((own_a0_219.getD ((((x1.toUInt32 >>> ((1 : Int32) &&& 31).toUInt32).toInt32) &&& (1073741823 : Int32)) % (28 : Int32)).toNatClampNeg (0 : Int32)) + (((x2 &&& (3 : Int32)) % (3 : Int32)) - (1 : Int32)))
def f0_190 (x0 : Int32) : Int32 := f0_225 x0
def f0_0 (x0 : Int32) (x1 : Int32) (x2 : Int32) : Int32 := if (x1 &&& (1 : Int32)) = (0 : Int32) then f0_190 x0 else f0_196 x1 x2
-- the plain law: no program in sight
theorem own_lt {x k : Int32} {i : Int} (hk : k.toInt = i) (h : x.toInt < i) : x < k := by rw [Int32.lt_iff_toInt_lt, hk]; exact h
theorem own_nlt {x k : Int32} {i : Int} (hk : k.toInt = i) (h : i ≤ x.toInt) : ¬ x < k := by rw [Int32.lt_iff_toInt_lt, hk]; omega
theorem own_gt {x k : Int32} {i : Int} (hk : k.toInt = i) (h : i < x.toInt) : k < x := by rw [Int32.lt_iff_toInt_lt, hk]; exact h
theorem own_ngt {x k : Int32} {i : Int} (hk : k.toInt = i) (h : x.toInt ≤ i) : ¬ k < x := by rw [Int32.lt_iff_toInt_lt, hk]; omega
theorem own_eq {x k : Int32} {i : Int} (hk : k.toInt = i) (h : x.toInt = i) : x = k := Int32.toInt_inj.mp (h.trans hk.symm)
theorem own_neq {x k : Int32} {i : Int} (hk : k.toInt = i) (h : x.toInt ≠ i) : ¬ x = k := fun q => h ((congrArg Int32.toInt q).trans hk)
theorem own_iv0 (x : Int32) (h2 : x.toInt < 65) : f1_0 x = 0 ∧ f2_0 x = 1 :=
  ⟨(if_pos (own_lt (i := 65) (by decide) (by omega)) : f1_0 x = f1_12 x).trans ((if_pos (own_lt (i := 97) (by decide) (by omega)) : f1_12 x = f1_24 x).trans ((if_pos (own_lt (i := 192) (by decide) (by omega)) : f1_24 x = f1_38 x).trans ((if_pos (own_lt (i := 216) (by decide) (by omega)) : f1_38 x = f1_52 x).trans ((if_pos (own_lt (i := 248) (by decide) (by omega)) : f1_52 x = f1_66 x).trans ((if_pos (own_lt (i := 880) (by decide) (by omega)) : f1_66 x = f1_80 x).trans ((if_pos (own_lt (i := 895) (by decide) (by omega)) : f1_80 x = f1_94 x).trans ((if_pos (own_lt (i := 8204) (by decide) (by omega)) : f1_94 x = f1_108 x).trans ((if_pos (own_lt (i := 8304) (by decide) (by omega)) : f1_108 x = f1_122 x).trans ((if_pos (own_lt (i := 11264) (by decide) (by omega)) : f1_122 x = f1_136 x).trans ((if_pos (own_lt (i := 12289) (by decide) (by omega)) : f1_136 x = f1_149 x).trans ((if_pos (own_lt (i := 63744) (by decide) (by omega)) : f1_149 x = f1_161 x).trans ((if_pos (own_lt (i := 65008) (by decide) (by omega)) : f1_161 x = f1_173 x).trans ((if_pos (own_lt (i := 65536) (by decide) (by omega)) : f1_173 x = f1_189).trans ((rfl : f1_189 = 0))))))))))))))),
   (if_pos (own_lt (i := 65) (by decide) (by omega)) : f2_0 x = f2_6).trans ((rfl : f2_6 = 1))⟩
theorem own_iv1 (x : Int32) (h1 : 65 ≤ x.toInt) (h2 : x.toInt < 91) : f1_0 x = 1 ∧ f2_0 x = 0 :=
  ⟨(if_neg (own_nlt (i := 65) (by decide) (by omega)) : f1_0 x = f1_6 x).trans ((if_neg (own_ngt (i := 90) (by decide) (by omega)) : f1_6 x = f1_185).trans ((rfl : f1_185 = 1))),
   (if_neg (own_nlt (i := 65) (by decide) (by omega)) : f2_0 x = f2_8 x).trans ((if_neg (own_ngt (i := 983039) (by decide) (by omega)) : f2_8 x = f2_16 x).trans ((if_pos (own_lt (i := 91) (by decide) (by omega)) : f2_16 x = f2_30 x).trans ((if_pos (own_lt (i := 123) (by decide) (by omega)) : f2_30 x = f2_45 x).trans ((if_neg (own_neq (i := 215) (by decide) (by omega)) : f2_45 x = f2_52 x).trans ((if_neg (own_neq (i := 247) (by decide) (by omega)) : f2_52 x = f2_61 x).trans ((if_pos (own_lt (i := 768) (by decide) (by omega)) : f2_61 x = f2_77 x).trans ((if_neg (own_neq (i := 894) (by decide) (by omega)) : f2_77 x = f2_86 x).trans ((if_pos (own_lt (i := 8192) (by decide) (by omega)) : f2_86 x = f2_102 x).trans ((if_pos (own_lt (i := 8206) (by decide) (by omega)) : f2_102 x = f2_118 x).trans ((if_pos (own_lt (i := 8592) (by decide) (by omega)) : f2_118 x = f2_134 x).trans ((if_pos (own_lt (i := 12272) (by decide) (by omega)) : f2_134 x = f2_150 x).trans ((if_pos (own_lt (i := 55296) (by decide) (by omega)) : f2_150 x = f2_164 x).trans ((if_pos (own_lt (i := 64976) (by decide) (by omega)) : f2_164 x = f2_178 x).trans ((if_pos (own_lt (i := 65534) (by decide) (by omega)) : f2_178 x = f2_192).trans ((rfl : f2_192 = 0))))))))))))))))⟩
theorem own_iv2 (x : Int32) (h1 : 91 ≤ x.toInt) (h2 : x.toInt < 97) : f1_0 x = 0 ∧ f2_0 x = 1 :=
  ⟨(if_neg (own_nlt (i := 65) (by decide) (by omega)) : f1_0 x = f1_6 x).trans ((if_pos (own_gt (i := 90) (by decide) (by omega)) : f1_6 x = f1_12 x).trans ((if_pos (own_lt (i := 97) (by decide) (by omega)) : f1_12 x = f1_24 x).trans ((if_pos (own_lt (i := 192) (by decide) (by omega)) : f1_24 x = f1_38 x).trans ((if_pos (own_lt (i := 216) (by decide) (by omega)) : f1_38 x = f1_52 x).trans ((if_pos (own_lt (i := 248) (by decide) (by omega)) : f1_52 x = f1_66 x).trans ((if_pos (own_lt (i := 880) (by decide) (by omega)) : f1_66 x = f1_80 x).trans ((if_pos (own_lt (i := 895) (by decide) (by omega)) : f1_80 x = f1_94 x).trans ((if_pos (own_lt (i := 8204) (by decide) (by omega)) : f1_94 x = f1_108 x).trans ((if_pos (own_lt (i := 8304) (by decide) (by omega)) : f1_108 x = f1_122 x).trans ((if_pos (own_lt (i := 11264) (by decide) (by omega)) : f1_122 x = f1_136 x).trans ((if_pos (own_lt (i := 12289) (by decide) (by omega)) : f1_136 x = f1_149 x).trans ((if_pos (own_lt (i := 63744) (by decide) (by omega)) : f1_149 x = f1_161 x).trans ((if_pos (own_lt (i := 65008) (by decide) (by omega)) : f1_161 x = f1_173 x).trans ((if_pos (own_lt (i := 65536) (by decide) (by omega)) : f1_173 x = f1_189).trans ((rfl : f1_189 = 0)))))))))))))))),
   (if_neg (own_nlt (i := 65) (by decide) (by omega)) : f2_0 x = f2_8 x).trans ((if_neg (own_ngt (i := 983039) (by decide) (by omega)) : f2_8 x = f2_16 x).trans ((if_neg (own_nlt (i := 91) (by decide) (by omega)) : f2_16 x = f2_22 x).trans ((if_neg (own_ngt (i := 96) (by decide) (by omega)) : f2_22 x = f2_28).trans ((rfl : f2_28 = 1)))))⟩
theorem own_iv3 (x : Int32) (h1 : 97 ≤ x.toInt) (h2 : x.toInt < 123) : f1_0 x = 1 ∧ f2_0 x = 0 :=
  ⟨(if_neg (own_nlt (i := 65) (by decide) (by omega)) : f1_0 x = f1_6 x).trans ((if_pos (own_gt (i := 90) (by decide) (by omega)) : f1_6 x = f1_12 x).trans ((if_neg (own_nlt (i := 97) (by decide) (by omega)) : f1_12 x = f1_18 x).trans ((if_neg (own_ngt (i := 122) (by decide) (by omega)) : f1_18 x = f1_185).trans ((rfl : f1_185 = 1))))),
   (if_neg (own_nlt (i := 65) (by decide) (by omega)) : f2_0 x = f2_8 x).trans ((if_neg (own_ngt (i := 983039) (by decide) (by omega)) : f2_8 x = f2_16 x).trans ((if_neg (own_nlt (i := 91) (by decide) (by omega)) : f2_16 x = f2_22 x).trans ((if_pos (own_gt (i := 96) (by decide) (by omega)) : f2_22 x = f2_30 x).trans ((if_pos (own_lt (i := 123) (by decide) (by omega)) : f2_30 x = f2_45 x).trans ((if_neg (own_neq (i := 215) (by decide) (by omega)) : f2_45 x = f2_52 x).trans ((if_neg (own_neq (i := 247) (by decide) (by omega)) : f2_52 x = f2_61 x).trans ((if_pos (own_lt (i := 768) (by decide) (by omega)) : f2_61 x = f2_77 x).trans ((if_neg (own_neq (i := 894) (by decide) (by omega)) : f2_77 x = f2_86 x).trans ((if_pos (own_lt (i := 8192) (by decide) (by omega)) : f2_86 x = f2_102 x).trans ((if_pos (own_lt (i := 8206) (by decide) (by omega)) : f2_102 x = f2_118 x).trans ((if_pos (own_lt (i := 8592) (by decide) (by omega)) : f2_118 x = f2_134 x).trans ((if_pos (own_lt (i := 12272) (by decide) (by omega)) : f2_134 x = f2_150 x).trans ((if_pos (own_lt (i := 55296) (by decide) (by omega)) : f2_150 x = f2_164 x).trans ((if_pos (own_lt (i := 64976) (by decide) (by omega)) : f2_164 x = f2_178 x).trans ((if_pos (own_lt (i := 65534) (by decide) (by omega)) : f2_178 x = f2_192).trans ((rfl : f2_192 = 0)))))))))))))))))⟩
theorem own_iv4 (x : Int32) (h1 : 123 ≤ x.toInt) (h2 : x.toInt < 192) : f1_0 x = 0 ∧ f2_0 x = 1 :=
  ⟨(if_neg (own_nlt (i := 65) (by decide) (by omega)) : f1_0 x = f1_6 x).trans ((if_pos (own_gt (i := 90) (by decide) (by omega)) : f1_6 x = f1_12 x).trans ((if_neg (own_nlt (i := 97) (by decide) (by omega)) : f1_12 x = f1_18 x).trans ((if_pos (own_gt (i := 122) (by decide) (by omega)) : f1_18 x = f1_24 x).trans ((if_pos (own_lt (i := 192) (by decide) (by omega)) : f1_24 x = f1_38 x).trans ((if_pos (own_lt (i := 216) (by decide) (by omega)) : f1_38 x = f1_52 x).trans ((if_pos (own_lt (i := 248) (by decide) (by omega)) : f1_52 x = f1_66 x).trans ((if_pos (own_lt (i := 880) (by decide) (by omega)) : f1_66 x = f1_80 x).trans ((if_pos (own_lt (i := 895) (by decide) (by omega)) : f1_80 x = f1_94 x).trans ((if_pos (own_lt (i := 8204) (by decide) (by omega)) : f1_94 x = f1_108 x).trans ((if_pos (own_lt (i := 8304) (by decide) (by omega)) : f1_108 x = f1_122 x).trans ((if_pos (own_lt (i := 11264) (by decide) (by omega)) : f1_122 x = f1_136 x).trans ((if_pos (own_lt (i := 12289) (by decide) (by omega)) : f1_136 x = f1_149 x).trans ((if_pos (own_lt (i := 63744) (by decide) (by omega)) : f1_149 x = f1_161 x).trans ((if_pos (own_lt (i := 65008) (by decide) (by omega)) : f1_161 x = f1_173 x).trans ((if_pos (own_lt (i := 65536) (by decide) (by omega)) : f1_173 x = f1_189).trans ((rfl : f1_189 = 0))))))))))))))))),
   (if_neg (own_nlt (i := 65) (by decide) (by omega)) : f2_0 x = f2_8 x).trans ((if_neg (own_ngt (i := 983039) (by decide) (by omega)) : f2_8 x = f2_16 x).trans ((if_neg (own_nlt (i := 91) (by decide) (by omega)) : f2_16 x = f2_22 x).trans ((if_pos (own_gt (i := 96) (by decide) (by omega)) : f2_22 x = f2_30 x).trans ((if_neg (own_nlt (i := 123) (by decide) (by omega)) : f2_30 x = f2_36 x).trans ((if_neg (own_ngt (i := 191) (by decide) (by omega)) : f2_36 x = f2_43).trans ((rfl : f2_43 = 1)))))))⟩
theorem own_iv5 (x : Int32) (h1 : 192 ≤ x.toInt) (h2 : x.toInt < 215) : f1_0 x = 1 ∧ f2_0 x = 0 :=
  ⟨(if_neg (own_nlt (i := 65) (by decide) (by omega)) : f1_0 x = f1_6 x).trans ((if_pos (own_gt (i := 90) (by decide) (by omega)) : f1_6 x = f1_12 x).trans ((if_neg (own_nlt (i := 97) (by decide) (by omega)) : f1_12 x = f1_18 x).trans ((if_pos (own_gt (i := 122) (by decide) (by omega)) : f1_18 x = f1_24 x).trans ((if_neg (own_nlt (i := 192) (by decide) (by omega)) : f1_24 x = f1_31 x).trans ((if_neg (own_ngt (i := 214) (by decide) (by omega)) : f1_31 x = f1_185).trans ((rfl : f1_185 = 1))))))),
   (if_neg (own_nlt (i := 65) (by decide) (by omega)) : f2_0 x = f2_8 x).trans ((if_neg (own_ngt (i := 983039) (by decide) (by omega)) : f2_8 x = f2_16 x).trans ((if_neg (own_nlt (i := 91) (by decide) (by omega)) : f2_16 x = f2_22 x).trans ((if_pos (own_gt (i := 96) (by decide) (by omega)) : f2_22 x = f2_30 x).trans ((if_neg (own_nlt (i := 123) (by decide) (by omega)) : f2_30 x = f2_36 x).trans ((if_pos (own_gt (i := 191) (by decide) (by omega)) : f2_36 x = f2_45 x).trans ((if_neg (own_neq (i := 215) (by decide) (by omega)) : f2_45 x = f2_52 x).trans ((if_neg (own_neq (i := 247) (by decide) (by omega)) : f2_52 x = f2_61 x).trans ((if_pos (own_lt (i := 768) (by decide) (by omega)) : f2_61 x = f2_77 x).trans ((if_neg (own_neq (i := 894) (by decide) (by omega)) : f2_77 x = f2_86 x).trans ((if_pos (own_lt (i := 8192) (by decide) (by omega)) : f2_86 x = f2_102 x).trans ((if_pos (own_lt (i := 8206) (by decide) (by omega)) : f2_102 x = f2_118 x).trans ((if_pos (own_lt (i := 8592) (by decide) (by omega)) : f2_118 x = f2_134 x).trans ((if_pos (own_lt (i := 12272) (by decide) (by omega)) : f2_134 x = f2_150 x).trans ((if_pos (own_lt (i := 55296) (by decide) (by omega)) : f2_150 x = f2_164 x).trans ((if_pos (own_lt (i := 64976) (by decide) (by omega)) : f2_164 x = f2_178 x).trans ((if_pos (own_lt (i := 65534) (by decide) (by omega)) : f2_178 x = f2_192).trans ((rfl : f2_192 = 0))))))))))))))))))⟩
theorem own_iv6 (x : Int32) (h1 : 215 ≤ x.toInt) (h2 : x.toInt < 216) : f1_0 x = 0 ∧ f2_0 x = 1 :=
  ⟨(if_neg (own_nlt (i := 65) (by decide) (by omega)) : f1_0 x = f1_6 x).trans ((if_pos (own_gt (i := 90) (by decide) (by omega)) : f1_6 x = f1_12 x).trans ((if_neg (own_nlt (i := 97) (by decide) (by omega)) : f1_12 x = f1_18 x).trans ((if_pos (own_gt (i := 122) (by decide) (by omega)) : f1_18 x = f1_24 x).trans ((if_neg (own_nlt (i := 192) (by decide) (by omega)) : f1_24 x = f1_31 x).trans ((if_pos (own_gt (i := 214) (by decide) (by omega)) : f1_31 x = f1_38 x).trans ((if_pos (own_lt (i := 216) (by decide) (by omega)) : f1_38 x = f1_52 x).trans ((if_pos (own_lt (i := 248) (by decide) (by omega)) : f1_52 x = f1_66 x).trans ((if_pos (own_lt (i := 880) (by decide) (by omega)) : f1_66 x = f1_80 x).trans ((if_pos (own_lt (i := 895) (by decide) (by omega)) : f1_80 x = f1_94 x).trans ((if_pos (own_lt (i := 8204) (by decide) (by omega)) : f1_94 x = f1_108 x).trans ((if_pos (own_lt (i := 8304) (by decide) (by omega)) : f1_108 x = f1_122 x).trans ((if_pos (own_lt (i := 11264) (by decide) (by omega)) : f1_122 x = f1_136 x).trans ((if_pos (own_lt (i := 12289) (by decide) (by omega)) : f1_136 x = f1_149 x).trans ((if_pos (own_lt (i := 63744) (by decide) (by omega)) : f1_149 x = f1_161 x).trans ((if_pos (own_lt (i := 65008) (by decide) (by omega)) : f1_161 x = f1_173 x).trans ((if_pos (own_lt (i := 65536) (by decide) (by omega)) : f1_173 x = f1_189).trans ((rfl : f1_189 = 0)))))))))))))))))),
   (if_neg (own_nlt (i := 65) (by decide) (by omega)) : f2_0 x = f2_8 x).trans ((if_neg (own_ngt (i := 983039) (by decide) (by omega)) : f2_8 x = f2_16 x).trans ((if_neg (own_nlt (i := 91) (by decide) (by omega)) : f2_16 x = f2_22 x).trans ((if_pos (own_gt (i := 96) (by decide) (by omega)) : f2_22 x = f2_30 x).trans ((if_neg (own_nlt (i := 123) (by decide) (by omega)) : f2_30 x = f2_36 x).trans ((if_pos (own_gt (i := 191) (by decide) (by omega)) : f2_36 x = f2_45 x).trans ((if_pos (own_eq (i := 215) (by decide) (by omega)) : f2_45 x = f2_59).trans ((rfl : f2_59 = 1))))))))⟩
theorem own_iv7 (x : Int32) (h1 : 216 ≤ x.toInt) (h2 : x.toInt < 247) : f1_0 x = 1 ∧ f2_0 x = 0 :=
  ⟨(if_neg (own_nlt (i := 65) (by decide) (by omega)) : f1_0 x = f1_6 x).trans ((if_pos (own_gt (i := 90) (by decide) (by omega)) : f1_6 x = f1_12 x).trans ((if_neg (own_nlt (i := 97) (by decide) (by omega)) : f1_12 x = f1_18 x).trans ((if_pos (own_gt (i := 122) (by decide) (by omega)) : f1_18 x = f1_24 x).trans ((if_neg (own_nlt (i := 192) (by decide) (by omega)) : f1_24 x = f1_31 x).trans ((if_pos (own_gt (i := 214) (by decide) (by omega)) : f1_31 x = f1_38 x).trans ((if_neg (own_nlt (i := 216) (by decide) (by omega)) : f1_38 x = f1_45 x).trans ((if_neg (own_ngt (i := 246) (by decide) (by omega)) : f1_45 x = f1_185).trans ((rfl : f1_185 = 1))))))))),
   (if_neg (own_nlt (i := 65) (by decide) (by omega)) : f2_0 x = f2_8 x).trans ((if_neg (own_ngt (i := 983039) (by decide) (by omega)) : f2_8 x = f2_16 x).trans ((if_neg (own_nlt (i := 91) (by decide) (by omega)) : f2_16 x = f2_22 x).trans ((if_pos (own_gt (i := 96) (by decide) (by omega)) : f2_22 x = f2_30 x).trans ((if_neg (own_nlt (i := 123) (by decide) (by omega)) : f2_30 x = f2_36 x).trans ((if_pos (own_gt (i := 191) (by decide) (by omega)) : f2_36 x = f2_45 x).trans ((if_neg (own_neq (i := 215) (by decide) (by omega)) : f2_45 x = f2_52 x).trans ((if_neg (own_neq (i := 247) (by decide) (by omega)) : f2_52 x = f2_61 x).trans ((if_pos (own_lt (i := 768) (by decide) (by omega)) : f2_61 x = f2_77 x).trans ((if_neg (own_neq (i := 894) (by decide) (by omega)) : f2_77 x = f2_86 x).trans ((if_pos (own_lt (i := 8192) (by decide) (by omega)) : f2_86 x = f2_102 x).trans ((if_pos (own_lt (i := 8206) (by decide) (by omega)) : f2_102 x = f2_118 x).trans ((if_pos (own_lt (i := 8592) (by decide) (by omega)) : f2_118 x = f2_134 x).trans ((if_pos (own_lt (i := 12272) (by decide) (by omega)) : f2_134 x = f2_150 x).trans ((if_pos (own_lt (i := 55296) (by decide) (by omega)) : f2_150 x = f2_164 x).trans ((if_pos (own_lt (i := 64976) (by decide) (by omega)) : f2_164 x = f2_178 x).trans ((if_pos (own_lt (i := 65534) (by decide) (by omega)) : f2_178 x = f2_192).trans ((rfl : f2_192 = 0))))))))))))))))))⟩
theorem own_iv8 (x : Int32) (h1 : 247 ≤ x.toInt) (h2 : x.toInt < 248) : f1_0 x = 0 ∧ f2_0 x = 1 :=
  ⟨(if_neg (own_nlt (i := 65) (by decide) (by omega)) : f1_0 x = f1_6 x).trans ((if_pos (own_gt (i := 90) (by decide) (by omega)) : f1_6 x = f1_12 x).trans ((if_neg (own_nlt (i := 97) (by decide) (by omega)) : f1_12 x = f1_18 x).trans ((if_pos (own_gt (i := 122) (by decide) (by omega)) : f1_18 x = f1_24 x).trans ((if_neg (own_nlt (i := 192) (by decide) (by omega)) : f1_24 x = f1_31 x).trans ((if_pos (own_gt (i := 214) (by decide) (by omega)) : f1_31 x = f1_38 x).trans ((if_neg (own_nlt (i := 216) (by decide) (by omega)) : f1_38 x = f1_45 x).trans ((if_pos (own_gt (i := 246) (by decide) (by omega)) : f1_45 x = f1_52 x).trans ((if_pos (own_lt (i := 248) (by decide) (by omega)) : f1_52 x = f1_66 x).trans ((if_pos (own_lt (i := 880) (by decide) (by omega)) : f1_66 x = f1_80 x).trans ((if_pos (own_lt (i := 895) (by decide) (by omega)) : f1_80 x = f1_94 x).trans ((if_pos (own_lt (i := 8204) (by decide) (by omega)) : f1_94 x = f1_108 x).trans ((if_pos (own_lt (i := 8304) (by decide) (by omega)) : f1_108 x = f1_122 x).trans ((if_pos (own_lt (i := 11264) (by decide) (by omega)) : f1_122 x = f1_136 x).trans ((if_pos (own_lt (i := 12289) (by decide) (by omega)) : f1_136 x = f1_149 x).trans ((if_pos (own_lt (i := 63744) (by decide) (by omega)) : f1_149 x = f1_161 x).trans ((if_pos (own_lt (i := 65008) (by decide) (by omega)) : f1_161 x = f1_173 x).trans ((if_pos (own_lt (i := 65536) (by decide) (by omega)) : f1_173 x = f1_189).trans ((rfl : f1_189 = 0))))))))))))))))))),
   (if_neg (own_nlt (i := 65) (by decide) (by omega)) : f2_0 x = f2_8 x).trans ((if_neg (own_ngt (i := 983039) (by decide) (by omega)) : f2_8 x = f2_16 x).trans ((if_neg (own_nlt (i := 91) (by decide) (by omega)) : f2_16 x = f2_22 x).trans ((if_pos (own_gt (i := 96) (by decide) (by omega)) : f2_22 x = f2_30 x).trans ((if_neg (own_nlt (i := 123) (by decide) (by omega)) : f2_30 x = f2_36 x).trans ((if_pos (own_gt (i := 191) (by decide) (by omega)) : f2_36 x = f2_45 x).trans ((if_neg (own_neq (i := 215) (by decide) (by omega)) : f2_45 x = f2_52 x).trans ((if_pos (own_eq (i := 247) (by decide) (by omega)) : f2_52 x = f2_59).trans ((rfl : f2_59 = 1)))))))))⟩
theorem own_iv9 (x : Int32) (h1 : 248 ≤ x.toInt) (h2 : x.toInt < 768) : f1_0 x = 1 ∧ f2_0 x = 0 :=
  ⟨(if_neg (own_nlt (i := 65) (by decide) (by omega)) : f1_0 x = f1_6 x).trans ((if_pos (own_gt (i := 90) (by decide) (by omega)) : f1_6 x = f1_12 x).trans ((if_neg (own_nlt (i := 97) (by decide) (by omega)) : f1_12 x = f1_18 x).trans ((if_pos (own_gt (i := 122) (by decide) (by omega)) : f1_18 x = f1_24 x).trans ((if_neg (own_nlt (i := 192) (by decide) (by omega)) : f1_24 x = f1_31 x).trans ((if_pos (own_gt (i := 214) (by decide) (by omega)) : f1_31 x = f1_38 x).trans ((if_neg (own_nlt (i := 216) (by decide) (by omega)) : f1_38 x = f1_45 x).trans ((if_pos (own_gt (i := 246) (by decide) (by omega)) : f1_45 x = f1_52 x).trans ((if_neg (own_nlt (i := 248) (by decide) (by omega)) : f1_52 x = f1_59 x).trans ((if_neg (own_ngt (i := 767) (by decide) (by omega)) : f1_59 x = f1_185).trans ((rfl : f1_185 = 1))))))))))),
   (if_neg (own_nlt (i := 65) (by decide) (by omega)) : f2_0 x = f2_8 x).trans ((if_neg (own_ngt (i := 983039) (by decide) (by omega)) : f2_8 x = f2_16 x).trans ((if_neg (own_nlt (i := 91) (by decide) (by omega)) : f2_16 x = f2_22 x).trans ((if_pos (own_gt (i := 96) (by decide) (by omega)) : f2_22 x = f2_30 x).trans ((if_neg (own_nlt (i := 123) (by decide) (by omega)) : f2_30 x = f2_36 x).trans ((if_pos (own_gt (i := 191) (by decide) (by omega)) : f2_36 x = f2_45 x).trans ((if_neg (own_neq (i := 215) (by decide) (by omega)) : f2_45 x = f2_52 x).trans ((if_neg (own_neq (i := 247) (by decide) (by omega)) : f2_52 x = f2_61 x).trans ((if_pos (own_lt (i := 768) (by decide) (by omega)) : f2_61 x = f2_77 x).trans ((if_neg (own_neq (i := 894) (by decide) (by omega)) : f2_77 x = f2_86 x).trans ((if_pos (own_lt (i := 8192) (by decide) (by omega)) : f2_86 x = f2_102 x).trans ((if_pos (own_lt (i := 8206) (by decide) (by omega)) : f2_102 x = f2_118 x).trans ((if_pos (own_lt (i := 8592) (by decide) (by omega)) : f2_118 x = f2_134 x).trans ((if_pos (own_lt (i := 12272) (by decide) (by omega)) : f2_134 x = f2_150 x).trans ((if_pos (own_lt (i := 55296) (by decide) (by omega)) : f2_150 x = f2_164 x).trans ((if_pos (own_lt (i := 64976) (by decide) (by omega)) : f2_164 x = f2_178 x).trans ((if_pos (own_lt (i := 65534) (by decide) (by omega)) : f2_178 x = f2_192).trans ((rfl : f2_192 = 0))))))))))))))))))⟩
theorem own_iv10 (x : Int32) (h1 : 768 ≤ x.toInt) (h2 : x.toInt < 880) : f1_0 x = 0 ∧ f2_0 x = 1 :=
  ⟨(if_neg (own_nlt (i := 65) (by decide) (by omega)) : f1_0 x = f1_6 x).trans ((if_pos (own_gt (i := 90) (by decide) (by omega)) : f1_6 x = f1_12 x).trans ((if_neg (own_nlt (i := 97) (by decide) (by omega)) : f1_12 x = f1_18 x).trans ((if_pos (own_gt (i := 122) (by decide) (by omega)) : f1_18 x = f1_24 x).trans ((if_neg (own_nlt (i := 192) (by decide) (by omega)) : f1_24 x = f1_31 x).trans ((if_pos (own_gt (i := 214) (by decide) (by omega)) : f1_31 x = f1_38 x).trans ((if_neg (own_nlt (i := 216) (by decide) (by omega)) : f1_38 x = f1_45 x).trans ((if_pos (own_gt (i := 246) (by decide) (by omega)) : f1_45 x = f1_52 x).trans ((if_neg (own_nlt (i := 248) (by decide) (by omega)) : f1_52 x = f1_59 x).trans ((if_pos (own_gt (i := 767) (by decide) (by omega)) : f1_59 x = f1_66 x).trans ((if_pos (own_lt (i := 880) (by decide) (by omega)) : f1_66 x = f1_80 x).trans ((if_pos (own_lt (i := 895) (by decide) (by omega)) : f1_80 x = f1_94 x).trans ((if_pos (own_lt (i := 8204) (by decide) (by omega)) : f1_94 x = f1_108 x).trans ((if_pos (own_lt (i := 8304) (by decide) (by omega)) : f1_108 x = f1_122 x).trans ((if_pos (own_lt (i := 11264) (by decide) (by omega)) : f1_122 x = f1_136 x).trans ((if_pos (own_lt (i := 12289) (by decide) (by omega)) : f1_136 x = f1_149 x).trans ((if_pos (own_lt (i := 63744) (by decide) (by omega)) : f1_149 x = f1_161 x).trans ((if_pos (own_lt (i := 65008) (by decide) (by omega)) : f1_161 x = f1_173 x).trans ((if_pos (own_lt (i := 65536) (by decide) (by omega)) : f1_173 x = f1_189).trans ((rfl : f1_189 = 0)))))))))))))))))))),
   (if_neg (own_nlt (i := 65) (by decide) (by omega)) : f2_0 x = f2_8 x).trans ((if_neg (own_ngt (i := 983039) (by decide) (by omega)) : f2_8 x = f2_16 x).trans ((if_neg (own_nlt (i := 91) (by decide) (by omega)) : f2_16 x = f2_22 x).trans ((if_pos (own_gt (i := 96) (by decide) (by omega)) : f2_22 x = f2_30 x).trans ((if_neg (own_nlt (i := 123) (by decide) (by omega)) : f2_30 x = f2_36 x).trans ((if_pos (own_gt (i := 191) (by decide) (by omega)) : f2_36 x = f2_45 x).trans ((if_neg (own_neq (i := 215) (by decide) (by omega)) : f2_45 x = f2_52 x).trans ((if_neg (own_neq (i := 247) (by decide) (by omega)) : f2_52 x = f2_61 x).trans ((if_neg (own_nlt (i := 768) (by decide) (by omega)) : f2_61 x = f2_68 x).trans ((if_neg (own_ngt (i := 879) (by decide) (by omega)) : f2_68 x = f2_75).trans ((rfl : f2_75 = 1)))))))))))⟩
theorem own_iv11 (x : Int32) (h1 : 880 ≤ x.toInt) (h2 : x.toInt < 894) : f1_0 x = 1 ∧ f2_0 x = 0 :=
  ⟨(if_neg (own_nlt (i := 65) (by decide) (by omega)) : f1_0 x = f1_6 x).trans ((if_pos (own_gt (i := 90) (by decide) (by omega)) : f1_6 x = f1_12 x).trans ((if_neg (own_nlt (i := 97) (by decide) (by omega)) : f1_12 x = f1_18 x).trans ((if_pos (own_gt (i := 122) (by decide) (by omega)) : f1_18 x = f1_24 x).trans ((if_neg (own_nlt (i := 192) (by decide) (by omega)) : f1_24 x = f1_31 x).trans ((if_pos (own_gt (i := 214) (by decide) (by omega)) : f1_31 x = f1_38 x).trans ((if_neg (own_nlt (i := 216) (by decide) (by omega)) : f1_38 x = f1_45 x).trans ((if_pos (own_gt (i := 246) (by decide) (by omega)) : f1_45 x = f1_52 x).trans ((if_neg (own_nlt (i := 248) (by decide) (by omega)) : f1_52 x = f1_59 x).trans ((if_pos (own_gt (i := 767) (by decide) (by omega)) : f1_59 x = f1_66 x).trans ((if_neg (own_nlt (i := 880) (by decide) (by omega)) : f1_66 x = f1_73 x).trans ((if_neg (own_ngt (i := 893) (by decide) (by omega)) : f1_73 x = f1_185).trans ((rfl : f1_185 = 1))))))))))))),
   (if_neg (own_nlt (i := 65) (by decide) (by omega)) : f2_0 x = f2_8 x).trans ((if_neg (own_ngt (i := 983039) (by decide) (by omega)) : f2_8 x = f2_16 x).trans ((if_neg (own_nlt (i := 91) (by decide) (by omega)) : f2_16 x = f2_22 x).trans ((if_pos (own_gt (i := 96) (by decide) (by omega)) : f2_22 x = f2_30 x).trans ((if_neg (own_nlt (i := 123) (by decide) (by omega)) : f2_30 x = f2_36 x).trans ((if_pos (own_gt (i := 191) (by decide) (by omega)) : f2_36 x = f2_45 x).trans ((if_neg (own_neq (i := 215) (by decide) (by omega)) : f2_45 x = f2_52 x).trans ((if_neg (own_neq (i := 247) (by decide) (by omega)) : f2_52 x = f2_61 x).trans ((if_neg (own_nlt (i := 768) (by decide) (by omega)) : f2_61 x = f2_68 x).trans ((if_pos (own_gt (i := 879) (by decide) (by omega)) : f2_68 x = f2_77 x).trans ((if_neg (own_neq (i := 894) (by decide) (by omega)) : f2_77 x = f2_86 x).trans ((if_pos (own_lt (i := 8192) (by decide) (by omega)) : f2_86 x = f2_102 x).trans ((if_pos (own_lt (i := 8206) (by decide) (by omega)) : f2_102 x = f2_118 x).trans ((if_pos (own_lt (i := 8592) (by decide) (by omega)) : f2_118 x = f2_134 x).trans ((if_pos (own_lt (i := 12272) (by decide) (by omega)) : f2_134 x = f2_150 x).trans ((if_pos (own_lt (i := 55296) (by decide) (by omega)) : f2_150 x = f2_164 x).trans ((if_pos (own_lt (i := 64976) (by decide) (by omega)) : f2_164 x = f2_178 x).trans ((if_pos (own_lt (i := 65534) (by decide) (by omega)) : f2_178 x = f2_192).trans ((rfl : f2_192 = 0)))))))))))))))))))⟩
theorem own_iv12 (x : Int32) (h1 : 894 ≤ x.toInt) (h2 : x.toInt < 895) : f1_0 x = 0 ∧ f2_0 x = 1 :=
  ⟨(if_neg (own_nlt (i := 65) (by decide) (by omega)) : f1_0 x = f1_6 x).trans ((if_pos (own_gt (i := 90) (by decide) (by omega)) : f1_6 x = f1_12 x).trans ((if_neg (own_nlt (i := 97) (by decide) (by omega)) : f1_12 x = f1_18 x).trans ((if_pos (own_gt (i := 122) (by decide) (by omega)) : f1_18 x = f1_24 x).trans ((if_neg (own_nlt (i := 192) (by decide) (by omega)) : f1_24 x = f1_31 x).trans ((if_pos (own_gt (i := 214) (by decide) (by omega)) : f1_31 x = f1_38 x).trans ((if_neg (own_nlt (i := 216) (by decide) (by omega)) : f1_38 x = f1_45 x).trans ((if_pos (own_gt (i := 246) (by decide) (by omega)) : f1_45 x = f1_52 x).trans ((if_neg (own_nlt (i := 248) (by decide) (by omega)) : f1_52 x = f1_59 x).trans ((if_pos (own_gt (i := 767) (by decide) (by omega)) : f1_59 x = f1_66 x).trans ((if_neg (own_nlt (i := 880) (by decide) (by omega)) : f1_66 x = f1_73 x).trans ((if_pos (own_gt (i := 893) (by decide) (by omega)) : f1_73 x = f1_80 x).trans ((if_pos (own_lt (i := 895) (by decide) (by omega)) : f1_80 x = f1_94 x).trans ((if_pos (own_lt (i := 8204) (by decide) (by omega)) : f1_94 x = f1_108 x).trans ((if_pos (own_lt (i := 8304) (by decide) (by omega)) : f1_108 x = f1_122 x).trans ((if_pos (own_lt (i := 11264) (by decide) (by omega)) : f1_122 x = f1_136 x).trans ((if_pos (own_lt (i := 12289) (by decide) (by omega)) : f1_136 x = f1_149 x).trans ((if_pos (own_lt (i := 63744) (by decide) (by omega)) : f1_149 x = f1_161 x).trans ((if_pos (own_lt (i := 65008) (by decide) (by omega)) : f1_161 x = f1_173 x).trans ((if_pos (own_lt (i := 65536) (by decide) (by omega)) : f1_173 x = f1_189).trans ((rfl : f1_189 = 0))))))))))))))))))))),
   (if_neg (own_nlt (i := 65) (by decide) (by omega)) : f2_0 x = f2_8 x).trans ((if_neg (own_ngt (i := 983039) (by decide) (by omega)) : f2_8 x = f2_16 x).trans ((if_neg (own_nlt (i := 91) (by decide) (by omega)) : f2_16 x = f2_22 x).trans ((if_pos (own_gt (i := 96) (by decide) (by omega)) : f2_22 x = f2_30 x).trans ((if_neg (own_nlt (i := 123) (by decide) (by omega)) : f2_30 x = f2_36 x).trans ((if_pos (own_gt (i := 191) (by decide) (by omega)) : f2_36 x = f2_45 x).trans ((if_neg (own_neq (i := 215) (by decide) (by omega)) : f2_45 x = f2_52 x).trans ((if_neg (own_neq (i := 247) (by decide) (by omega)) : f2_52 x = f2_61 x).trans ((if_neg (own_nlt (i := 768) (by decide) (by omega)) : f2_61 x = f2_68 x).trans ((if_pos (own_gt (i := 879) (by decide) (by omega)) : f2_68 x = f2_77 x).trans ((if_pos (own_eq (i := 894) (by decide) (by omega)) : f2_77 x = f2_84).trans ((rfl : f2_84 = 1))))))))))))⟩
theorem own_iv13 (x : Int32) (h1 : 895 ≤ x.toInt) (h2 : x.toInt < 8192) : f1_0 x = 1 ∧ f2_0 x = 0 :=
  ⟨(if_neg (own_nlt (i := 65) (by decide) (by omega)) : f1_0 x = f1_6 x).trans ((if_pos (own_gt (i := 90) (by decide) (by omega)) : f1_6 x = f1_12 x).trans ((if_neg (own_nlt (i := 97) (by decide) (by omega)) : f1_12 x = f1_18 x).trans ((if_pos (own_gt (i := 122) (by decide) (by omega)) : f1_18 x = f1_24 x).trans ((if_neg (own_nlt (i := 192) (by decide) (by omega)) : f1_24 x = f1_31 x).trans ((if_pos (own_gt (i := 214) (by decide) (by omega)) : f1_31 x = f1_38 x).trans ((if_neg (own_nlt (i := 216) (by decide) (by omega)) : f1_38 x = f1_45 x).trans ((if_pos (own_gt (i := 246) (by decide) (by omega)) : f1_45 x = f1_52 x).trans ((if_neg (own_nlt (i := 248) (by decide) (by omega)) : f1_52 x = f1_59 x).trans ((if_pos (own_gt (i := 767) (by decide) (by omega)) : f1_59 x = f1_66 x).trans ((if_neg (own_nlt (i := 880) (by decide) (by omega)) : f1_66 x = f1_73 x).trans ((if_pos (own_gt (i := 893) (by decide) (by omega)) : f1_73 x = f1_80 x).trans ((if_neg (own_nlt (i := 895) (by decide) (by omega)) : f1_80 x = f1_87 x).trans ((if_neg (own_ngt (i := 8191) (by decide) (by omega)) : f1_87 x = f1_185).trans ((rfl : f1_185 = 1))))))))))))))),
   (if_neg (own_nlt (i := 65) (by decide) (by omega)) : f2_0 x = f2_8 x).trans ((if_neg (own_ngt (i := 983039) (by decide) (by omega)) : f2_8 x = f2_16 x).trans ((if_neg (own_nlt (i := 91) (by decide) (by omega)) : f2_16 x = f2_22 x).trans ((if_pos (own_gt (i := 96) (by decide) (by omega)) : f2_22 x = f2_30 x).trans ((if_neg (own_nlt (i := 123) (by decide) (by omega)) : f2_30 x = f2_36 x).trans ((if_pos (own_gt (i := 191) (by decide) (by omega)) : f2_36 x = f2_45 x).trans ((if_neg (own_neq (i := 215) (by decide) (by omega)) : f2_45 x = f2_52 x).trans ((if_neg (own_neq (i := 247) (by decide) (by omega)) : f2_52 x = f2_61 x).trans ((if_neg (own_nlt (i := 768) (by decide) (by omega)) : f2_61 x = f2_68 x).trans ((if_pos (own_gt (i := 879) (by decide) (by omega)) : f2_68 x = f2_77 x).trans ((if_neg (own_neq (i := 894) (by decide) (by omega)) : f2_77 x = f2_86 x).trans ((if_pos (own_lt (i := 8192) (by decide) (by omega)) : f2_86 x = f2_102 x).trans ((if_pos (own_lt (i := 8206) (by decide) (by omega)) : f2_102 x = f2_118 x).trans ((if_pos (own_lt (i := 8592) (by decide) (by omega)) : f2_118 x = f2_134 x).trans ((if_pos (own_lt (i := 12272) (by decide) (by omega)) : f2_134 x = f2_150 x).trans ((if_pos (own_lt (i := 55296) (by decide) (by omega)) : f2_150 x = f2_164 x).trans ((if_pos (own_lt (i := 64976) (by decide) (by omega)) : f2_164 x = f2_178 x).trans ((if_pos (own_lt (i := 65534) (by decide) (by omega)) : f2_178 x = f2_192).trans ((rfl : f2_192 = 0)))))))))))))))))))⟩
theorem own_iv14 (x : Int32) (h1 : 8192 ≤ x.toInt) (h2 : x.toInt < 8204) : f1_0 x = 0 ∧ f2_0 x = 1 :=
  ⟨(if_neg (own_nlt (i := 65) (by decide) (by omega)) : f1_0 x = f1_6 x).trans ((if_pos (own_gt (i := 90) (by decide) (by omega)) : f1_6 x = f1_12 x).trans ((if_neg (own_nlt (i := 97) (by decide) (by omega)) : f1_12 x = f1_18 x).trans ((if_pos (own_gt (i := 122) (by decide) (by omega)) : f1_18 x = f1_24 x).trans ((if_neg (own_nlt (i := 192) (by decide) (by omega)) : f1_24 x = f1_31 x).trans ((if_pos (own_gt (i := 214) (by decide) (by omega)) : f1_31 x = f1_38 x).trans ((if_neg (own_nlt (i := 216) (by decide) (by omega)) : f1_38 x = f1_45 x).trans ((if_pos (own_gt (i := 246) (by decide) (by omega)) : f1_45 x = f1_52 x).trans ((if_neg (own_nlt (i := 248) (by decide) (by omega)) : f1_52 x = f1_59 x).trans ((if_pos (own_gt (i := 767) (by decide) (by omega)) : f1_59 x = f1_66 x).trans ((if_neg (own_nlt (i := 880) (by decide) (by omega)) : f1_66 x = f1_73 x).trans ((if_pos (own_gt (i := 893) (by decide) (by omega)) : f1_73 x = f1_80 x).trans ((if_neg (own_nlt (i := 895) (by decide) (by omega)) : f1_80 x = f1_87 x).trans ((if_pos (own_gt (i := 8191) (by decide) (by omega)) : f1_87 x = f1_94 x).trans ((if_pos (own_lt (i := 8204) (by decide) (by omega)) : f1_94 x = f1_108 x).trans ((if_pos (own_lt (i := 8304) (by decide) (by omega)) : f1_108 x = f1_122 x).trans ((if_pos (own_lt (i := 11264) (by decide) (by omega)) : f1_122 x = f1_136 x).trans ((if_pos (own_lt (i := 12289) (by decide) (by omega)) : f1_136 x = f1_149 x).trans ((if_pos (own_lt (i := 63744) (by decide) (by omega)) : f1_149 x = f1_161 x).trans ((if_pos (own_lt (i := 65008) (by decide) (by omega)) : f1_161 x = f1_173 x).trans ((if_pos (own_lt (i := 65536) (by decide) (by omega)) : f1_173 x = f1_189).trans ((rfl : f1_189 = 0)))))))))))))))))))))),
   (if_neg (own_nlt (i := 65) (by decide) (by omega)) : f2_0 x = f2_8 x).trans ((if_neg (own_ngt (i := 983039) (by decide) (by omega)) : f2_8 x = f2_16 x).trans ((if_neg (own_nlt (i := 91) (by decide) (by omega)) : f2_16 x = f2_22 x).trans ((if_pos (own_gt (i := 96) (by decide) (by omega)) : f2_22 x = f2_30 x).trans ((if_neg (own_nlt (i := 123) (by decide) (by omega)) : f2_30 x = f2_36 x).trans ((if_pos (own_gt (i := 191) (by decide) (by omega)) : f2_36 x = f2_45 x).trans ((if_neg (own_neq (i := 215) (by decide) (by omega)) : f2_45 x = f2_52 x).trans ((if_neg (own_neq (i := 247) (by decide) (by omega)) : f2_52 x = f2_61 x).trans ((if_neg (own_nlt (i := 768) (by decide) (by omega)) : f2_61 x = f2_68 x).trans ((if_pos (own_gt (i := 879) (by decide) (by omega)) : f2_68 x = f2_77 x).trans ((if_neg (own_neq (i := 894) (by decide) (by omega)) : f2_77 x = f2_86 x).trans ((if_neg (own_nlt (i := 8192) (by decide) (by omega)) : f2_86 x = f2_93 x).trans ((if_neg (own_ngt (i := 8203) (by decide) (by omega)) : f2_93 x = f2_100).trans ((rfl : f2_100 = 1))))))))))))))⟩
theorem own_iv15 (x : Int32) (h1 : 8204 ≤ x.toInt) (h2 : x.toInt < 8206) : f1_0 x = 1 ∧ f2_0 x = 0 :=
  ⟨(if_neg (own_nlt (i := 65) (by decide) (by omega)) : f1_0 x = f1_6 x).trans ((if_pos (own_gt (i := 90) (by decide) (by omega)) : f1_6 x = f1_12 x).trans ((if_neg (own_nlt (i := 97) (by decide) (by omega)) : f1_12 x = f1_18 x).trans ((if_pos (own_gt (i := 122) (by decide) (by omega)) : f1_18 x = f1_24 x).trans ((if_neg (own_nlt (i := 192) (by decide) (by omega)) : f1_24 x = f1_31 x).trans ((if_pos (own_gt (i := 214) (by decide) (by omega)) : f1_31 x = f1_38 x).trans ((if_neg (own_nlt (i := 216) (by decide) (by omega)) : f1_38 x = f1_45 x).trans ((if_pos (own_gt (i := 246) (by decide) (by omega)) : f1_45 x = f1_52 x).trans ((if_neg (own_nlt (i := 248) (by decide) (by omega)) : f1_52 x = f1_59 x).trans ((if_pos (own_gt (i := 767) (by decide) (by omega)) : f1_59 x = f1_66 x).trans ((if_neg (own_nlt (i := 880) (by decide) (by omega)) : f1_66 x = f1_73 x).trans ((if_pos (own_gt (i := 893) (by decide) (by omega)) : f1_73 x = f1_80 x).trans ((if_neg (own_nlt (i := 895) (by decide) (by omega)) : f1_80 x = f1_87 x).trans ((if_pos (own_gt (i := 8191) (by decide) (by omega)) : f1_87 x = f1_94 x).trans ((if_neg (own_nlt (i := 8204) (by decide) (by omega)) : f1_94 x = f1_101 x).trans ((if_neg (own_ngt (i := 8205) (by decide) (by omega)) : f1_101 x = f1_185).trans ((rfl : f1_185 = 1))))))))))))))))),
   (if_neg (own_nlt (i := 65) (by decide) (by omega)) : f2_0 x = f2_8 x).trans ((if_neg (own_ngt (i := 983039) (by decide) (by omega)) : f2_8 x = f2_16 x).trans ((if_neg (own_nlt (i := 91) (by decide) (by omega)) : f2_16 x = f2_22 x).trans ((if_pos (own_gt (i := 96) (by decide) (by omega)) : f2_22 x = f2_30 x).trans ((if_neg (own_nlt (i := 123) (by decide) (by omega)) : f2_30 x = f2_36 x).trans ((if_pos (own_gt (i := 191) (by decide) (by omega)) : f2_36 x = f2_45 x).trans ((if_neg (own_neq (i := 215) (by decide) (by omega)) : f2_45 x = f2_52 x).trans ((if_neg (own_neq (i := 247) (by decide) (by omega)) : f2_52 x = f2_61 x).trans ((if_neg (own_nlt (i := 768) (by decide) (by omega)) : f2_61 x = f2_68 x).trans ((if_pos (own_gt (i := 879) (by decide) (by omega)) : f2_68 x = f2_77 x).trans ((if_neg (own_neq (i := 894) (by decide) (by omega)) : f2_77 x = f2_86 x).trans ((if_neg (own_nlt (i := 8192) (by decide) (by omega)) : f2_86 x = f2_93 x).trans ((if_pos (own_gt (i := 8203) (by decide) (by omega)) : f2_93 x = f2_102 x).trans ((if_pos (own_lt (i := 8206) (by decide) (by omega)) : f2_102 x = f2_118 x).trans ((if_pos (own_lt (i := 8592) (by decide) (by omega)) : f2_118 x = f2_134 x).trans ((if_pos (own_lt (i := 12272) (by decide) (by omega)) : f2_134 x = f2_150 x).trans ((if_pos (own_lt (i := 55296) (by decide) (by omega)) : f2_150 x = f2_164 x).trans ((if_pos (own_lt (i := 64976) (by decide) (by omega)) : f2_164 x = f2_178 x).trans ((if_pos (own_lt (i := 65534) (by decide) (by omega)) : f2_178 x = f2_192).trans ((rfl : f2_192 = 0))))))))))))))))))))⟩
theorem own_iv16 (x : Int32) (h1 : 8206 ≤ x.toInt) (h2 : x.toInt < 8304) : f1_0 x = 0 ∧ f2_0 x = 1 :=
  ⟨(if_neg (own_nlt (i := 65) (by decide) (by omega)) : f1_0 x = f1_6 x).trans ((if_pos (own_gt (i := 90) (by decide) (by omega)) : f1_6 x = f1_12 x).trans ((if_neg (own_nlt (i := 97) (by decide) (by omega)) : f1_12 x = f1_18 x).trans ((if_pos (own_gt (i := 122) (by decide) (by omega)) : f1_18 x = f1_24 x).trans ((if_neg (own_nlt (i := 192) (by decide) (by omega)) : f1_24 x = f1_31 x).trans ((if_pos (own_gt (i := 214) (by decide) (by omega)) : f1_31 x = f1_38 x).trans ((if_neg (own_nlt (i := 216) (by decide) (by omega)) : f1_38 x = f1_45 x).trans ((if_pos (own_gt (i := 246) (by decide) (by omega)) : f1_45 x = f1_52 x).trans ((if_neg (own_nlt (i := 248) (by decide) (by omega)) : f1_52 x = f1_59 x).trans ((if_pos (own_gt (i := 767) (by decide) (by omega)) : f1_59 x = f1_66 x).trans ((if_neg (own_nlt (i := 880) (by decide) (by omega)) : f1_66 x = f1_73 x).trans ((if_pos (own_gt (i := 893) (by decide) (by omega)) : f1_73 x = f1_80 x).trans ((if_neg (own_nlt (i := 895) (by decide) (by omega)) : f1_80 x = f1_87 x).trans ((if_pos (own_gt (i := 8191) (by decide) (by omega)) : f1_87 x = f1_94 x).trans ((if_neg (own_nlt (i := 8204) (by decide) (by omega)) : f1_94 x = f1_101 x).trans ((if_pos (own_gt (i := 8205) (by decide) (by omega)) : f1_101 x = f1_108 x).trans ((if_pos (own_lt (i := 8304) (by decide) (by omega)) : f1_108 x = f1_122 x).trans ((if_pos (own_lt (i := 11264) (by decide) (by omega)) : f1_122 x = f1_136 x).trans ((if_pos (own_lt (i := 12289) (by decide) (by omega)) : f1_136 x = f1_149 x).trans ((if_pos (own_lt (i := 63744) (by decide) (by omega)) : f1_149 x = f1_161 x).trans ((if_pos (own_lt (i := 65008) (by decide) (by omega)) : f1_161 x = f1_173 x).trans ((if_pos (own_lt (i := 65536) (by decide) (by omega)) : f1_173 x = f1_189).trans ((rfl : f1_189 = 0))))))))))))))))))))))),
   (if_neg (own_nlt (i := 65) (by decide) (by omega)) : f2_0 x = f2_8 x).trans ((if_neg (own_ngt (i := 983039) (by decide) (by omega)) : f2_8 x = f2_16 x).trans ((if_neg (own_nlt (i := 91) (by decide) (by omega)) : f2_16 x = f2_22 x).trans ((if_pos (own_gt (i := 96) (by decide) (by omega)) : f2_22 x = f2_30 x).trans ((if_neg (own_nlt (i := 123) (by decide) (by omega)) : f2_30 x = f2_36 x).trans ((if_pos (own_gt (i := 191) (by decide) (by omega)) : f2_36 x = f2_45 x).trans ((if_neg (own_neq (i := 215) (by decide) (by omega)) : f2_45 x = f2_52 x).trans ((if_neg (own_neq (i := 247) (by decide) (by omega)) : f2_52 x = f2_61 x).trans ((if_neg (own_nlt (i := 768) (by decide) (by omega)) : f2_61 x = f2_68 x).trans ((if_pos (own_gt (i := 879) (by decide) (by omega)) : f2_68 x = f2_77 x).trans ((if_neg (own_neq (i := 894) (by decide) (by omega)) : f2_77 x = f2_86 x).trans ((if_neg (own_nlt (i := 8192) (by decide) (by omega)) : f2_86 x = f2_93 x).trans ((if_pos (own_gt (i := 8203) (by decide) (by omega)) : f2_93 x = f2_102 x).trans ((if_neg (own_nlt (i := 8206) (by decide) (by omega)) : f2_102 x = f2_109 x).trans ((if_neg (own_ngt (i := 8303) (by decide) (by omega)) : f2_109 x = f2_116).trans ((rfl : f2_116 = 1))))))))))))))))⟩
theorem own_iv17 (x : Int32) (h1 : 8304 ≤ x.toInt) (h2 : x.toInt < 8592) : f1_0 x = 1 ∧ f2_0 x = 0 :=
  ⟨(if_neg (own_nlt (i := 65) (by decide) (by omega)) : f1_0 x = f1_6 x).trans ((if_pos (own_gt (i := 90) (by decide) (by omega)) : f1_6 x = f1_12 x).trans ((if_neg (own_nlt (i := 97) (by decide) (by omega)) : f1_12 x = f1_18 x).trans ((if_pos (own_gt (i := 122) (by decide) (by omega)) : f1_18 x = f1_24 x).trans ((if_neg (own_nlt (i := 192) (by decide) (by omega)) : f1_24 x = f1_31 x).trans ((if_pos (own_gt (i := 214) (by decide) (by omega)) : f1_31 x = f1_38 x).trans ((if_neg (own_nlt (i := 216) (by decide) (by omega)) : f1_38 x = f1_45 x).trans ((if_pos (own_gt (i := 246) (by decide) (by omega)) : f1_45 x = f1_52 x).trans ((if_neg (own_nlt (i := 248) (by decide) (by omega)) : f1_52 x = f1_59 x).trans ((if_pos (own_gt (i := 767) (by decide) (by omega)) : f1_59 x = f1_66 x).trans ((if_neg (own_nlt (i := 880) (by decide) (by omega)) : f1_66 x = f1_73 x).trans ((if_pos (own_gt (i := 893) (by decide) (by omega)) : f1_73 x = f1_80 x).trans ((if_neg (own_nlt (i := 895) (by decide) (by omega)) : f1_80 x = f1_87 x).trans ((if_pos (own_gt (i := 8191) (by decide) (by omega)) : f1_87 x = f1_94 x).trans ((if_neg (own_nlt (i := 8204) (by decide) (by omega)) : f1_94 x = f1_101 x).trans ((if_pos (own_gt (i := 8205) (by decide) (by omega)) : f1_101 x = f1_108 x).trans ((if_neg (own_nlt (i := 8304) (by decide) (by omega)) : f1_108 x = f1_115 x).trans ((if_neg (own_ngt (i := 8591) (by decide) (by omega)) : f1_115 x = f1_185).trans ((rfl : f1_185 = 1))))))))))))))))))),
   (if_neg (own_nlt (i := 65) (by decide) (by omega)) : f2_0 x = f2_8 x).trans ((if_neg (own_ngt (i := 983039) (by decide) (by omega)) : f2_8 x = f2_16 x).trans ((if_neg (own_nlt (i := 91) (by decide) (by omega)) : f2_16 x = f2_22 x).trans ((if_pos (own_gt (i := 96) (by decide) (by omega)) : f2_22 x = f2_30 x).trans ((if_neg (own_nlt (i := 123) (by decide) (by omega)) : f2_30 x = f2_36 x).trans ((if_pos (own_gt (i := 191) (by decide) (by omega)) : f2_36 x = f2_45 x).trans ((if_neg (own_neq (i := 215) (by decide) (by omega)) : f2_45 x = f2_52 x).trans ((if_neg (own_neq (i := 247) (by decide) (by omega)) : f2_52 x = f2_61 x).trans ((if_neg (own_nlt (i := 768) (by decide) (by omega)) : f2_61 x = f2_68 x).trans ((if_pos (own_gt (i := 879) (by decide) (by omega)) : f2_68 x = f2_77 x).trans ((if_neg (own_neq (i := 894) (by decide) (by omega)) : f2_77 x = f2_86 x).trans ((if_neg (own_nlt (i := 8192) (by decide) (by omega)) : f2_86 x = f2_93 x).trans ((if_pos (own_gt (i := 8203) (by decide) (by omega)) : f2_93 x = f2_102 x).trans ((if_neg (own_nlt (i := 8206) (by decide) (by omega)) : f2_102 x = f2_109 x).trans ((if_pos (own_gt (i := 8303) (by decide) (by omega)) : f2_109 x = f2_118 x).trans ((if_pos (own_lt (i := 8592) (by decide) (by omega)) : f2_118 x = f2_134 x).trans ((if_pos (own_lt (i := 12272) (by decide) (by omega)) : f2_134 x = f2_150 x).trans ((if_pos (own_lt (i := 55296) (by decide) (by omega)) : f2_150 x = f2_164 x).trans ((if_pos (own_lt (i := 64976) (by decide) (by omega)) : f2_164 x = f2_178 x).trans ((if_pos (own_lt (i := 65534) (by decide) (by omega)) : f2_178 x = f2_192).trans ((rfl : f2_192 = 0)))))))))))))))))))))⟩
theorem own_iv18 (x : Int32) (h1 : 8592 ≤ x.toInt) (h2 : x.toInt < 11264) : f1_0 x = 0 ∧ f2_0 x = 1 :=
  ⟨(if_neg (own_nlt (i := 65) (by decide) (by omega)) : f1_0 x = f1_6 x).trans ((if_pos (own_gt (i := 90) (by decide) (by omega)) : f1_6 x = f1_12 x).trans ((if_neg (own_nlt (i := 97) (by decide) (by omega)) : f1_12 x = f1_18 x).trans ((if_pos (own_gt (i := 122) (by decide) (by omega)) : f1_18 x = f1_24 x).trans ((if_neg (own_nlt (i := 192) (by decide) (by omega)) : f1_24 x = f1_31 x).trans ((if_pos (own_gt (i := 214) (by decide) (by omega)) : f1_31 x = f1_38 x).trans ((if_neg (own_nlt (i := 216) (by decide) (by omega)) : f1_38 x = f1_45 x).trans ((if_pos (own_gt (i := 246) (by decide) (by omega)) : f1_45 x = f1_52 x).trans ((if_neg (own_nlt (i := 248) (by decide) (by omega)) : f1_52 x = f1_59 x).trans ((if_pos (own_gt (i := 767) (by decide) (by omega)) : f1_59 x = f1_66 x).trans ((if_neg (own_nlt (i := 880) (by decide) (by omega)) : f1_66 x = f1_73 x).trans ((if_pos (own_gt (i := 893) (by decide) (by omega)) : f1_73 x = f1_80 x).trans ((if_neg (own_nlt (i := 895) (by decide) (by omega)) : f1_80 x = f1_87 x).trans ((if_pos (own_gt (i := 8191) (by decide) (by omega)) : f1_87 x = f1_94 x).trans ((if_neg (own_nlt (i := 8204) (by decide) (by omega)) : f1_94 x = f1_101 x).trans ((if_pos (own_gt (i := 8205) (by decide) (by omega)) : f1_101 x = f1_108 x).trans ((if_neg (own_nlt (i := 8304) (by decide) (by omega)) : f1_108 x = f1_115 x).trans ((if_pos (own_gt (i := 8591) (by decide) (by omega)) : f1_115 x = f1_122 x).trans ((if_pos (own_lt (i := 11264) (by decide) (by omega)) : f1_122 x = f1_136 x).trans ((if_pos (own_lt (i := 12289) (by decide) (by omega)) : f1_136 x = f1_149 x).trans ((if_pos (own_lt (i := 63744) (by decide) (by omega)) : f1_149 x = f1_161 x).trans ((if_pos (own_lt (i := 65008) (by decide) (by omega)) : f1_161 x = f1_173 x).trans ((if_pos (own_lt (i := 65536) (by decide) (by omega)) : f1_173 x = f1_189).trans ((rfl : f1_189 = 0)))))))))))))))))))))))),
   (if_neg (own_nlt (i := 65) (by decide) (by omega)) : f2_0 x = f2_8 x).trans ((if_neg (own_ngt (i := 983039) (by decide) (by omega)) : f2_8 x = f2_16 x).trans ((if_neg (own_nlt (i := 91) (by decide) (by omega)) : f2_16 x = f2_22 x).trans ((if_pos (own_gt (i := 96) (by decide) (by omega)) : f2_22 x = f2_30 x).trans ((if_neg (own_nlt (i := 123) (by decide) (by omega)) : f2_30 x = f2_36 x).trans ((if_pos (own_gt (i := 191) (by decide) (by omega)) : f2_36 x = f2_45 x).trans ((if_neg (own_neq (i := 215) (by decide) (by omega)) : f2_45 x = f2_52 x).trans ((if_neg (own_neq (i := 247) (by decide) (by omega)) : f2_52 x = f2_61 x).trans ((if_neg (own_nlt (i := 768) (by decide) (by omega)) : f2_61 x = f2_68 x).trans ((if_pos (own_gt (i := 879) (by decide) (by omega)) : f2_68 x = f2_77 x).trans ((if_neg (own_neq (i := 894) (by decide) (by omega)) : f2_77 x = f2_86 x).trans ((if_neg (own_nlt (i := 8192) (by decide) (by omega)) : f2_86 x = f2_93 x).trans ((if_pos (own_gt (i := 8203) (by decide) (by omega)) : f2_93 x = f2_102 x).trans ((if_neg (own_nlt (i := 8206) (by decide) (by omega)) : f2_102 x = f2_109 x).trans ((if_pos (own_gt (i := 8303) (by decide) (by omega)) : f2_109 x = f2_118 x).trans ((if_neg (own_nlt (i := 8592) (by decide) (by omega)) : f2_118 x = f2_125 x).trans ((if_neg (own_ngt (i := 11263) (by decide) (by omega)) : f2_125 x = f2_132).trans ((rfl : f2_132 = 1))))))))))))))))))⟩
theorem own_iv19 (x : Int32) (h1 : 11264 ≤ x.toInt) (h2 : x.toInt < 12272) : f1_0 x = 1 ∧ f2_0 x = 0 :=
  ⟨(if_neg (own_nlt (i := 65) (by decide) (by omega)) : f1_0 x = f1_6 x).trans ((if_pos (own_gt (i := 90) (by decide) (by omega)) : f1_6 x = f1_12 x).trans ((if_neg (own_nlt (i := 97) (by decide) (by omega)) : f1_12 x = f1_18 x).trans ((if_pos (own_gt (i := 122) (by decide) (by omega)) : f1_18 x = f1_24 x).trans ((if_neg (own_nlt (i := 192) (by decide) (by omega)) : f1_24 x = f1_31 x).trans ((if_pos (own_gt (i := 214) (by decide) (by omega)) : f1_31 x = f1_38 x).trans ((if_neg (own_nlt (i := 216) (by decide) (by omega)) : f1_38 x = f1_45 x).trans ((if_pos (own_gt (i := 246) (by decide) (by omega)) : f1_45 x = f1_52 x).trans ((if_neg (own_nlt (i := 248) (by decide) (by omega)) : f1_52 x = f1_59 x).trans ((if_pos (own_gt (i := 767) (by decide) (by omega)) : f1_59 x = f1_66 x).trans ((if_neg (own_nlt (i := 880) (by decide) (by omega)) : f1_66 x = f1_73 x).trans ((if_pos (own_gt (i := 893) (by decide) (by omega)) : f1_73 x = f1_80 x).trans ((if_neg (own_nlt (i := 895) (by decide) (by omega)) : f1_80 x = f1_87 x).trans ((if_pos (own_gt (i := 8191) (by decide) (by omega)) : f1_87 x = f1_94 x).trans ((if_neg (own_nlt (i := 8204) (by decide) (by omega)) : f1_94 x = f1_101 x).trans ((if_pos (own_gt (i := 8205) (by decide) (by omega)) : f1_101 x = f1_108 x).trans ((if_neg (own_nlt (i := 8304) (by decide) (by omega)) : f1_108 x = f1_115 x).trans ((if_pos (own_gt (i := 8591) (by decide) (by omega)) : f1_115 x = f1_122 x).trans ((if_neg (own_nlt (i := 11264) (by decide) (by omega)) : f1_122 x = f1_129 x).trans ((if_neg (own_ngt (i := 12271) (by decide) (by omega)) : f1_129 x = f1_185).trans ((rfl : f1_185 = 1))))))))))))))))))))),
   (if_neg (own_nlt (i := 65) (by decide) (by omega)) : f2_0 x = f2_8 x).trans ((if_neg (own_ngt (i := 983039) (by decide) (by omega)) : f2_8 x = f2_16 x).trans ((if_neg (own_nlt (i := 91) (by decide) (by omega)) : f2_16 x = f2_22 x).trans ((if_pos (own_gt (i := 96) (by decide) (by omega)) : f2_22 x = f2_30 x).trans ((if_neg (own_nlt (i := 123) (by decide) (by omega)) : f2_30 x = f2_36 x).trans ((if_pos (own_gt (i := 191) (by decide) (by omega)) : f2_36 x = f2_45 x).trans ((if_neg (own_neq (i := 215) (by decide) (by omega)) : f2_45 x = f2_52 x).trans ((if_neg (own_neq (i := 247) (by decide) (by omega)) : f2_52 x = f2_61 x).trans ((if_neg (own_nlt (i := 768) (by decide) (by omega)) : f2_61 x = f2_68 x).trans ((if_pos (own_gt (i := 879) (by decide) (by omega)) : f2_68 x = f2_77 x).trans ((if_neg (own_neq (i := 894) (by decide) (by omega)) : f2_77 x = f2_86 x).trans ((if_neg (own_nlt (i := 8192) (by decide) (by omega)) : f2_86 x = f2_93 x).trans ((if_pos (own_gt (i := 8203) (by decide) (by omega)) : f2_93 x = f2_102 x).trans ((if_neg (own_nlt (i := 8206) (by decide) (by omega)) : f2_102 x = f2_109 x).trans ((if_pos (own_gt (i := 8303) (by decide) (by omega)) : f2_109 x = f2_118 x).trans ((if_neg (own_nlt (i := 8592) (by decide) (by omega)) : f2_118 x = f2_125 x).trans ((if_pos (own_gt (i := 11263) (by decide) (by omega)) : f2_125 x = f2_134 x).trans ((if_pos (own_lt (i := 12272) (by decide) (by omega)) : f2_134 x = f2_150 x).trans ((if_pos (own_lt (i := 55296) (by decide) (by omega)) : f2_150 x = f2_164 x).trans ((if_pos (own_lt (i := 64976) (by decide) (by omega)) : f2_164 x = f2_178 x).trans ((if_pos (own_lt (i := 65534) (by decide) (by omega)) : f2_178 x = f2_192).trans ((rfl : f2_192 = 0))))))))))))))))))))))⟩
theorem own_iv20 (x : Int32) (h1 : 12272 ≤ x.toInt) (h2 : x.toInt < 12289) : f1_0 x = 0 ∧ f2_0 x = 1 :=
  ⟨(if_neg (own_nlt (i := 65) (by decide) (by omega)) : f1_0 x = f1_6 x).trans ((if_pos (own_gt (i := 90) (by decide) (by omega)) : f1_6 x = f1_12 x).trans ((if_neg (own_nlt (i := 97) (by decide) (by omega)) : f1_12 x = f1_18 x).trans ((if_pos (own_gt (i := 122) (by decide) (by omega)) : f1_18 x = f1_24 x).trans ((if_neg (own_nlt (i := 192) (by decide) (by omega)) : f1_24 x = f1_31 x).trans ((if_pos (own_gt (i := 214) (by decide) (by omega)) : f1_31 x = f1_38 x).trans ((if_neg (own_nlt (i := 216) (by decide) (by omega)) : f1_38 x = f1_45 x).trans ((if_pos (own_gt (i := 246) (by decide) (by omega)) : f1_45 x = f1_52 x).trans ((if_neg (own_nlt (i := 248) (by decide) (by omega)) : f1_52 x = f1_59 x).trans ((if_pos (own_gt (i := 767) (by decide) (by omega)) : f1_59 x = f1_66 x).trans ((if_neg (own_nlt (i := 880) (by decide) (by omega)) : f1_66 x = f1_73 x).trans ((if_pos (own_gt (i := 893) (by decide) (by omega)) : f1_73 x = f1_80 x).trans ((if_neg (own_nlt (i := 895) (by decide) (by omega)) : f1_80 x = f1_87 x).trans ((if_pos (own_gt (i := 8191) (by decide) (by omega)) : f1_87 x = f1_94 x).trans ((if_neg (own_nlt (i := 8204) (by decide) (by omega)) : f1_94 x = f1_101 x).trans ((if_pos (own_gt (i := 8205) (by decide) (by omega)) : f1_101 x = f1_108 x).trans ((if_neg (own_nlt (i := 8304) (by decide) (by omega)) : f1_108 x = f1_115 x).trans ((if_pos (own_gt (i := 8591) (by decide) (by omega)) : f1_115 x = f1_122 x).trans ((if_neg (own_nlt (i := 11264) (by decide) (by omega)) : f1_122 x = f1_129 x).trans ((if_pos (own_gt (i := 12271) (by decide) (by omega)) : f1_129 x = f1_136 x).trans ((if_pos (own_lt (i := 12289) (by decide) (by omega)) : f1_136 x = f1_149 x).trans ((if_pos (own_lt (i := 63744) (by decide) (by omega)) : f1_149 x = f1_161 x).trans ((if_pos (own_lt (i := 65008) (by decide) (by omega)) : f1_161 x = f1_173 x).trans ((if_pos (own_lt (i := 65536) (by decide) (by omega)) : f1_173 x = f1_189).trans ((rfl : f1_189 = 0))))))))))))))))))))))))),
   (if_neg (own_nlt (i := 65) (by decide) (by omega)) : f2_0 x = f2_8 x).trans ((if_neg (own_ngt (i := 983039) (by decide) (by omega)) : f2_8 x = f2_16 x).trans ((if_neg (own_nlt (i := 91) (by decide) (by omega)) : f2_16 x = f2_22 x).trans ((if_pos (own_gt (i := 96) (by decide) (by omega)) : f2_22 x = f2_30 x).trans ((if_neg (own_nlt (i := 123) (by decide) (by omega)) : f2_30 x = f2_36 x).trans ((if_pos (own_gt (i := 191) (by decide) (by omega)) : f2_36 x = f2_45 x).trans ((if_neg (own_neq (i := 215) (by decide) (by omega)) : f2_45 x = f2_52 x).trans ((if_neg (own_neq (i := 247) (by decide) (by omega)) : f2_52 x = f2_61 x).trans ((if_neg (own_nlt (i := 768) (by decide) (by omega)) : f2_61 x = f2_68 x).trans ((if_pos (own_gt (i := 879) (by decide) (by omega)) : f2_68 x = f2_77 x).trans ((if_neg (own_neq (i := 894) (by decide) (by omega)) : f2_77 x = f2_86 x).trans ((if_neg (own_nlt (i := 8192) (by decide) (by omega)) : f2_86 x = f2_93 x).trans ((if_pos (own_gt (i := 8203) (by decide) (by omega)) : f2_93 x = f2_102 x).trans ((if_neg (own_nlt (i := 8206) (by decide) (by omega)) : f2_102 x = f2_109 x).trans ((if_pos (own_gt (i := 8303) (by decide) (by omega)) : f2_109 x = f2_118 x).trans ((if_neg (own_nlt (i := 8592) (by decide) (by omega)) : f2_118 x = f2_125 x).trans ((if_pos (own_gt (i := 11263) (by decide) (by omega)) : f2_125 x = f2_134 x).trans ((if_neg (own_nlt (i := 12272) (by decide) (by omega)) : f2_134 x = f2_141 x).trans ((if_neg (own_ngt (i := 12288) (by decide) (by omega)) : f2_141 x = f2_148).trans ((rfl : f2_148 = 1))))))))))))))))))))⟩
theorem own_iv21 (x : Int32) (h1 : 12289 ≤ x.toInt) (h2 : x.toInt < 55296) : f1_0 x = 1 ∧ f2_0 x = 0 :=
  ⟨(if_neg (own_nlt (i := 65) (by decide) (by omega)) : f1_0 x = f1_6 x).trans ((if_pos (own_gt (i := 90) (by decide) (by omega)) : f1_6 x = f1_12 x).trans ((if_neg (own_nlt (i := 97) (by decide) (by omega)) : f1_12 x = f1_18 x).trans ((if_pos (own_gt (i := 122) (by decide) (by omega)) : f1_18 x = f1_24 x).trans ((if_neg (own_nlt (i := 192) (by decide) (by omega)) : f1_24 x = f1_31 x).trans ((if_pos (own_gt (i := 214) (by decide) (by omega)) : f1_31 x = f1_38 x).trans ((if_neg (own_nlt (i := 216) (by decide) (by omega)) : f1_38 x = f1_45 x).trans ((if_pos (own_gt (i := 246) (by decide) (by omega)) : f1_45 x = f1_52 x).trans ((if_neg (own_nlt (i := 248) (by decide) (by omega)) : f1_52 x = f1_59 x).trans ((if_pos (own_gt (i := 767) (by decide) (by omega)) : f1_59 x = f1_66 x).trans ((if_neg (own_nlt (i := 880) (by decide) (by omega)) : f1_66 x = f1_73 x).trans ((if_pos (own_gt (i := 893) (by decide) (by omega)) : f1_73 x = f1_80 x).trans ((if_neg (own_nlt (i := 895) (by decide) (by omega)) : f1_80 x = f1_87 x).trans ((if_pos (own_gt (i := 8191) (by decide) (by omega)) : f1_87 x = f1_94 x).trans ((if_neg (own_nlt (i := 8204) (by decide) (by omega)) : f1_94 x = f1_101 x).trans ((if_pos (own_gt (i := 8205) (by decide) (by omega)) : f1_101 x = f1_108 x).trans ((if_neg (own_nlt (i := 8304) (by decide) (by omega)) : f1_108 x = f1_115 x).trans ((if_pos (own_gt (i := 8591) (by decide) (by omega)) : f1_115 x = f1_122 x).trans ((if_neg (own_nlt (i := 11264) (by decide) (by omega)) : f1_122 x = f1_129 x).trans ((if_pos (own_gt (i := 12271) (by decide) (by omega)) : f1_129 x = f1_136 x).trans ((if_neg (own_nlt (i := 12289) (by decide) (by omega)) : f1_136 x = f1_143 x).trans ((if_neg (own_ngt (i := 55295) (by decide) (by omega)) : f1_143 x = f1_185).trans ((rfl : f1_185 = 1))))))))))))))))))))))),
   (if_neg (own_nlt (i := 65) (by decide) (by omega)) : f2_0 x = f2_8 x).trans ((if_neg (own_ngt (i := 983039) (by decide) (by omega)) : f2_8 x = f2_16 x).trans ((if_neg (own_nlt (i := 91) (by decide) (by omega)) : f2_16 x = f2_22 x).trans ((if_pos (own_gt (i := 96) (by decide) (by omega)) : f2_22 x = f2_30 x).trans ((if_neg (own_nlt (i := 123) (by decide) (by omega)) : f2_30 x = f2_36 x).trans ((if_pos (own_gt (i := 191) (by decide) (by omega)) : f2_36 x = f2_45 x).trans ((if_neg (own_neq (i := 215) (by decide) (by omega)) : f2_45 x = f2_52 x).trans ((if_neg (own_neq (i := 247) (by decide) (by omega)) : f2_52 x = f2_61 x).trans ((if_neg (own_nlt (i := 768) (by decide) (by omega)) : f2_61 x = f2_68 x).trans ((if_pos (own_gt (i := 879) (by decide) (by omega)) : f2_68 x = f2_77 x).trans ((if_neg (own_neq (i := 894) (by decide) (by omega)) : f2_77 x = f2_86 x).trans ((if_neg (own_nlt (i := 8192) (by decide) (by omega)) : f2_86 x = f2_93 x).trans ((if_pos (own_gt (i := 8203) (by decide) (by omega)) : f2_93 x = f2_102 x).trans ((if_neg (own_nlt (i := 8206) (by decide) (by omega)) : f2_102 x = f2_109 x).trans ((if_pos (own_gt (i := 8303) (by decide) (by omega)) : f2_109 x = f2_118 x).trans ((if_neg (own_nlt (i := 8592) (by decide) (by omega)) : f2_118 x = f2_125 x).trans ((if_pos (own_gt (i := 11263) (by decide) (by omega)) : f2_125 x = f2_134 x).trans ((if_neg (own_nlt (i := 12272) (by decide) (by omega)) : f2_134 x = f2_141 x).trans ((if_pos (own_gt (i := 12288) (by decide) (by omega)) : f2_141 x = f2_150 x).trans ((if_pos (own_lt (i := 55296) (by decide) (by omega)) : f2_150 x = f2_164 x).trans ((if_pos (own_lt (i := 64976) (by decide) (by omega)) : f2_164 x = f2_178 x).trans ((if_pos (own_lt (i := 65534) (by decide) (by omega)) : f2_178 x = f2_192).trans ((rfl : f2_192 = 0)))))))))))))))))))))))⟩
theorem own_iv22 (x : Int32) (h1 : 55296 ≤ x.toInt) (h2 : x.toInt < 63744) : f1_0 x = 0 ∧ f2_0 x = 1 :=
  ⟨(if_neg (own_nlt (i := 65) (by decide) (by omega)) : f1_0 x = f1_6 x).trans ((if_pos (own_gt (i := 90) (by decide) (by omega)) : f1_6 x = f1_12 x).trans ((if_neg (own_nlt (i := 97) (by decide) (by omega)) : f1_12 x = f1_18 x).trans ((if_pos (own_gt (i := 122) (by decide) (by omega)) : f1_18 x = f1_24 x).trans ((if_neg (own_nlt (i := 192) (by decide) (by omega)) : f1_24 x = f1_31 x).trans ((if_pos (own_gt (i := 214) (by decide) (by omega)) : f1_31 x = f1_38 x).trans ((if_neg (own_nlt (i := 216) (by decide) (by omega)) : f1_38 x = f1_45 x).trans ((if_pos (own_gt (i := 246) (by decide) (by omega)) : f1_45 x = f1_52 x).trans ((if_neg (own_nlt (i := 248) (by decide) (by omega)) : f1_52 x = f1_59 x).trans ((if_pos (own_gt (i := 767) (by decide) (by omega)) : f1_59 x = f1_66 x).trans ((if_neg (own_nlt (i := 880) (by decide) (by omega)) : f1_66 x = f1_73 x).trans ((if_pos (own_gt (i := 893) (by decide) (by omega)) : f1_73 x = f1_80 x).trans ((if_neg (own_nlt (i := 895) (by decide) (by omega)) : f1_80 x = f1_87 x).trans ((if_pos (own_gt (i := 8191) (by decide) (by omega)) : f1_87 x = f1_94 x).trans ((if_neg (own_nlt (i := 8204) (by decide) (by omega)) : f1_94 x = f1_101 x).trans ((if_pos (own_gt (i := 8205) (by decide) (by omega)) : f1_101 x = f1_108 x).trans ((if_neg (own_nlt (i := 8304) (by decide) (by omega)) : f1_108 x = f1_115 x).trans ((if_pos (own_gt (i := 8591) (by decide) (by omega)) : f1_115 x = f1_122 x).trans ((if_neg (own_nlt (i := 11264) (by decide) (by omega)) : f1_122 x = f1_129 x).trans ((if_pos (own_gt (i := 12271) (by decide) (by omega)) : f1_129 x = f1_136 x).trans ((if_neg (own_nlt (i := 12289) (by decide) (by omega)) : f1_136 x = f1_143 x).trans ((if_pos (own_gt (i := 55295) (by decide) (by omega)) : f1_143 x = f1_149 x).trans ((if_pos (own_lt (i := 63744) (by decide) (by omega)) : f1_149 x = f1_161 x).trans ((if_pos (own_lt (i := 65008) (by decide) (by omega)) : f1_161 x = f1_173 x).trans ((if_pos (own_lt (i := 65536) (by decide) (by omega)) : f1_173 x = f1_189).trans ((rfl : f1_189 = 0)))))))))))))))))))))))))),
   (if_neg (own_nlt (i := 65) (by decide) (by omega)) : f2_0 x = f2_8 x).trans ((if_neg (own_ngt (i := 983039) (by decide) (by omega)) : f2_8 x = f2_16 x).trans ((if_neg (own_nlt (i := 91) (by decide) (by omega)) : f2_16 x = f2_22 x).trans ((if_pos (own_gt (i := 96) (by decide) (by omega)) : f2_22 x = f2_30 x).trans ((if_neg (own_nlt (i := 123) (by decide) (by omega)) : f2_30 x = f2_36 x).trans ((if_pos (own_gt (i := 191) (by decide) (by omega)) : f2_36 x = f2_45 x).trans ((if_neg (own_neq (i := 215) (by decide) (by omega)) : f2_45 x = f2_52 x).trans ((if_neg (own_neq (i := 247) (by decide) (by omega)) : f2_52 x = f2_61 x).trans ((if_neg (own_nlt (i := 768) (by decide) (by omega)) : f2_61 x = f2_68 x).trans ((if_pos (own_gt (i := 879) (by decide) (by omega)) : f2_68 x = f2_77 x).trans ((if_neg (own_neq (i := 894) (by decide) (by omega)) : f2_77 x = f2_86 x).trans ((if_neg (own_nlt (i := 8192) (by decide) (by omega)) : f2_86 x = f2_93 x).trans ((if_pos (own_gt (i := 8203) (by decide) (by omega)) : f2_93 x = f2_102 x).trans ((if_neg (own_nlt (i := 8206) (by decide) (by omega)) : f2_102 x = f2_109 x).trans ((if_pos (own_gt (i := 8303) (by decide) (by omega)) : f2_109 x = f2_118 x).trans ((if_neg (own_nlt (i := 8592) (by decide) (by omega)) : f2_118 x = f2_125 x).trans ((if_pos (own_gt (i := 11263) (by decide) (by omega)) : f2_125 x = f2_134 x).trans ((if_neg (own_nlt (i := 12272) (by decide) (by omega)) : f2_134 x = f2_141 x).trans ((if_pos (own_gt (i := 12288) (by decide) (by omega)) : f2_141 x = f2_150 x).trans ((if_neg (own_nlt (i := 55296) (by decide) (by omega)) : f2_150 x = f2_156 x).trans ((if_neg (own_ngt (i := 63743) (by decide) (by omega)) : f2_156 x = f2_162).trans ((rfl : f2_162 = 1))))))))))))))))))))))⟩
theorem own_iv23 (x : Int32) (h1 : 63744 ≤ x.toInt) (h2 : x.toInt < 64976) : f1_0 x = 1 ∧ f2_0 x = 0 :=
  ⟨(if_neg (own_nlt (i := 65) (by decide) (by omega)) : f1_0 x = f1_6 x).trans ((if_pos (own_gt (i := 90) (by decide) (by omega)) : f1_6 x = f1_12 x).trans ((if_neg (own_nlt (i := 97) (by decide) (by omega)) : f1_12 x = f1_18 x).trans ((if_pos (own_gt (i := 122) (by decide) (by omega)) : f1_18 x = f1_24 x).trans ((if_neg (own_nlt (i := 192) (by decide) (by omega)) : f1_24 x = f1_31 x).trans ((if_pos (own_gt (i := 214) (by decide) (by omega)) : f1_31 x = f1_38 x).trans ((if_neg (own_nlt (i := 216) (by decide) (by omega)) : f1_38 x = f1_45 x).trans ((if_pos (own_gt (i := 246) (by decide) (by omega)) : f1_45 x = f1_52 x).trans ((if_neg (own_nlt (i := 248) (by decide) (by omega)) : f1_52 x = f1_59 x).trans ((if_pos (own_gt (i := 767) (by decide) (by omega)) : f1_59 x = f1_66 x).trans ((if_neg (own_nlt (i := 880) (by decide) (by omega)) : f1_66 x = f1_73 x).trans ((if_pos (own_gt (i := 893) (by decide) (by omega)) : f1_73 x = f1_80 x).trans ((if_neg (own_nlt (i := 895) (by decide) (by omega)) : f1_80 x = f1_87 x).trans ((if_pos (own_gt (i := 8191) (by decide) (by omega)) : f1_87 x = f1_94 x).trans ((if_neg (own_nlt (i := 8204) (by decide) (by omega)) : f1_94 x = f1_101 x).trans ((if_pos (own_gt (i := 8205) (by decide) (by omega)) : f1_101 x = f1_108 x).trans ((if_neg (own_nlt (i := 8304) (by decide) (by omega)) : f1_108 x = f1_115 x).trans ((if_pos (own_gt (i := 8591) (by decide) (by omega)) : f1_115 x = f1_122 x).trans ((if_neg (own_nlt (i := 11264) (by decide) (by omega)) : f1_122 x = f1_129 x).trans ((if_pos (own_gt (i := 12271) (by decide) (by omega)) : f1_129 x = f1_136 x).trans ((if_neg (own_nlt (i := 12289) (by decide) (by omega)) : f1_136 x = f1_143 x).trans ((if_pos (own_gt (i := 55295) (by decide) (by omega)) : f1_143 x = f1_149 x).trans ((if_neg (own_nlt (i := 63744) (by decide) (by omega)) : f1_149 x = f1_155 x).trans ((if_neg (own_ngt (i := 64975) (by decide) (by omega)) : f1_155 x = f1_185).trans ((rfl : f1_185 = 1))))))))))))))))))))))))),
   (if_neg (own_nlt (i := 65) (by decide) (by omega)) : f2_0 x = f2_8 x).trans ((if_neg (own_ngt (i := 983039) (by decide) (by omega)) : f2_8 x = f2_16 x).trans ((if_neg (own_nlt (i := 91) (by decide) (by omega)) : f2_16 x = f2_22 x).trans ((if_pos (own_gt (i := 96) (by decide) (by omega)) : f2_22 x = f2_30 x).trans ((if_neg (own_nlt (i := 123) (by decide) (by omega)) : f2_30 x = f2_36 x).trans ((if_pos (own_gt (i := 191) (by decide) (by omega)) : f2_36 x = f2_45 x).trans ((if_neg (own_neq (i := 215) (by decide) (by omega)) : f2_45 x = f2_52 x).trans ((if_neg (own_neq (i := 247) (by decide) (by omega)) : f2_52 x = f2_61 x).trans ((if_neg (own_nlt (i := 768) (by decide) (by omega)) : f2_61 x = f2_68 x).trans ((if_pos (own_gt (i := 879) (by decide) (by omega)) : f2_68 x = f2_77 x).trans ((if_neg (own_neq (i := 894) (by decide) (by omega)) : f2_77 x = f2_86 x).trans ((if_neg (own_nlt (i := 8192) (by decide) (by omega)) : f2_86 x = f2_93 x).trans ((if_pos (own_gt (i := 8203) (by decide) (by omega)) : f2_93 x = f2_102 x).trans ((if_neg (own_nlt (i := 8206) (by decide) (by omega)) : f2_102 x = f2_109 x).trans ((if_pos (own_gt (i := 8303) (by decide) (by omega)) : f2_109 x = f2_118 x).trans ((if_neg (own_nlt (i := 8592) (by decide) (by omega)) : f2_118 x = f2_125 x).trans ((if_pos (own_gt (i := 11263) (by decide) (by omega)) : f2_125 x = f2_134 x).trans ((if_neg (own_nlt (i := 12272) (by decide) (by omega)) : f2_134 x = f2_141 x).trans ((if_pos (own_gt (i := 12288) (by decide) (by omega)) : f2_141 x = f2_150 x).trans ((if_neg (own_nlt (i := 55296) (by decide) (by omega)) : f2_150 x = f2_156 x).trans ((if_pos (own_gt (i := 63743) (by decide) (by omega)) : f2_156 x = f2_164 x).trans ((if_pos (own_lt (i := 64976) (by decide) (by omega)) : f2_164 x = f2_178 x).trans ((if_pos (own_lt (i := 65534) (by decide) (by omega)) : f2_178 x = f2_192).trans ((rfl : f2_192 = 0))))))))))))))))))))))))⟩
theorem own_iv24 (x : Int32) (h1 : 64976 ≤ x.toInt) (h2 : x.toInt < 65008) : f1_0 x = 0 ∧ f2_0 x = 1 :=
  ⟨(if_neg (own_nlt (i := 65) (by decide) (by omega)) : f1_0 x = f1_6 x).trans ((if_pos (own_gt (i := 90) (by decide) (by omega)) : f1_6 x = f1_12 x).trans ((if_neg (own_nlt (i := 97) (by decide) (by omega)) : f1_12 x = f1_18 x).trans ((if_pos (own_gt (i := 122) (by decide) (by omega)) : f1_18 x = f1_24 x).trans ((if_neg (own_nlt (i := 192) (by decide) (by omega)) : f1_24 x = f1_31 x).trans ((if_pos (own_gt (i := 214) (by decide) (by omega)) : f1_31 x = f1_38 x).trans ((if_neg (own_nlt (i := 216) (by decide) (by omega)) : f1_38 x = f1_45 x).trans ((if_pos (own_gt (i := 246) (by decide) (by omega)) : f1_45 x = f1_52 x).trans ((if_neg (own_nlt (i := 248) (by decide) (by omega)) : f1_52 x = f1_59 x).trans ((if_pos (own_gt (i := 767) (by decide) (by omega)) : f1_59 x = f1_66 x).trans ((if_neg (own_nlt (i := 880) (by decide) (by omega)) : f1_66 x = f1_73 x).trans ((if_pos (own_gt (i := 893) (by decide) (by omega)) : f1_73 x = f1_80 x).trans ((if_neg (own_nlt (i := 895) (by decide) (by omega)) : f1_80 x = f1_87 x).trans ((if_pos (own_gt (i := 8191) (by decide) (by omega)) : f1_87 x = f1_94 x).trans ((if_neg (own_nlt (i := 8204) (by decide) (by omega)) : f1_94 x = f1_101 x).trans ((if_pos (own_gt (i := 8205) (by decide) (by omega)) : f1_101 x = f1_108 x).trans ((if_neg (own_nlt (i := 8304) (by decide) (by omega)) : f1_108 x = f1_115 x).trans ((if_pos (own_gt (i := 8591) (by decide) (by omega)) : f1_115 x = f1_122 x).trans ((if_neg (own_nlt (i := 11264) (by decide) (by omega)) : f1_122 x = f1_129 x).trans ((if_pos (own_gt (i := 12271) (by decide) (by omega)) : f1_129 x = f1_136 x).trans ((if_neg (own_nlt (i := 12289) (by decide) (by omega)) : f1_136 x = f1_143 x).trans ((if_pos (own_gt (i := 55295) (by decide) (by omega)) : f1_143 x = f1_149 x).trans ((if_neg (own_nlt (i := 63744) (by decide) (by omega)) : f1_149 x = f1_155 x).trans ((if_pos (own_gt (i := 64975) (by decide) (by omega)) : f1_155 x = f1_161 x).trans ((if_pos (own_lt (i := 65008) (by decide) (by omega)) : f1_161 x = f1_173 x).trans ((if_pos (own_lt (i := 65536) (by decide) (by omega)) : f1_173 x = f1_189).trans ((rfl : f1_189 = 0))))))))))))))))))))))))))),
   (if_neg (own_nlt (i := 65) (by decide) (by omega)) : f2_0 x = f2_8 x).trans ((if_neg (own_ngt (i := 983039) (by decide) (by omega)) : f2_8 x = f2_16 x).trans ((if_neg (own_nlt (i := 91) (by decide) (by omega)) : f2_16 x = f2_22 x).trans ((if_pos (own_gt (i := 96) (by decide) (by omega)) : f2_22 x = f2_30 x).trans ((if_neg (own_nlt (i := 123) (by decide) (by omega)) : f2_30 x = f2_36 x).trans ((if_pos (own_gt (i := 191) (by decide) (by omega)) : f2_36 x = f2_45 x).trans ((if_neg (own_neq (i := 215) (by decide) (by omega)) : f2_45 x = f2_52 x).trans ((if_neg (own_neq (i := 247) (by decide) (by omega)) : f2_52 x = f2_61 x).trans ((if_neg (own_nlt (i := 768) (by decide) (by omega)) : f2_61 x = f2_68 x).trans ((if_pos (own_gt (i := 879) (by decide) (by omega)) : f2_68 x = f2_77 x).trans ((if_neg (own_neq (i := 894) (by decide) (by omega)) : f2_77 x = f2_86 x).trans ((if_neg (own_nlt (i := 8192) (by decide) (by omega)) : f2_86 x = f2_93 x).trans ((if_pos (own_gt (i := 8203) (by decide) (by omega)) : f2_93 x = f2_102 x).trans ((if_neg (own_nlt (i := 8206) (by decide) (by omega)) : f2_102 x = f2_109 x).trans ((if_pos (own_gt (i := 8303) (by decide) (by omega)) : f2_109 x = f2_118 x).trans ((if_neg (own_nlt (i := 8592) (by decide) (by omega)) : f2_118 x = f2_125 x).trans ((if_pos (own_gt (i := 11263) (by decide) (by omega)) : f2_125 x = f2_134 x).trans ((if_neg (own_nlt (i := 12272) (by decide) (by omega)) : f2_134 x = f2_141 x).trans ((if_pos (own_gt (i := 12288) (by decide) (by omega)) : f2_141 x = f2_150 x).trans ((if_neg (own_nlt (i := 55296) (by decide) (by omega)) : f2_150 x = f2_156 x).trans ((if_pos (own_gt (i := 63743) (by decide) (by omega)) : f2_156 x = f2_164 x).trans ((if_neg (own_nlt (i := 64976) (by decide) (by omega)) : f2_164 x = f2_170 x).trans ((if_neg (own_ngt (i := 65007) (by decide) (by omega)) : f2_170 x = f2_176).trans ((rfl : f2_176 = 1))))))))))))))))))))))))⟩
theorem own_iv25 (x : Int32) (h1 : 65008 ≤ x.toInt) (h2 : x.toInt < 65534) : f1_0 x = 1 ∧ f2_0 x = 0 :=
  ⟨(if_neg (own_nlt (i := 65) (by decide) (by omega)) : f1_0 x = f1_6 x).trans ((if_pos (own_gt (i := 90) (by decide) (by omega)) : f1_6 x = f1_12 x).trans ((if_neg (own_nlt (i := 97) (by decide) (by omega)) : f1_12 x = f1_18 x).trans ((if_pos (own_gt (i := 122) (by decide) (by omega)) : f1_18 x = f1_24 x).trans ((if_neg (own_nlt (i := 192) (by decide) (by omega)) : f1_24 x = f1_31 x).trans ((if_pos (own_gt (i := 214) (by decide) (by omega)) : f1_31 x = f1_38 x).trans ((if_neg (own_nlt (i := 216) (by decide) (by omega)) : f1_38 x = f1_45 x).trans ((if_pos (own_gt (i := 246) (by decide) (by omega)) : f1_45 x = f1_52 x).trans ((if_neg (own_nlt (i := 248) (by decide) (by omega)) : f1_52 x = f1_59 x).trans ((if_pos (own_gt (i := 767) (by decide) (by omega)) : f1_59 x = f1_66 x).trans ((if_neg (own_nlt (i := 880) (by decide) (by omega)) : f1_66 x = f1_73 x).trans ((if_pos (own_gt (i := 893) (by decide) (by omega)) : f1_73 x = f1_80 x).trans ((if_neg (own_nlt (i := 895) (by decide) (by omega)) : f1_80 x = f1_87 x).trans ((if_pos (own_gt (i := 8191) (by decide) (by omega)) : f1_87 x = f1_94 x).trans ((if_neg (own_nlt (i := 8204) (by decide) (by omega)) : f1_94 x = f1_101 x).trans ((if_pos (own_gt (i := 8205) (by decide) (by omega)) : f1_101 x = f1_108 x).trans ((if_neg (own_nlt (i := 8304) (by decide) (by omega)) : f1_108 x = f1_115 x).trans ((if_pos (own_gt (i := 8591) (by decide) (by omega)) : f1_115 x = f1_122 x).trans ((if_neg (own_nlt (i := 11264) (by decide) (by omega)) : f1_122 x = f1_129 x).trans ((if_pos (own_gt (i := 12271) (by decide) (by omega)) : f1_129 x = f1_136 x).trans ((if_neg (own_nlt (i := 12289) (by decide) (by omega)) : f1_136 x = f1_143 x).trans ((if_pos (own_gt (i := 55295) (by decide) (by omega)) : f1_143 x = f1_149 x).trans ((if_neg (own_nlt (i := 63744) (by decide) (by omega)) : f1_149 x = f1_155 x).trans ((if_pos (own_gt (i := 64975) (by decide) (by omega)) : f1_155 x = f1_161 x).trans ((if_neg (own_nlt (i := 65008) (by decide) (by omega)) : f1_161 x = f1_167 x).trans ((if_neg (own_ngt (i := 65533) (by decide) (by omega)) : f1_167 x = f1_185).trans ((rfl : f1_185 = 1))))))))))))))))))))))))))),
   (if_neg (own_nlt (i := 65) (by decide) (by omega)) : f2_0 x = f2_8 x).trans ((if_neg (own_ngt (i := 983039) (by decide) (by omega)) : f2_8 x = f2_16 x).trans ((if_neg (own_nlt (i := 91) (by decide) (by omega)) : f2_16 x = f2_22 x).trans ((if_pos (own_gt (i := 96) (by decide) (by omega)) : f2_22 x = f2_30 x).trans ((if_neg (own_nlt (i := 123) (by decide) (by omega)) : f2_30 x = f2_36 x).trans ((if_pos (own_gt (i := 191) (by decide) (by omega)) : f2_36 x = f2_45 x).trans ((if_neg (own_neq (i := 215) (by decide) (by omega)) : f2_45 x = f2_52 x).trans ((if_neg (own_neq (i := 247) (by decide) (by omega)) : f2_52 x = f2_61 x).trans ((if_neg (own_nlt (i := 768) (by decide) (by omega)) : f2_61 x = f2_68 x).trans ((if_pos (own_gt (i := 879) (by decide) (by omega)) : f2_68 x = f2_77 x).trans ((if_neg (own_neq (i := 894) (by decide) (by omega)) : f2_77 x = f2_86 x).trans ((if_neg (own_nlt (i := 8192) (by decide) (by omega)) : f2_86 x = f2_93 x).trans ((if_pos (own_gt (i := 8203) (by decide) (by omega)) : f2_93 x = f2_102 x).trans ((if_neg (own_nlt (i := 8206) (by decide) (by omega)) : f2_102 x = f2_109 x).trans ((if_pos (own_gt (i := 8303) (by decide) (by omega)) : f2_109 x = f2_118 x).trans ((if_neg (own_nlt (i := 8592) (by decide) (by omega)) : f2_118 x = f2_125 x).trans ((if_pos (own_gt (i := 11263) (by decide) (by omega)) : f2_125 x = f2_134 x).trans ((if_neg (own_nlt (i := 12272) (by decide) (by omega)) : f2_134 x = f2_141 x).trans ((if_pos (own_gt (i := 12288) (by decide) (by omega)) : f2_141 x = f2_150 x).trans ((if_neg (own_nlt (i := 55296) (by decide) (by omega)) : f2_150 x = f2_156 x).trans ((if_pos (own_gt (i := 63743) (by decide) (by omega)) : f2_156 x = f2_164 x).trans ((if_neg (own_nlt (i := 64976) (by decide) (by omega)) : f2_164 x = f2_170 x).trans ((if_pos (own_gt (i := 65007) (by decide) (by omega)) : f2_170 x = f2_178 x).trans ((if_pos (own_lt (i := 65534) (by decide) (by omega)) : f2_178 x = f2_192).trans ((rfl : f2_192 = 0)))))))))))))))))))))))))⟩
theorem own_iv26 (x : Int32) (h1 : 65534 ≤ x.toInt) (h2 : x.toInt < 65536) : f1_0 x = 0 ∧ f2_0 x = 1 :=
  ⟨(if_neg (own_nlt (i := 65) (by decide) (by omega)) : f1_0 x = f1_6 x).trans ((if_pos (own_gt (i := 90) (by decide) (by omega)) : f1_6 x = f1_12 x).trans ((if_neg (own_nlt (i := 97) (by decide) (by omega)) : f1_12 x = f1_18 x).trans ((if_pos (own_gt (i := 122) (by decide) (by omega)) : f1_18 x = f1_24 x).trans ((if_neg (own_nlt (i := 192) (by decide) (by omega)) : f1_24 x = f1_31 x).trans ((if_pos (own_gt (i := 214) (by decide) (by omega)) : f1_31 x = f1_38 x).trans ((if_neg (own_nlt (i := 216) (by decide) (by omega)) : f1_38 x = f1_45 x).trans ((if_pos (own_gt (i := 246) (by decide) (by omega)) : f1_45 x = f1_52 x).trans ((if_neg (own_nlt (i := 248) (by decide) (by omega)) : f1_52 x = f1_59 x).trans ((if_pos (own_gt (i := 767) (by decide) (by omega)) : f1_59 x = f1_66 x).trans ((if_neg (own_nlt (i := 880) (by decide) (by omega)) : f1_66 x = f1_73 x).trans ((if_pos (own_gt (i := 893) (by decide) (by omega)) : f1_73 x = f1_80 x).trans ((if_neg (own_nlt (i := 895) (by decide) (by omega)) : f1_80 x = f1_87 x).trans ((if_pos (own_gt (i := 8191) (by decide) (by omega)) : f1_87 x = f1_94 x).trans ((if_neg (own_nlt (i := 8204) (by decide) (by omega)) : f1_94 x = f1_101 x).trans ((if_pos (own_gt (i := 8205) (by decide) (by omega)) : f1_101 x = f1_108 x).trans ((if_neg (own_nlt (i := 8304) (by decide) (by omega)) : f1_108 x = f1_115 x).trans ((if_pos (own_gt (i := 8591) (by decide) (by omega)) : f1_115 x = f1_122 x).trans ((if_neg (own_nlt (i := 11264) (by decide) (by omega)) : f1_122 x = f1_129 x).trans ((if_pos (own_gt (i := 12271) (by decide) (by omega)) : f1_129 x = f1_136 x).trans ((if_neg (own_nlt (i := 12289) (by decide) (by omega)) : f1_136 x = f1_143 x).trans ((if_pos (own_gt (i := 55295) (by decide) (by omega)) : f1_143 x = f1_149 x).trans ((if_neg (own_nlt (i := 63744) (by decide) (by omega)) : f1_149 x = f1_155 x).trans ((if_pos (own_gt (i := 64975) (by decide) (by omega)) : f1_155 x = f1_161 x).trans ((if_neg (own_nlt (i := 65008) (by decide) (by omega)) : f1_161 x = f1_167 x).trans ((if_pos (own_gt (i := 65533) (by decide) (by omega)) : f1_167 x = f1_173 x).trans ((if_pos (own_lt (i := 65536) (by decide) (by omega)) : f1_173 x = f1_189).trans ((rfl : f1_189 = 0)))))))))))))))))))))))))))),
   (if_neg (own_nlt (i := 65) (by decide) (by omega)) : f2_0 x = f2_8 x).trans ((if_neg (own_ngt (i := 983039) (by decide) (by omega)) : f2_8 x = f2_16 x).trans ((if_neg (own_nlt (i := 91) (by decide) (by omega)) : f2_16 x = f2_22 x).trans ((if_pos (own_gt (i := 96) (by decide) (by omega)) : f2_22 x = f2_30 x).trans ((if_neg (own_nlt (i := 123) (by decide) (by omega)) : f2_30 x = f2_36 x).trans ((if_pos (own_gt (i := 191) (by decide) (by omega)) : f2_36 x = f2_45 x).trans ((if_neg (own_neq (i := 215) (by decide) (by omega)) : f2_45 x = f2_52 x).trans ((if_neg (own_neq (i := 247) (by decide) (by omega)) : f2_52 x = f2_61 x).trans ((if_neg (own_nlt (i := 768) (by decide) (by omega)) : f2_61 x = f2_68 x).trans ((if_pos (own_gt (i := 879) (by decide) (by omega)) : f2_68 x = f2_77 x).trans ((if_neg (own_neq (i := 894) (by decide) (by omega)) : f2_77 x = f2_86 x).trans ((if_neg (own_nlt (i := 8192) (by decide) (by omega)) : f2_86 x = f2_93 x).trans ((if_pos (own_gt (i := 8203) (by decide) (by omega)) : f2_93 x = f2_102 x).trans ((if_neg (own_nlt (i := 8206) (by decide) (by omega)) : f2_102 x = f2_109 x).trans ((if_pos (own_gt (i := 8303) (by decide) (by omega)) : f2_109 x = f2_118 x).trans ((if_neg (own_nlt (i := 8592) (by decide) (by omega)) : f2_118 x = f2_125 x).trans ((if_pos (own_gt (i := 11263) (by decide) (by omega)) : f2_125 x = f2_134 x).trans ((if_neg (own_nlt (i := 12272) (by decide) (by omega)) : f2_134 x = f2_141 x).trans ((if_pos (own_gt (i := 12288) (by decide) (by omega)) : f2_141 x = f2_150 x).trans ((if_neg (own_nlt (i := 55296) (by decide) (by omega)) : f2_150 x = f2_156 x).trans ((if_pos (own_gt (i := 63743) (by decide) (by omega)) : f2_156 x = f2_164 x).trans ((if_neg (own_nlt (i := 64976) (by decide) (by omega)) : f2_164 x = f2_170 x).trans ((if_pos (own_gt (i := 65007) (by decide) (by omega)) : f2_170 x = f2_178 x).trans ((if_neg (own_nlt (i := 65534) (by decide) (by omega)) : f2_178 x = f2_184 x).trans ((if_neg (own_ngt (i := 65535) (by decide) (by omega)) : f2_184 x = f2_190).trans ((rfl : f2_190 = 1))))))))))))))))))))))))))⟩
theorem own_iv27 (x : Int32) (h1 : 65536 ≤ x.toInt) (h2 : x.toInt < 983040) : f1_0 x = 1 ∧ f2_0 x = 0 :=
  ⟨(if_neg (own_nlt (i := 65) (by decide) (by omega)) : f1_0 x = f1_6 x).trans ((if_pos (own_gt (i := 90) (by decide) (by omega)) : f1_6 x = f1_12 x).trans ((if_neg (own_nlt (i := 97) (by decide) (by omega)) : f1_12 x = f1_18 x).trans ((if_pos (own_gt (i := 122) (by decide) (by omega)) : f1_18 x = f1_24 x).trans ((if_neg (own_nlt (i := 192) (by decide) (by omega)) : f1_24 x = f1_31 x).trans ((if_pos (own_gt (i := 214) (by decide) (by omega)) : f1_31 x = f1_38 x).trans ((if_neg (own_nlt (i := 216) (by decide) (by omega)) : f1_38 x = f1_45 x).trans ((if_pos (own_gt (i := 246) (by decide) (by omega)) : f1_45 x = f1_52 x).trans ((if_neg (own_nlt (i := 248) (by decide) (by omega)) : f1_52 x = f1_59 x).trans ((if_pos (own_gt (i := 767) (by decide) (by omega)) : f1_59 x = f1_66 x).trans ((if_neg (own_nlt (i := 880) (by decide) (by omega)) : f1_66 x = f1_73 x).trans ((if_pos (own_gt (i := 893) (by decide) (by omega)) : f1_73 x = f1_80 x).trans ((if_neg (own_nlt (i := 895) (by decide) (by omega)) : f1_80 x = f1_87 x).trans ((if_pos (own_gt (i := 8191) (by decide) (by omega)) : f1_87 x = f1_94 x).trans ((if_neg (own_nlt (i := 8204) (by decide) (by omega)) : f1_94 x = f1_101 x).trans ((if_pos (own_gt (i := 8205) (by decide) (by omega)) : f1_101 x = f1_108 x).trans ((if_neg (own_nlt (i := 8304) (by decide) (by omega)) : f1_108 x = f1_115 x).trans ((if_pos (own_gt (i := 8591) (by decide) (by omega)) : f1_115 x = f1_122 x).trans ((if_neg (own_nlt (i := 11264) (by decide) (by omega)) : f1_122 x = f1_129 x).trans ((if_pos (own_gt (i := 12271) (by decide) (by omega)) : f1_129 x = f1_136 x).trans ((if_neg (own_nlt (i := 12289) (by decide) (by omega)) : f1_136 x = f1_143 x).trans ((if_pos (own_gt (i := 55295) (by decide) (by omega)) : f1_143 x = f1_149 x).trans ((if_neg (own_nlt (i := 63744) (by decide) (by omega)) : f1_149 x = f1_155 x).trans ((if_pos (own_gt (i := 64975) (by decide) (by omega)) : f1_155 x = f1_161 x).trans ((if_neg (own_nlt (i := 65008) (by decide) (by omega)) : f1_161 x = f1_167 x).trans ((if_pos (own_gt (i := 65533) (by decide) (by omega)) : f1_167 x = f1_173 x).trans ((if_neg (own_nlt (i := 65536) (by decide) (by omega)) : f1_173 x = f1_179 x).trans ((if_neg (own_ngt (i := 983039) (by decide) (by omega)) : f1_179 x = f1_185).trans ((rfl : f1_185 = 1))))))))))))))))))))))))))))),
   (if_neg (own_nlt (i := 65) (by decide) (by omega)) : f2_0 x = f2_8 x).trans ((if_neg (own_ngt (i := 983039) (by decide) (by omega)) : f2_8 x = f2_16 x).trans ((if_neg (own_nlt (i := 91) (by decide) (by omega)) : f2_16 x = f2_22 x).trans ((if_pos (own_gt (i := 96) (by decide) (by omega)) : f2_22 x = f2_30 x).trans ((if_neg (own_nlt (i := 123) (by decide) (by omega)) : f2_30 x = f2_36 x).trans ((if_pos (own_gt (i := 191) (by decide) (by omega)) : f2_36 x = f2_45 x).trans ((if_neg (own_neq (i := 215) (by decide) (by omega)) : f2_45 x = f2_52 x).trans ((if_neg (own_neq (i := 247) (by decide) (by omega)) : f2_52 x = f2_61 x).trans ((if_neg (own_nlt (i := 768) (by decide) (by omega)) : f2_61 x = f2_68 x).trans ((if_pos (own_gt (i := 879) (by decide) (by omega)) : f2_68 x = f2_77 x).trans ((if_neg (own_neq (i := 894) (by decide) (by omega)) : f2_77 x = f2_86 x).trans ((if_neg (own_nlt (i := 8192) (by decide) (by omega)) : f2_86 x = f2_93 x).trans ((if_pos (own_gt (i := 8203) (by decide) (by omega)) : f2_93 x = f2_102 x).trans ((if_neg (own_nlt (i := 8206) (by decide) (by omega)) : f2_102 x = f2_109 x).trans ((if_pos (own_gt (i := 8303) (by decide) (by omega)) : f2_109 x = f2_118 x).trans ((if_neg (own_nlt (i := 8592) (by decide) (by omega)) : f2_118 x = f2_125 x).trans ((if_pos (own_gt (i := 11263) (by decide) (by omega)) : f2_125 x = f2_134 x).trans ((if_neg (own_nlt (i := 12272) (by decide) (by omega)) : f2_134 x = f2_141 x).trans ((if_pos (own_gt (i := 12288) (by decide) (by omega)) : f2_141 x = f2_150 x).trans ((if_neg (own_nlt (i := 55296) (by decide) (by omega)) : f2_150 x = f2_156 x).trans ((if_pos (own_gt (i := 63743) (by decide) (by omega)) : f2_156 x = f2_164 x).trans ((if_neg (own_nlt (i := 64976) (by decide) (by omega)) : f2_164 x = f2_170 x).trans ((if_pos (own_gt (i := 65007) (by decide) (by omega)) : f2_170 x = f2_178 x).trans ((if_neg (own_nlt (i := 65534) (by decide) (by omega)) : f2_178 x = f2_184 x).trans ((if_pos (own_gt (i := 65535) (by decide) (by omega)) : f2_184 x = f2_192).trans ((rfl : f2_192 = 0))))))))))))))))))))))))))⟩
theorem own_iv28 (x : Int32) (h1 : 983040 ≤ x.toInt) : f1_0 x = 0 ∧ f2_0 x = 1 :=
  ⟨(if_neg (own_nlt (i := 65) (by decide) (by omega)) : f1_0 x = f1_6 x).trans ((if_pos (own_gt (i := 90) (by decide) (by omega)) : f1_6 x = f1_12 x).trans ((if_neg (own_nlt (i := 97) (by decide) (by omega)) : f1_12 x = f1_18 x).trans ((if_pos (own_gt (i := 122) (by decide) (by omega)) : f1_18 x = f1_24 x).trans ((if_neg (own_nlt (i := 192) (by decide) (by omega)) : f1_24 x = f1_31 x).trans ((if_pos (own_gt (i := 214) (by decide) (by omega)) : f1_31 x = f1_38 x).trans ((if_neg (own_nlt (i := 216) (by decide) (by omega)) : f1_38 x = f1_45 x).trans ((if_pos (own_gt (i := 246) (by decide) (by omega)) : f1_45 x = f1_52 x).trans ((if_neg (own_nlt (i := 248) (by decide) (by omega)) : f1_52 x = f1_59 x).trans ((if_pos (own_gt (i := 767) (by decide) (by omega)) : f1_59 x = f1_66 x).trans ((if_neg (own_nlt (i := 880) (by decide) (by omega)) : f1_66 x = f1_73 x).trans ((if_pos (own_gt (i := 893) (by decide) (by omega)) : f1_73 x = f1_80 x).trans ((if_neg (own_nlt (i := 895) (by decide) (by omega)) : f1_80 x = f1_87 x).trans ((if_pos (own_gt (i := 8191) (by decide) (by omega)) : f1_87 x = f1_94 x).trans ((if_neg (own_nlt (i := 8204) (by decide) (by omega)) : f1_94 x = f1_101 x).trans ((if_pos (own_gt (i := 8205) (by decide) (by omega)) : f1_101 x = f1_108 x).trans ((if_neg (own_nlt (i := 8304) (by decide) (by omega)) : f1_108 x = f1_115 x).trans ((if_pos (own_gt (i := 8591) (by decide) (by omega)) : f1_115 x = f1_122 x).trans ((if_neg (own_nlt (i := 11264) (by decide) (by omega)) : f1_122 x = f1_129 x).trans ((if_pos (own_gt (i := 12271) (by decide) (by omega)) : f1_129 x = f1_136 x).trans ((if_neg (own_nlt (i := 12289) (by decide) (by omega)) : f1_136 x = f1_143 x).trans ((if_pos (own_gt (i := 55295) (by decide) (by omega)) : f1_143 x = f1_149 x).trans ((if_neg (own_nlt (i := 63744) (by decide) (by omega)) : f1_149 x = f1_155 x).trans ((if_pos (own_gt (i := 64975) (by decide) (by omega)) : f1_155 x = f1_161 x).trans ((if_neg (own_nlt (i := 65008) (by decide) (by omega)) : f1_161 x = f1_167 x).trans ((if_pos (own_gt (i := 65533) (by decide) (by omega)) : f1_167 x = f1_173 x).trans ((if_neg (own_nlt (i := 65536) (by decide) (by omega)) : f1_173 x = f1_179 x).trans ((if_pos (own_gt (i := 983039) (by decide) (by omega)) : f1_179 x = f1_189).trans ((rfl : f1_189 = 0))))))))))))))))))))))))))))),
   (if_neg (own_nlt (i := 65) (by decide) (by omega)) : f2_0 x = f2_8 x).trans ((if_pos (own_gt (i := 983039) (by decide) (by omega)) : f2_8 x = f2_14).trans ((rfl : f2_14 = 1)))⟩
theorem own_pair (x : Int32) : (f1_0 x = 1 ∧ f2_0 x = 0) ∨ (f1_0 x = 0 ∧ f2_0 x = 1) := by
  by_cases h0 : x.toInt < 65
  · exact Or.inr (own_iv0 x h0)
  by_cases h1 : x.toInt < 91
  · exact Or.inl (own_iv1 x (by omega) h1)
  by_cases h2 : x.toInt < 97
  · exact Or.inr (own_iv2 x (by omega) h2)
  by_cases h3 : x.toInt < 123
  · exact Or.inl (own_iv3 x (by omega) h3)
  by_cases h4 : x.toInt < 192
  · exact Or.inr (own_iv4 x (by omega) h4)
  by_cases h5 : x.toInt < 215
  · exact Or.inl (own_iv5 x (by omega) h5)
  by_cases h6 : x.toInt < 216
  · exact Or.inr (own_iv6 x (by omega) h6)
  by_cases h7 : x.toInt < 247
  · exact Or.inl (own_iv7 x (by omega) h7)
  by_cases h8 : x.toInt < 248
  · exact Or.inr (own_iv8 x (by omega) h8)
  by_cases h9 : x.toInt < 768
  · exact Or.inl (own_iv9 x (by omega) h9)
  by_cases h10 : x.toInt < 880
  · exact Or.inr (own_iv10 x (by omega) h10)
  by_cases h11 : x.toInt < 894
  · exact Or.inl (own_iv11 x (by omega) h11)
  by_cases h12 : x.toInt < 895
  · exact Or.inr (own_iv12 x (by omega) h12)
  by_cases h13 : x.toInt < 8192
  · exact Or.inl (own_iv13 x (by omega) h13)
  by_cases h14 : x.toInt < 8204
  · exact Or.inr (own_iv14 x (by omega) h14)
  by_cases h15 : x.toInt < 8206
  · exact Or.inl (own_iv15 x (by omega) h15)
  by_cases h16 : x.toInt < 8304
  · exact Or.inr (own_iv16 x (by omega) h16)
  by_cases h17 : x.toInt < 8592
  · exact Or.inl (own_iv17 x (by omega) h17)
  by_cases h18 : x.toInt < 11264
  · exact Or.inr (own_iv18 x (by omega) h18)
  by_cases h19 : x.toInt < 12272
  · exact Or.inl (own_iv19 x (by omega) h19)
  by_cases h20 : x.toInt < 12289
  · exact Or.inr (own_iv20 x (by omega) h20)
  by_cases h21 : x.toInt < 55296
  · exact Or.inl (own_iv21 x (by omega) h21)
  by_cases h22 : x.toInt < 63744
  · exact Or.inr (own_iv22 x (by omega) h22)
  by_cases h23 : x.toInt < 64976
  · exact Or.inl (own_iv23 x (by omega) h23)
  by_cases h24 : x.toInt < 65008
  · exact Or.inr (own_iv24 x (by omega) h24)
  by_cases h25 : x.toInt < 65534
  · exact Or.inl (own_iv25 x (by omega) h25)
  by_cases h26 : x.toInt < 65536
  · exact Or.inr (own_iv26 x (by omega) h26)
  by_cases h27 : x.toInt < 983040
  · exact Or.inl (own_iv27 x (by omega) h27)
  exact Or.inr (own_iv28 x (by omega))
theorem own_and_le (b : BitVec 32) (k : Nat) (hk : k < 2 ^ 31) : 0 ≤ (b &&& BitVec.ofNat 32 k).toInt := by
  have h1 : (b &&& BitVec.ofNat 32 k).toNat = b.toNat &&& (BitVec.ofNat 32 k).toNat := BitVec.toNat_and ..
  have h3 : (BitVec.ofNat 32 k).toNat = k := by rw [BitVec.toNat_ofNat, Nat.mod_eq_of_lt (by omega)]
  have h2 : (b.toNat &&& k) ≤ k := Nat.and_le_right
  rw [BitVec.toInt_eq_toNat_of_lt (by rw [h1, h3]; omega)]
  omega
theorem own_in0_219 (k : Int32) : ¬ ((((k.toUInt32 >>> ((1 : Int32) &&& 31).toUInt32).toInt32) &&& (1073741823 : Int32)) % (28 : Int32)) < 0 ∧ ((((k.toUInt32 >>> ((1 : Int32) &&& 31).toUInt32).toInt32) &&& (1073741823 : Int32)) % (28 : Int32)) < (28 : Int32) := by
  generalize (k.toUInt32 >>> ((1 : Int32) &&& 31).toUInt32).toInt32 = y
  have h : 0 ≤ (y &&& (1073741823 : Int32)).toInt := own_and_le y.toBitVec 1073741823 (by decide)
  have e : ((y &&& (1073741823 : Int32)) % (28 : Int32)).toInt = (y &&& (1073741823 : Int32)).toInt.tmod 28 := Int32.toInt_mod ..
  have e2 : (y &&& (1073741823 : Int32)).toInt.tmod 28 = (y &&& (1073741823 : Int32)).toInt % 28 := Int.tmod_eq_emod_of_nonneg h
  simp only [Int32.lt_iff_toInt_lt, Int32.reduceToInt, e, e2]
  omega
theorem own_both (x : Int32) : f0_225 x = 1 := by
  rcases own_pair x with ⟨a, b⟩ | ⟨a, b⟩
  · simp only [f0_225, a, b]; decide
  · simp only [f0_225, a, b]; decide
theorem own_law (c k d : Int32) : f0_0 c k d = 1 := by
  simp only [f0_0, f0_190, f0_196, own_both, ite_self]
-- the walks
set_option maxRecDepth 65536 in
set_option maxHeartbeats 40000000 in
theorem rm1 (l : Launch) (Z : State) (a0 : Array Value) (hw : ∀ d ∈ tables_1, d.before a0 Z = true) (ws : List Jvm.Cond) (p0 : Int32) (h0 : Heap) (n0 : Nat) (Z0 : n0 ≤ h0.size) :
    MetFree l (⟨"com/example/graphwright/graphwright/model/Terminals", "isPnCharsBase", "(I)Z"⟩ : MethodName) (head1 (Jvm.Cond.code (⟨"com/example/graphwright/graphwright/model/Terminals", "isPnCharsBase", "(I)Z"⟩ : MethodName) prog_146_method_2_code 1 (some .boolean) :: ws) ({ frames := 0, cells := 0, slots := 0, locals := 0 } : Room)) (fun a U => a = #[(.int p0)] ∧ Z.Warmed39 U.vm ∧ U.heap = h0) (fun _ _ _ _ _ => True) (fun _ U o U' => ∃ v L, o = .returned v ∧ own_Pure ((.int (f1_0 p0))) h0 n0 v U'.heap L ∧ FrameEnd U o U' L ({ frames := 0, cells := 0, slots := 0, locals := 0 } : Room).cells ({ frames := 0, cells := 0, slots := 0, locals := 0 } : Room).slots) := by
  refine MetFree.of_bodySF (plainFor_of_name pn_1) hisR ?_
  intro p e s m args below meth c s₁ Bd hml0 hP hK
  obtain ⟨rfl, hZ, hh0⟩ := hP
  have hx := Bd.exec
  have hby := Bd.bytes
  have hml : c.maxLocals = 1 := hml0
  have hown : s.vm.findClass "com/example/graphwright/graphwright/model/Terminals" = some m.cls := findClass_of_methodNamed Bd.named
  have X00 : Stand p l e ({ frames := 0, cells := 0, slots := 0, locals := 0 } : Room) s m #[(.int p0)] below meth c s₁ [] 0 0 := Stand.of_body Bd
  have e00 : s₁.heap = h0 := by rw [← hh0, Bd.state]; rfl
  have B190 : ∀ (T0 : State) (locs : List Loc) (x0 : Int32) (t0 : Int32), Stand p l e ({ frames := 0, cells := 0, slots := 0, locals := 0 } : Room) s m #[(.int p0)] below meth c T0 locs 0 0 → T0.heap = h0 → Fr n0 locs → f1_190 t0 = f1_0 p0 → own_Goes p e below s (own_Pure ((.int (f1_0 p0))) h0 n0) ({ frames := 0, cells := 0, slots := 0, locals := 0 } : Room).cells ({ frames := 0, cells := 0, slots := 0, locals := 0 } : Room).slots T0 (mkF m 190 #[.val (.int x0)] [(.int t0)]) := by
    intro T0 locs x0 t0   X0 e0 N0 hf
    exact own_ret X0 Bd (v := some (.int (t0 &&& 1))) (fun q => by rw [Bd.returns] at q; cases q) (fun fs q => retN X0 hx (t := .boolean) Bd.returns (by simp) (hb hby d1_190) q) (show own_Pure ((.int (f1_0 p0))) h0 n0 _ _ _ from ⟨congrArg (fun z => some (Value.int z)) hf, N0, e0⟩) (by decide) (by decide)
  have B189 : ∀ (T0 : State) (locs : List Loc) (x0 : Int32), Stand p l e ({ frames := 0, cells := 0, slots := 0, locals := 0 } : Room) s m #[(.int p0)] below meth c T0 locs 0 0 → T0.heap = h0 → Fr n0 locs → f1_189 = f1_0 p0 → own_Goes p e below s (own_Pure ((.int (f1_0 p0))) h0 n0) ({ frames := 0, cells := 0, slots := 0, locals := 0 } : Room).cells ({ frames := 0, cells := 0, slots := 0, locals := 0 } : Room).slots T0 (mkF m 189 #[.val (.int x0)] []) := by
    intro T0 locs x0   X0 e0 N0 hf
    refine own_step (T' := T0) (g' := (mkF m 190 #[.val (.int x0)] [(.int (0 : Int32))])) (fun _ k => XS.iconst X0.here hx rfl (hb hby d1_189) k) ?_
    exact B190 T0 _ x0 (0 : Int32)   X0 e0 N0 hf
  have B185 : ∀ (T0 : State) (locs : List Loc) (x0 : Int32), Stand p l e ({ frames := 0, cells := 0, slots := 0, locals := 0 } : Room) s m #[(.int p0)] below meth c T0 locs 0 0 → T0.heap = h0 → Fr n0 locs → f1_185 = f1_0 p0 → own_Goes p e below s (own_Pure ((.int (f1_0 p0))) h0 n0) ({ frames := 0, cells := 0, slots := 0, locals := 0 } : Room).cells ({ frames := 0, cells := 0, slots := 0, locals := 0 } : Room).slots T0 (mkF m 185 #[.val (.int x0)] []) := by
    intro T0 locs x0   X0 e0 N0 hf
    refine own_step (T' := T0) (g' := (mkF m 186 #[.val (.int x0)] [(.int (1 : Int32))])) (fun _ k => XS.iconst X0.here hx rfl (hb hby d1_185) k) ?_
    refine own_step (T' := T0) (g' := (mkF m 190 #[.val (.int x0)] [(.int (1 : Int32))])) (fun _ k => XS.goto X0.here hx rfl (pc0 := 186) (pc' := 190) rfl (hb hby d1_186) (by decide) (by decide) k) ?_
    exact B190 T0 _ x0 (1 : Int32)   X0 e0 N0 hf
  have B179 : ∀ (T0 : State) (locs : List Loc) (x0 : Int32), Stand p l e ({ frames := 0, cells := 0, slots := 0, locals := 0 } : Room) s m #[(.int p0)] below meth c T0 locs 0 0 → T0.heap = h0 → Fr n0 locs → f1_179 x0 = f1_0 p0 → own_Goes p e below s (own_Pure ((.int (f1_0 p0))) h0 n0) ({ frames := 0, cells := 0, slots := 0, locals := 0 } : Room).cells ({ frames := 0, cells := 0, slots := 0, locals := 0 } : Room).slots T0 (mkF m 179 #[.val (.int x0)] []) := by
    intro T0 locs x0   X0 e0 N0 hf
    refine own_step (T' := T0) (g' := (mkF m 180 #[.val (.int x0)] [(.int x0)])) (fun _ k => XS.iloadN X0.here hx rfl (hb hby d1_179) rfl k) ?_
    refine own_step (T' := T0) (g' := (mkF m 182 #[.val (.int x0)] [(.int (983039 : Int32)), (.int x0)])) (fun _ k => X0.ldcInt hx hown (mvT hZ (hw _ (List.mem_of_getElem? (i := 23) rfl))) (g := (mkF m 180 #[.val (.int x0)] [(.int x0)])) rfl (hb hby d1_180) _ k) ?_
    by_cases hc : (983039 : Int32) < x0
    · refine own_step (T' := T0) (g' := (mkF m 189 #[.val (.int x0)] [])) (fun _ k => XS.icmpYes X0.here hx rfl (pc0 := 182) (pc' := 189) rfl (hb hby d1_182) rfl (tlt hc).2.2.1 (by decide) (by decide) k) ?_
      exact B189 T0 _ x0   X0 e0 N0 ((if_pos hc).symm.trans hf)
    · refine own_step (T' := T0) (g' := (mkF m 185 #[.val (.int x0)] [])) (fun _ k => XS.icmpNo X0.here hx rfl (hb hby d1_182) rfl (flt hc).2.2.1 k) ?_
      exact B185 T0 _ x0   X0 e0 N0 ((if_neg hc).symm.trans hf)
  have B173 : ∀ (T0 : State) (locs : List Loc) (x0 : Int32), Stand p l e ({ frames := 0, cells := 0, slots := 0, locals := 0 } : Room) s m #[(.int p0)] below meth c T0 locs 0 0 → T0.heap = h0 → Fr n0 locs → f1_173 x0 = f1_0 p0 → own_Goes p e below s (own_Pure ((.int (f1_0 p0))) h0 n0) ({ frames := 0, cells := 0, slots := 0, locals := 0 } : Room).cells ({ frames := 0, cells := 0, slots := 0, locals := 0 } : Room).slots T0 (mkF m 173 #[.val (.int x0)] []) := by
    intro T0 locs x0   X0 e0 N0 hf
    refine own_step (T' := T0) (g' := (mkF m 174 #[.val (.int x0)] [(.int x0)])) (fun _ k => XS.iloadN X0.here hx rfl (hb hby d1_173) rfl k) ?_
    refine own_step (T' := T0) (g' := (mkF m 176 #[.val (.int x0)] [(.int (65536 : Int32)), (.int x0)])) (fun _ k => X0.ldcInt hx hown (mvT hZ (hw _ (List.mem_of_getElem? (i := 15) rfl))) (g := (mkF m 174 #[.val (.int x0)] [(.int x0)])) rfl (hb hby d1_174) _ k) ?_
    by_cases hc : x0 < (65536 : Int32)
    · refine own_step (T' := T0) (g' := (mkF m 189 #[.val (.int x0)] [])) (fun _ k => XS.icmpYes X0.here hx rfl (pc0 := 176) (pc' := 189) rfl (hb hby d1_176) rfl (tlt hc).1 (by decide) (by decide) k) ?_
      exact B189 T0 _ x0   X0 e0 N0 ((if_pos hc).symm.trans hf)
    · refine own_step (T' := T0) (g' := (mkF m 179 #[.val (.int x0)] [])) (fun _ k => XS.icmpNo X0.here hx rfl (hb hby d1_176) rfl (flt hc).1 k) ?_
      exact B179 T0 _ x0   X0 e0 N0 ((if_neg hc).symm.trans hf)
  have B167 : ∀ (T0 : State) (locs : List Loc) (x0 : Int32), Stand p l e ({ frames := 0, cells := 0, slots := 0, locals := 0 } : Room) s m #[(.int p0)] below meth c T0 locs 0 0 → T0.heap = h0 → Fr n0 locs → f1_167 x0 = f1_0 p0 → own_Goes p e below s (own_Pure ((.int (f1_0 p0))) h0 n0) ({ frames := 0, cells := 0, slots := 0, locals := 0 } : Room).cells ({ frames := 0, cells := 0, slots := 0, locals := 0 } : Room).slots T0 (mkF m 167 #[.val (.int x0)] []) := by
    intro T0 locs x0   X0 e0 N0 hf
    refine own_step (T' := T0) (g' := (mkF m 168 #[.val (.int x0)] [(.int x0)])) (fun _ k => XS.iloadN X0.here hx rfl (hb hby d1_167) rfl k) ?_
    refine own_step (T' := T0) (g' := (mkF m 170 #[.val (.int x0)] [(.int (65533 : Int32)), (.int x0)])) (fun _ k => X0.ldcInt hx hown (mvT hZ (hw _ (List.mem_of_getElem? (i := 22) rfl))) (g := (mkF m 168 #[.val (.int x0)] [(.int x0)])) rfl (hb hby d1_168) _ k) ?_
    by_cases hc : (65533 : Int32) < x0
    · refine own_step (T' := T0) (g' := (mkF m 173 #[.val (.int x0)] [])) (fun _ k => XS.icmpNo X0.here hx rfl (hb hby d1_170) rfl (tlt hc).2.2.2 k) ?_
      exact B173 T0 _ x0   X0 e0 N0 ((if_pos hc).symm.trans hf)
    · refine own_step (T' := T0) (g' := (mkF m 185 #[.val (.int x0)] [])) (fun _ k => XS.icmpYes X0.here hx rfl (pc0 := 170) (pc' := 185) rfl (hb hby d1_170) rfl (flt hc).2.2.2 (by decide) (by decide) k) ?_
      exact B185 T0 _ x0   X0 e0 N0 ((if_neg hc).symm.trans hf)
  have B161 : ∀ (T0 : State) (locs : List Loc) (x0 : Int32), Stand p l e ({ frames := 0, cells := 0, slots := 0, locals := 0 } : Room) s m #[(.int p0)] below meth c T0 locs 0 0 → T0.heap = h0 → Fr n0 locs → f1_161 x0 = f1_0 p0 → own_Goes p e below s (own_Pure ((.int (f1_0 p0))) h0 n0) ({ frames := 0, cells := 0, slots := 0, locals := 0 } : Room).cells ({ frames := 0, cells := 0, slots := 0, locals := 0 } : Room).slots T0 (mkF m 161 #[.val (.int x0)] []) := by
    intro T0 locs x0   X0 e0 N0 hf
    refine own_step (T' := T0) (g' := (mkF m 162 #[.val (.int x0)] [(.int x0)])) (fun _ k => XS.iloadN X0.here hx rfl (hb hby d1_161) rfl k) ?_
    refine own_step (T' := T0) (g' := (mkF m 164 #[.val (.int x0)] [(.int (65008 : Int32)), (.int x0)])) (fun _ k => X0.ldcInt hx hown (mvT hZ (hw _ (List.mem_of_getElem? (i := 14) rfl))) (g := (mkF m 162 #[.val (.int x0)] [(.int x0)])) rfl (hb hby d1_162) _ k) ?_
    by_cases hc : x0 < (65008 : Int32)
    · refine own_step (T' := T0) (g' := (mkF m 173 #[.val (.int x0)] [])) (fun _ k => XS.icmpYes X0.here hx rfl (pc0 := 164) (pc' := 173) rfl (hb hby d1_164) rfl (tlt hc).1 (by decide) (by decide) k) ?_
      exact B173 T0 _ x0   X0 e0 N0 ((if_pos hc).symm.trans hf)
    · refine own_step (T' := T0) (g' := (mkF m 167 #[.val (.int x0)] [])) (fun _ k => XS.icmpNo X0.here hx rfl (hb hby d1_164) rfl (flt hc).1 k) ?_
      exact B167 T0 _ x0   X0 e0 N0 ((if_neg hc).symm.trans hf)
  have B155 : ∀ (T0 : State) (locs : List Loc) (x0 : Int32), Stand p l e ({ frames := 0, cells := 0, slots := 0, locals := 0 } : Room) s m #[(.int p0)] below meth c T0 locs 0 0 → T0.heap = h0 → Fr n0 locs → f1_155 x0 = f1_0 p0 → own_Goes p e below s (own_Pure ((.int (f1_0 p0))) h0 n0) ({ frames := 0, cells := 0, slots := 0, locals := 0 } : Room).cells ({ frames := 0, cells := 0, slots := 0, locals := 0 } : Room).slots T0 (mkF m 155 #[.val (.int x0)] []) := by
    intro T0 locs x0   X0 e0 N0 hf
    refine own_step (T' := T0) (g' := (mkF m 156 #[.val (.int x0)] [(.int x0)])) (fun _ k => XS.iloadN X0.here hx rfl (hb hby d1_155) rfl k) ?_
    refine own_step (T' := T0) (g' := (mkF m 158 #[.val (.int x0)] [(.int (64975 : Int32)), (.int x0)])) (fun _ k => X0.ldcInt hx hown (mvT hZ (hw _ (List.mem_of_getElem? (i := 21) rfl))) (g := (mkF m 156 #[.val (.int x0)] [(.int x0)])) rfl (hb hby d1_156) _ k) ?_
    by_cases hc : (64975 : Int32) < x0
    · refine own_step (T' := T0) (g' := (mkF m 161 #[.val (.int x0)] [])) (fun _ k => XS.icmpNo X0.here hx rfl (hb hby d1_158) rfl (tlt hc).2.2.2 k) ?_
      exact B161 T0 _ x0   X0 e0 N0 ((if_pos hc).symm.trans hf)
    · refine own_step (T' := T0) (g' := (mkF m 185 #[.val (.int x0)] [])) (fun _ k => XS.icmpYes X0.here hx rfl (pc0 := 158) (pc' := 185) rfl (hb hby d1_158) rfl (flt hc).2.2.2 (by decide) (by decide) k) ?_
      exact B185 T0 _ x0   X0 e0 N0 ((if_neg hc).symm.trans hf)
  have B149 : ∀ (T0 : State) (locs : List Loc) (x0 : Int32), Stand p l e ({ frames := 0, cells := 0, slots := 0, locals := 0 } : Room) s m #[(.int p0)] below meth c T0 locs 0 0 → T0.heap = h0 → Fr n0 locs → f1_149 x0 = f1_0 p0 → own_Goes p e below s (own_Pure ((.int (f1_0 p0))) h0 n0) ({ frames := 0, cells := 0, slots := 0, locals := 0 } : Room).cells ({ frames := 0, cells := 0, slots := 0, locals := 0 } : Room).slots T0 (mkF m 149 #[.val (.int x0)] []) := by
    intro T0 locs x0   X0 e0 N0 hf
    refine own_step (T' := T0) (g' := (mkF m 150 #[.val (.int x0)] [(.int x0)])) (fun _ k => XS.iloadN X0.here hx rfl (hb hby d1_149) rfl k) ?_
    refine own_step (T' := T0) (g' := (mkF m 152 #[.val (.int x0)] [(.int (63744 : Int32)), (.int x0)])) (fun _ k => X0.ldcInt hx hown (mvT hZ (hw _ (List.mem_of_getElem? (i := 13) rfl))) (g := (mkF m 150 #[.val (.int x0)] [(.int x0)])) rfl (hb hby d1_150) _ k) ?_
    by_cases hc : x0 < (63744 : Int32)
    · refine own_step (T' := T0) (g' := (mkF m 161 #[.val (.int x0)] [])) (fun _ k => XS.icmpYes X0.here hx rfl (pc0 := 152) (pc' := 161) rfl (hb hby d1_152) rfl (tlt hc).1 (by decide) (by decide) k) ?_
      exact B161 T0 _ x0   X0 e0 N0 ((if_pos hc).symm.trans hf)
    · refine own_step (T' := T0) (g' := (mkF m 155 #[.val (.int x0)] [])) (fun _ k => XS.icmpNo X0.here hx rfl (hb hby d1_152) rfl (flt hc).1 k) ?_
      exact B155 T0 _ x0   X0 e0 N0 ((if_neg hc).symm.trans hf)
  have B143 : ∀ (T0 : State) (locs : List Loc) (x0 : Int32), Stand p l e ({ frames := 0, cells := 0, slots := 0, locals := 0 } : Room) s m #[(.int p0)] below meth c T0 locs 0 0 → T0.heap = h0 → Fr n0 locs → f1_143 x0 = f1_0 p0 → own_Goes p e below s (own_Pure ((.int (f1_0 p0))) h0 n0) ({ frames := 0, cells := 0, slots := 0, locals := 0 } : Room).cells ({ frames := 0, cells := 0, slots := 0, locals := 0 } : Room).slots T0 (mkF m 143 #[.val (.int x0)] []) := by
    intro T0 locs x0   X0 e0 N0 hf
    refine own_step (T' := T0) (g' := (mkF m 144 #[.val (.int x0)] [(.int x0)])) (fun _ k => XS.iloadN X0.here hx rfl (hb hby d1_143) rfl k) ?_
    refine own_step (T' := T0) (g' := (mkF m 146 #[.val (.int x0)] [(.int (55295 : Int32)), (.int x0)])) (fun _ k => X0.ldcInt hx hown (mvT hZ (hw _ (List.mem_of_getElem? (i := 20) rfl))) (g := (mkF m 144 #[.val (.int x0)] [(.int x0)])) rfl (hb hby d1_144) _ k) ?_
    by_cases hc : (55295 : Int32) < x0
    · refine own_step (T' := T0) (g' := (mkF m 149 #[.val (.int x0)] [])) (fun _ k => XS.icmpNo X0.here hx rfl (hb hby d1_146) rfl (tlt hc).2.2.2 k) ?_
      exact B149 T0 _ x0   X0 e0 N0 ((if_pos hc).symm.trans hf)
    · refine own_step (T' := T0) (g' := (mkF m 185 #[.val (.int x0)] [])) (fun _ k => XS.icmpYes X0.here hx rfl (pc0 := 146) (pc' := 185) rfl (hb hby d1_146) rfl (flt hc).2.2.2 (by decide) (by decide) k) ?_
      exact B185 T0 _ x0   X0 e0 N0 ((if_neg hc).symm.trans hf)
  have B136 : ∀ (T0 : State) (locs : List Loc) (x0 : Int32), Stand p l e ({ frames := 0, cells := 0, slots := 0, locals := 0 } : Room) s m #[(.int p0)] below meth c T0 locs 0 0 → T0.heap = h0 → Fr n0 locs → f1_136 x0 = f1_0 p0 → own_Goes p e below s (own_Pure ((.int (f1_0 p0))) h0 n0) ({ frames := 0, cells := 0, slots := 0, locals := 0 } : Room).cells ({ frames := 0, cells := 0, slots := 0, locals := 0 } : Room).slots T0 (mkF m 136 #[.val (.int x0)] []) := by
    intro T0 locs x0   X0 e0 N0 hf
    refine own_step (T' := T0) (g' := (mkF m 137 #[.val (.int x0)] [(.int x0)])) (fun _ k => XS.iloadN X0.here hx rfl (hb hby d1_136) rfl k) ?_
    refine own_step (T' := T0) (g' := (mkF m 140 #[.val (.int x0)] [(.int (12289 : Int32)), (.int x0)])) (fun _ k => XS.sipush X0.here hx rfl (hb hby d1_137) k) ?_
    by_cases hc : x0 < (12289 : Int32)
    · refine own_step (T' := T0) (g' := (mkF m 149 #[.val (.int x0)] [])) (fun _ k => XS.icmpYes X0.here hx rfl (pc0 := 140) (pc' := 149) rfl (hb hby d1_140) rfl (tlt hc).1 (by decide) (by decide) k) ?_
      exact B149 T0 _ x0   X0 e0 N0 ((if_pos hc).symm.trans hf)
    · refine own_step (T' := T0) (g' := (mkF m 143 #[.val (.int x0)] [])) (fun _ k => XS.icmpNo X0.here hx rfl (hb hby d1_140) rfl (flt hc).1 k) ?_
      exact B143 T0 _ x0   X0 e0 N0 ((if_neg hc).symm.trans hf)
  have B129 : ∀ (T0 : State) (locs : List Loc) (x0 : Int32), Stand p l e ({ frames := 0, cells := 0, slots := 0, locals := 0 } : Room) s m #[(.int p0)] below meth c T0 locs 0 0 → T0.heap = h0 → Fr n0 locs → f1_129 x0 = f1_0 p0 → own_Goes p e below s (own_Pure ((.int (f1_0 p0))) h0 n0) ({ frames := 0, cells := 0, slots := 0, locals := 0 } : Room).cells ({ frames := 0, cells := 0, slots := 0, locals := 0 } : Room).slots T0 (mkF m 129 #[.val (.int x0)] []) := by
    intro T0 locs x0   X0 e0 N0 hf
    refine own_step (T' := T0) (g' := (mkF m 130 #[.val (.int x0)] [(.int x0)])) (fun _ k => XS.iloadN X0.here hx rfl (hb hby d1_129) rfl k) ?_
    refine own_step (T' := T0) (g' := (mkF m 133 #[.val (.int x0)] [(.int (12271 : Int32)), (.int x0)])) (fun _ k => XS.sipush X0.here hx rfl (hb hby d1_130) k) ?_
    by_cases hc : (12271 : Int32) < x0
    · refine own_step (T' := T0) (g' := (mkF m 136 #[.val (.int x0)] [])) (fun _ k => XS.icmpNo X0.here hx rfl (hb hby d1_133) rfl (tlt hc).2.2.2 k) ?_
      exact B136 T0 _ x0   X0 e0 N0 ((if_pos hc).symm.trans hf)
    · refine own_step (T' := T0) (g' := (mkF m 185 #[.val (.int x0)] [])) (fun _ k => XS.icmpYes X0.here hx rfl (pc0 := 133) (pc' := 185) rfl (hb hby d1_133) rfl (flt hc).2.2.2 (by decide) (by decide) k) ?_
      exact B185 T0 _ x0   X0 e0 N0 ((if_neg hc).symm.trans hf)
  have B122 : ∀ (T0 : State) (locs : List Loc) (x0 : Int32), Stand p l e ({ frames := 0, cells := 0, slots := 0, locals := 0 } : Room) s m #[(.int p0)] below meth c T0 locs 0 0 → T0.heap = h0 → Fr n0 locs → f1_122 x0 = f1_0 p0 → own_Goes p e below s (own_Pure ((.int (f1_0 p0))) h0 n0) ({ frames := 0, cells := 0, slots := 0, locals := 0 } : Room).cells ({ frames := 0, cells := 0, slots := 0, locals := 0 } : Room).slots T0 (mkF m 122 #[.val (.int x0)] []) := by
    intro T0 locs x0   X0 e0 N0 hf
    refine own_step (T' := T0) (g' := (mkF m 123 #[.val (.int x0)] [(.int x0)])) (fun _ k => XS.iloadN X0.here hx rfl (hb hby d1_122) rfl k) ?_
    refine own_step (T' := T0) (g' := (mkF m 126 #[.val (.int x0)] [(.int (11264 : Int32)), (.int x0)])) (fun _ k => XS.sipush X0.here hx rfl (hb hby d1_123) k) ?_
    by_cases hc : x0 < (11264 : Int32)
    · refine own_step (T' := T0) (g' := (mkF m 136 #[.val (.int x0)] [])) (fun _ k => XS.icmpYes X0.here hx rfl (pc0 := 126) (pc' := 136) rfl (hb hby d1_126) rfl (tlt hc).1 (by decide) (by decide) k) ?_
      exact B136 T0 _ x0   X0 e0 N0 ((if_pos hc).symm.trans hf)
    · refine own_step (T' := T0) (g' := (mkF m 129 #[.val (.int x0)] [])) (fun _ k => XS.icmpNo X0.here hx rfl (hb hby d1_126) rfl (flt hc).1 k) ?_
      exact B129 T0 _ x0   X0 e0 N0 ((if_neg hc).symm.trans hf)
  have B115 : ∀ (T0 : State) (locs : List Loc) (x0 : Int32), Stand p l e ({ frames := 0, cells := 0, slots := 0, locals := 0 } : Room) s m #[(.int p0)] below meth c T0 locs 0 0 → T0.heap = h0 → Fr n0 locs → f1_115 x0 = f1_0 p0 → own_Goes p e below s (own_Pure ((.int (f1_0 p0))) h0 n0) ({ frames := 0, cells := 0, slots := 0, locals := 0 } : Room).cells ({ frames := 0, cells := 0, slots := 0, locals := 0 } : Room).slots T0 (mkF m 115 #[.val (.int x0)] []) := by
    intro T0 locs x0   X0 e0 N0 hf
    refine own_step (T' := T0) (g' := (mkF m 116 #[.val (.int x0)] [(.int x0)])) (fun _ k => XS.iloadN X0.here hx rfl (hb hby d1_115) rfl k) ?_
    refine own_step (T' := T0) (g' := (mkF m 119 #[.val (.int x0)] [(.int (8591 : Int32)), (.int x0)])) (fun _ k => XS.sipush X0.here hx rfl (hb hby d1_116) k) ?_
    by_cases hc : (8591 : Int32) < x0
    · refine own_step (T' := T0) (g' := (mkF m 122 #[.val (.int x0)] [])) (fun _ k => XS.icmpNo X0.here hx rfl (hb hby d1_119) rfl (tlt hc).2.2.2 k) ?_
      exact B122 T0 _ x0   X0 e0 N0 ((if_pos hc).symm.trans hf)
    · refine own_step (T' := T0) (g' := (mkF m 185 #[.val (.int x0)] [])) (fun _ k => XS.icmpYes X0.here hx rfl (pc0 := 119) (pc' := 185) rfl (hb hby d1_119) rfl (flt hc).2.2.2 (by decide) (by decide) k) ?_
      exact B185 T0 _ x0   X0 e0 N0 ((if_neg hc).symm.trans hf)
  have B108 : ∀ (T0 : State) (locs : List Loc) (x0 : Int32), Stand p l e ({ frames := 0, cells := 0, slots := 0, locals := 0 } : Room) s m #[(.int p0)] below meth c T0 locs 0 0 → T0.heap = h0 → Fr n0 locs → f1_108 x0 = f1_0 p0 → own_Goes p e below s (own_Pure ((.int (f1_0 p0))) h0 n0) ({ frames := 0, cells := 0, slots := 0, locals := 0 } : Room).cells ({ frames := 0, cells := 0, slots := 0, locals := 0 } : Room).slots T0 (mkF m 108 #[.val (.int x0)] []) := by
    intro T0 locs x0   X0 e0 N0 hf
    refine own_step (T' := T0) (g' := (mkF m 109 #[.val (.int x0)] [(.int x0)])) (fun _ k => XS.iloadN X0.here hx rfl (hb hby d1_108) rfl k) ?_
    refine own_step (T' := T0) (g' := (mkF m 112 #[.val (.int x0)] [(.int (8304 : Int32)), (.int x0)])) (fun _ k => XS.sipush X0.here hx rfl (hb hby d1_109) k) ?_
    by_cases hc : x0 < (8304 : Int32)
    · refine own_step (T' := T0) (g' := (mkF m 122 #[.val (.int x0)] [])) (fun _ k => XS.icmpYes X0.here hx rfl (pc0 := 112) (pc' := 122) rfl (hb hby d1_112) rfl (tlt hc).1 (by decide) (by decide) k) ?_
      exact B122 T0 _ x0   X0 e0 N0 ((if_pos hc).symm.trans hf)
    · refine own_step (T' := T0) (g' := (mkF m 115 #[.val (.int x0)] [])) (fun _ k => XS.icmpNo X0.here hx rfl (hb hby d1_112) rfl (flt hc).1 k) ?_
      exact B115 T0 _ x0   X0 e0 N0 ((if_neg hc).symm.trans hf)
  have B101 : ∀ (T0 : State) (locs : List Loc) (x0 : Int32), Stand p l e ({ frames := 0, cells := 0, slots := 0, locals := 0 } : Room) s m #[(.int p0)] below meth c T0 locs 0 0 → T0.heap = h0 → Fr n0 locs → f1_101 x0 = f1_0 p0 → own_Goes p e below s (own_Pure ((.int (f1_0 p0))) h0 n0) ({ frames := 0, cells := 0, slots := 0, locals := 0 } : Room).cells ({ frames := 0, cells := 0, slots := 0, locals := 0 } : Room).slots T0 (mkF m 101 #[.val (.int x0)] []) := by
    intro T0 locs x0   X0 e0 N0 hf
    refine own_step (T' := T0) (g' := (mkF m 102 #[.val (.int x0)] [(.int x0)])) (fun _ k => XS.iloadN X0.here hx rfl (hb hby d1_101) rfl k) ?_
    refine own_step (T' := T0) (g' := (mkF m 105 #[.val (.int x0)] [(.int (8205 : Int32)), (.int x0)])) (fun _ k => XS.sipush X0.here hx rfl (hb hby d1_102) k) ?_
    by_cases hc : (8205 : Int32) < x0
    · refine own_step (T' := T0) (g' := (mkF m 108 #[.val (.int x0)] [])) (fun _ k => XS.icmpNo X0.here hx rfl (hb hby d1_105) rfl (tlt hc).2.2.2 k) ?_
      exact B108 T0 _ x0   X0 e0 N0 ((if_pos hc).symm.trans hf)
    · refine own_step (T' := T0) (g' := (mkF m 185 #[.val (.int x0)] [])) (fun _ k => XS.icmpYes X0.here hx rfl (pc0 := 105) (pc' := 185) rfl (hb hby d1_105) rfl (flt hc).2.2.2 (by decide) (by decide) k) ?_
      exact B185 T0 _ x0   X0 e0 N0 ((if_neg hc).symm.trans hf)
  have B94 : ∀ (T0 : State) (locs : List Loc) (x0 : Int32), Stand p l e ({ frames := 0, cells := 0, slots := 0, locals := 0 } : Room) s m #[(.int p0)] below meth c T0 locs 0 0 → T0.heap = h0 → Fr n0 locs → f1_94 x0 = f1_0 p0 → own_Goes p e below s (own_Pure ((.int (f1_0 p0))) h0 n0) ({ frames := 0, cells := 0, slots := 0, locals := 0 } : Room).cells ({ frames := 0, cells := 0, slots := 0, locals := 0 } : Room).slots T0 (mkF m 94 #[.val (.int x0)] []) := by
    intro T0 locs x0   X0 e0 N0 hf
    refine own_step (T' := T0) (g' := (mkF m 95 #[.val (.int x0)] [(.int x0)])) (fun _ k => XS.iloadN X0.here hx rfl (hb hby d1_94) rfl k) ?_
    refine own_step (T' := T0) (g' := (mkF m 98 #[.val (.int x0)] [(.int (8204 : Int32)), (.int x0)])) (fun _ k => XS.sipush X0.here hx rfl (hb hby d1_95) k) ?_
    by_cases hc : x0 < (8204 : Int32)
    · refine own_step (T' := T0) (g' := (mkF m 108 #[.val (.int x0)] [])) (fun _ k => XS.icmpYes X0.here hx rfl (pc0 := 98) (pc' := 108) rfl (hb hby d1_98) rfl (tlt hc).1 (by decide) (by decide) k) ?_
      exact B108 T0 _ x0   X0 e0 N0 ((if_pos hc).symm.trans hf)
    · refine own_step (T' := T0) (g' := (mkF m 101 #[.val (.int x0)] [])) (fun _ k => XS.icmpNo X0.here hx rfl (hb hby d1_98) rfl (flt hc).1 k) ?_
      exact B101 T0 _ x0   X0 e0 N0 ((if_neg hc).symm.trans hf)
  have B87 : ∀ (T0 : State) (locs : List Loc) (x0 : Int32), Stand p l e ({ frames := 0, cells := 0, slots := 0, locals := 0 } : Room) s m #[(.int p0)] below meth c T0 locs 0 0 → T0.heap = h0 → Fr n0 locs → f1_87 x0 = f1_0 p0 → own_Goes p e below s (own_Pure ((.int (f1_0 p0))) h0 n0) ({ frames := 0, cells := 0, slots := 0, locals := 0 } : Room).cells ({ frames := 0, cells := 0, slots := 0, locals := 0 } : Room).slots T0 (mkF m 87 #[.val (.int x0)] []) := by
    intro T0 locs x0   X0 e0 N0 hf
    refine own_step (T' := T0) (g' := (mkF m 88 #[.val (.int x0)] [(.int x0)])) (fun _ k => XS.iloadN X0.here hx rfl (hb hby d1_87) rfl k) ?_
    refine own_step (T' := T0) (g' := (mkF m 91 #[.val (.int x0)] [(.int (8191 : Int32)), (.int x0)])) (fun _ k => XS.sipush X0.here hx rfl (hb hby d1_88) k) ?_
    by_cases hc : (8191 : Int32) < x0
    · refine own_step (T' := T0) (g' := (mkF m 94 #[.val (.int x0)] [])) (fun _ k => XS.icmpNo X0.here hx rfl (hb hby d1_91) rfl (tlt hc).2.2.2 k) ?_
      exact B94 T0 _ x0   X0 e0 N0 ((if_pos hc).symm.trans hf)
    · refine own_step (T' := T0) (g' := (mkF m 185 #[.val (.int x0)] [])) (fun _ k => XS.icmpYes X0.here hx rfl (pc0 := 91) (pc' := 185) rfl (hb hby d1_91) rfl (flt hc).2.2.2 (by decide) (by decide) k) ?_
      exact B185 T0 _ x0   X0 e0 N0 ((if_neg hc).symm.trans hf)
  have B80 : ∀ (T0 : State) (locs : List Loc) (x0 : Int32), Stand p l e ({ frames := 0, cells := 0, slots := 0, locals := 0 } : Room) s m #[(.int p0)] below meth c T0 locs 0 0 → T0.heap = h0 → Fr n0 locs → f1_80 x0 = f1_0 p0 → own_Goes p e below s (own_Pure ((.int (f1_0 p0))) h0 n0) ({ frames := 0, cells := 0, slots := 0, locals := 0 } : Room).cells ({ frames := 0, cells := 0, slots := 0, locals := 0 } : Room).slots T0 (mkF m 80 #[.val (.int x0)] []) := by
    intro T0 locs x0   X0 e0 N0 hf
    refine own_step (T' := T0) (g' := (mkF m 81 #[.val (.int x0)] [(.int x0)])) (fun _ k => XS.iloadN X0.here hx rfl (hb hby d1_80) rfl k) ?_
    refine own_step (T' := T0) (g' := (mkF m 84 #[.val (.int x0)] [(.int (895 : Int32)), (.int x0)])) (fun _ k => XS.sipush X0.here hx rfl (hb hby d1_81) k) ?_
    by_cases hc : x0 < (895 : Int32)
    · refine own_step (T' := T0) (g' := (mkF m 94 #[.val (.int x0)] [])) (fun _ k => XS.icmpYes X0.here hx rfl (pc0 := 84) (pc' := 94) rfl (hb hby d1_84) rfl (tlt hc).1 (by decide) (by decide) k) ?_
      exact B94 T0 _ x0   X0 e0 N0 ((if_pos hc).symm.trans hf)
    · refine own_step (T' := T0) (g' := (mkF m 87 #[.val (.int x0)] [])) (fun _ k => XS.icmpNo X0.here hx rfl (hb hby d1_84) rfl (flt hc).1 k) ?_
      exact B87 T0 _ x0   X0 e0 N0 ((if_neg hc).symm.trans hf)
  have B73 : ∀ (T0 : State) (locs : List Loc) (x0 : Int32), Stand p l e ({ frames := 0, cells := 0, slots := 0, locals := 0 } : Room) s m #[(.int p0)] below meth c T0 locs 0 0 → T0.heap = h0 → Fr n0 locs → f1_73 x0 = f1_0 p0 → own_Goes p e below s (own_Pure ((.int (f1_0 p0))) h0 n0) ({ frames := 0, cells := 0, slots := 0, locals := 0 } : Room).cells ({ frames := 0, cells := 0, slots := 0, locals := 0 } : Room).slots T0 (mkF m 73 #[.val (.int x0)] []) := by
    intro T0 locs x0   X0 e0 N0 hf
    refine own_step (T' := T0) (g' := (mkF m 74 #[.val (.int x0)] [(.int x0)])) (fun _ k => XS.iloadN X0.here hx rfl (hb hby d1_73) rfl k) ?_
    refine own_step (T' := T0) (g' := (mkF m 77 #[.val (.int x0)] [(.int (893 : Int32)), (.int x0)])) (fun _ k => XS.sipush X0.here hx rfl (hb hby d1_74) k) ?_
    by_cases hc : (893 : Int32) < x0
    · refine own_step (T' := T0) (g' := (mkF m 80 #[.val (.int x0)] [])) (fun _ k => XS.icmpNo X0.here hx rfl (hb hby d1_77) rfl (tlt hc).2.2.2 k) ?_
      exact B80 T0 _ x0   X0 e0 N0 ((if_pos hc).symm.trans hf)
    · refine own_step (T' := T0) (g' := (mkF m 185 #[.val (.int x0)] [])) (fun _ k => XS.icmpYes X0.here hx rfl (pc0 := 77) (pc' := 185) rfl (hb hby d1_77) rfl (flt hc).2.2.2 (by decide) (by decide) k) ?_
      exact B185 T0 _ x0   X0 e0 N0 ((if_neg hc).symm.trans hf)
  have B66 : ∀ (T0 : State) (locs : List Loc) (x0 : Int32), Stand p l e ({ frames := 0, cells := 0, slots := 0, locals := 0 } : Room) s m #[(.int p0)] below meth c T0 locs 0 0 → T0.heap = h0 → Fr n0 locs → f1_66 x0 = f1_0 p0 → own_Goes p e below s (own_Pure ((.int (f1_0 p0))) h0 n0) ({ frames := 0, cells := 0, slots := 0, locals := 0 } : Room).cells ({ frames := 0, cells := 0, slots := 0, locals := 0 } : Room).slots T0 (mkF m 66 #[.val (.int x0)] []) := by
    intro T0 locs x0   X0 e0 N0 hf
    refine own_step (T' := T0) (g' := (mkF m 67 #[.val (.int x0)] [(.int x0)])) (fun _ k => XS.iloadN X0.here hx rfl (hb hby d1_66) rfl k) ?_
    refine own_step (T' := T0) (g' := (mkF m 70 #[.val (.int x0)] [(.int (880 : Int32)), (.int x0)])) (fun _ k => XS.sipush X0.here hx rfl (hb hby d1_67) k) ?_
    by_cases hc : x0 < (880 : Int32)
    · refine own_step (T' := T0) (g' := (mkF m 80 #[.val (.int x0)] [])) (fun _ k => XS.icmpYes X0.here hx rfl (pc0 := 70) (pc' := 80) rfl (hb hby d1_70) rfl (tlt hc).1 (by decide) (by decide) k) ?_
      exact B80 T0 _ x0   X0 e0 N0 ((if_pos hc).symm.trans hf)
    · refine own_step (T' := T0) (g' := (mkF m 73 #[.val (.int x0)] [])) (fun _ k => XS.icmpNo X0.here hx rfl (hb hby d1_70) rfl (flt hc).1 k) ?_
      exact B73 T0 _ x0   X0 e0 N0 ((if_neg hc).symm.trans hf)
  have B59 : ∀ (T0 : State) (locs : List Loc) (x0 : Int32), Stand p l e ({ frames := 0, cells := 0, slots := 0, locals := 0 } : Room) s m #[(.int p0)] below meth c T0 locs 0 0 → T0.heap = h0 → Fr n0 locs → f1_59 x0 = f1_0 p0 → own_Goes p e below s (own_Pure ((.int (f1_0 p0))) h0 n0) ({ frames := 0, cells := 0, slots := 0, locals := 0 } : Room).cells ({ frames := 0, cells := 0, slots := 0, locals := 0 } : Room).slots T0 (mkF m 59 #[.val (.int x0)] []) := by
    intro T0 locs x0   X0 e0 N0 hf
    refine own_step (T' := T0) (g' := (mkF m 60 #[.val (.int x0)] [(.int x0)])) (fun _ k => XS.iloadN X0.here hx rfl (hb hby d1_59) rfl k) ?_
    refine own_step (T' := T0) (g' := (mkF m 63 #[.val (.int x0)] [(.int (767 : Int32)), (.int x0)])) (fun _ k => XS.sipush X0.here hx rfl (hb hby d1_60) k) ?_
    by_cases hc : (767 : Int32) < x0
    · refine own_step (T' := T0) (g' := (mkF m 66 #[.val (.int x0)] [])) (fun _ k => XS.icmpNo X0.here hx rfl (hb hby d1_63) rfl (tlt hc).2.2.2 k) ?_
      exact B66 T0 _ x0   X0 e0 N0 ((if_pos hc).symm.trans hf)
    · refine own_step (T' := T0) (g' := (mkF m 185 #[.val (.int x0)] [])) (fun _ k => XS.icmpYes X0.here hx rfl (pc0 := 63) (pc' := 185) rfl (hb hby d1_63) rfl (flt hc).2.2.2 (by decide) (by decide) k) ?_
      exact B185 T0 _ x0   X0 e0 N0 ((if_neg hc).symm.trans hf)
  have B52 : ∀ (T0 : State) (locs : List Loc) (x0 : Int32), Stand p l e ({ frames := 0, cells := 0, slots := 0, locals := 0 } : Room) s m #[(.int p0)] below meth c T0 locs 0 0 → T0.heap = h0 → Fr n0 locs → f1_52 x0 = f1_0 p0 → own_Goes p e below s (own_Pure ((.int (f1_0 p0))) h0 n0) ({ frames := 0, cells := 0, slots := 0, locals := 0 } : Room).cells ({ frames := 0, cells := 0, slots := 0, locals := 0 } : Room).slots T0 (mkF m 52 #[.val (.int x0)] []) := by
    intro T0 locs x0   X0 e0 N0 hf
    refine own_step (T' := T0) (g' := (mkF m 53 #[.val (.int x0)] [(.int x0)])) (fun _ k => XS.iloadN X0.here hx rfl (hb hby d1_52) rfl k) ?_
    refine own_step (T' := T0) (g' := (mkF m 56 #[.val (.int x0)] [(.int (248 : Int32)), (.int x0)])) (fun _ k => XS.sipush X0.here hx rfl (hb hby d1_53) k) ?_
    by_cases hc : x0 < (248 : Int32)
    · refine own_step (T' := T0) (g' := (mkF m 66 #[.val (.int x0)] [])) (fun _ k => XS.icmpYes X0.here hx rfl (pc0 := 56) (pc' := 66) rfl (hb hby d1_56) rfl (tlt hc).1 (by decide) (by decide) k) ?_
      exact B66 T0 _ x0   X0 e0 N0 ((if_pos hc).symm.trans hf)
    · refine own_step (T' := T0) (g' := (mkF m 59 #[.val (.int x0)] [])) (fun _ k => XS.icmpNo X0.here hx rfl (hb hby d1_56) rfl (flt hc).1 k) ?_
      exact B59 T0 _ x0   X0 e0 N0 ((if_neg hc).symm.trans hf)
  have B45 : ∀ (T0 : State) (locs : List Loc) (x0 : Int32), Stand p l e ({ frames := 0, cells := 0, slots := 0, locals := 0 } : Room) s m #[(.int p0)] below meth c T0 locs 0 0 → T0.heap = h0 → Fr n0 locs → f1_45 x0 = f1_0 p0 → own_Goes p e below s (own_Pure ((.int (f1_0 p0))) h0 n0) ({ frames := 0, cells := 0, slots := 0, locals := 0 } : Room).cells ({ frames := 0, cells := 0, slots := 0, locals := 0 } : Room).slots T0 (mkF m 45 #[.val (.int x0)] []) := by
    intro T0 locs x0   X0 e0 N0 hf
    refine own_step (T' := T0) (g' := (mkF m 46 #[.val (.int x0)] [(.int x0)])) (fun _ k => XS.iloadN X0.here hx rfl (hb hby d1_45) rfl k) ?_
    refine own_step (T' := T0) (g' := (mkF m 49 #[.val (.int x0)] [(.int (246 : Int32)), (.int x0)])) (fun _ k => XS.sipush X0.here hx rfl (hb hby d1_46) k) ?_
    by_cases hc : (246 : Int32) < x0
    · refine own_step (T' := T0) (g' := (mkF m 52 #[.val (.int x0)] [])) (fun _ k => XS.icmpNo X0.here hx rfl (hb hby d1_49) rfl (tlt hc).2.2.2 k) ?_
      exact B52 T0 _ x0   X0 e0 N0 ((if_pos hc).symm.trans hf)
    · refine own_step (T' := T0) (g' := (mkF m 185 #[.val (.int x0)] [])) (fun _ k => XS.icmpYes X0.here hx rfl (pc0 := 49) (pc' := 185) rfl (hb hby d1_49) rfl (flt hc).2.2.2 (by decide) (by decide) k) ?_
      exact B185 T0 _ x0   X0 e0 N0 ((if_neg hc).symm.trans hf)
  have B38 : ∀ (T0 : State) (locs : List Loc) (x0 : Int32), Stand p l e ({ frames := 0, cells := 0, slots := 0, locals := 0 } : Room) s m #[(.int p0)] below meth c T0 locs 0 0 → T0.heap = h0 → Fr n0 locs → f1_38 x0 = f1_0 p0 → own_Goes p e below s (own_Pure ((.int (f1_0 p0))) h0 n0) ({ frames := 0, cells := 0, slots := 0, locals := 0 } : Room).cells ({ frames := 0, cells := 0, slots := 0, locals := 0 } : Room).slots T0 (mkF m 38 #[.val (.int x0)] []) := by
    intro T0 locs x0   X0 e0 N0 hf
    refine own_step (T' := T0) (g' := (mkF m 39 #[.val (.int x0)] [(.int x0)])) (fun _ k => XS.iloadN X0.here hx rfl (hb hby d1_38) rfl k) ?_
    refine own_step (T' := T0) (g' := (mkF m 42 #[.val (.int x0)] [(.int (216 : Int32)), (.int x0)])) (fun _ k => XS.sipush X0.here hx rfl (hb hby d1_39) k) ?_
    by_cases hc : x0 < (216 : Int32)
    · refine own_step (T' := T0) (g' := (mkF m 52 #[.val (.int x0)] [])) (fun _ k => XS.icmpYes X0.here hx rfl (pc0 := 42) (pc' := 52) rfl (hb hby d1_42) rfl (tlt hc).1 (by decide) (by decide) k) ?_
      exact B52 T0 _ x0   X0 e0 N0 ((if_pos hc).symm.trans hf)
    · refine own_step (T' := T0) (g' := (mkF m 45 #[.val (.int x0)] [])) (fun _ k => XS.icmpNo X0.here hx rfl (hb hby d1_42) rfl (flt hc).1 k) ?_
      exact B45 T0 _ x0   X0 e0 N0 ((if_neg hc).symm.trans hf)
  have B31 : ∀ (T0 : State) (locs : List Loc) (x0 : Int32), Stand p l e ({ frames := 0, cells := 0, slots := 0, locals := 0 } : Room) s m #[(.int p0)] below meth c T0 locs 0 0 → T0.heap = h0 → Fr n0 locs → f1_31 x0 = f1_0 p0 → own_Goes p e below s (own_Pure ((.int (f1_0 p0))) h0 n0) ({ frames := 0, cells := 0, slots := 0, locals := 0 } : Room).cells ({ frames := 0, cells := 0, slots := 0, locals := 0 } : Room).slots T0 (mkF m 31 #[.val (.int x0)] []) := by
    intro T0 locs x0   X0 e0 N0 hf
    refine own_step (T' := T0) (g' := (mkF m 32 #[.val (.int x0)] [(.int x0)])) (fun _ k => XS.iloadN X0.here hx rfl (hb hby d1_31) rfl k) ?_
    refine own_step (T' := T0) (g' := (mkF m 35 #[.val (.int x0)] [(.int (214 : Int32)), (.int x0)])) (fun _ k => XS.sipush X0.here hx rfl (hb hby d1_32) k) ?_
    by_cases hc : (214 : Int32) < x0
    · refine own_step (T' := T0) (g' := (mkF m 38 #[.val (.int x0)] [])) (fun _ k => XS.icmpNo X0.here hx rfl (hb hby d1_35) rfl (tlt hc).2.2.2 k) ?_
      exact B38 T0 _ x0   X0 e0 N0 ((if_pos hc).symm.trans hf)
    · refine own_step (T' := T0) (g' := (mkF m 185 #[.val (.int x0)] [])) (fun _ k => XS.icmpYes X0.here hx rfl (pc0 := 35) (pc' := 185) rfl (hb hby d1_35) rfl (flt hc).2.2.2 (by decide) (by decide) k) ?_
      exact B185 T0 _ x0   X0 e0 N0 ((if_neg hc).symm.trans hf)
  have B24 : ∀ (T0 : State) (locs : List Loc) (x0 : Int32), Stand p l e ({ frames := 0, cells := 0, slots := 0, locals := 0 } : Room) s m #[(.int p0)] below meth c T0 locs 0 0 → T0.heap = h0 → Fr n0 locs → f1_24 x0 = f1_0 p0 → own_Goes p e below s (own_Pure ((.int (f1_0 p0))) h0 n0) ({ frames := 0, cells := 0, slots := 0, locals := 0 } : Room).cells ({ frames := 0, cells := 0, slots := 0, locals := 0 } : Room).slots T0 (mkF m 24 #[.val (.int x0)] []) := by
    intro T0 locs x0   X0 e0 N0 hf
    refine own_step (T' := T0) (g' := (mkF m 25 #[.val (.int x0)] [(.int x0)])) (fun _ k => XS.iloadN X0.here hx rfl (hb hby d1_24) rfl k) ?_
    refine own_step (T' := T0) (g' := (mkF m 28 #[.val (.int x0)] [(.int (192 : Int32)), (.int x0)])) (fun _ k => XS.sipush X0.here hx rfl (hb hby d1_25) k) ?_
    by_cases hc : x0 < (192 : Int32)
    · refine own_step (T' := T0) (g' := (mkF m 38 #[.val (.int x0)] [])) (fun _ k => XS.icmpYes X0.here hx rfl (pc0 := 28) (pc' := 38) rfl (hb hby d1_28) rfl (tlt hc).1 (by decide) (by decide) k) ?_
      exact B38 T0 _ x0   X0 e0 N0 ((if_pos hc).symm.trans hf)
    · refine own_step (T' := T0) (g' := (mkF m 31 #[.val (.int x0)] [])) (fun _ k => XS.icmpNo X0.here hx rfl (hb hby d1_28) rfl (flt hc).1 k) ?_
      exact B31 T0 _ x0   X0 e0 N0 ((if_neg hc).symm.trans hf)
  have B18 : ∀ (T0 : State) (locs : List Loc) (x0 : Int32), Stand p l e ({ frames := 0, cells := 0, slots := 0, locals := 0 } : Room) s m #[(.int p0)] below meth c T0 locs 0 0 → T0.heap = h0 → Fr n0 locs → f1_18 x0 = f1_0 p0 → own_Goes p e below s (own_Pure ((.int (f1_0 p0))) h0 n0) ({ frames := 0, cells := 0, slots := 0, locals := 0 } : Room).cells ({ frames := 0, cells := 0, slots := 0, locals := 0 } : Room).slots T0 (mkF m 18 #[.val (.int x0)] []) := by
    intro T0 locs x0   X0 e0 N0 hf
    refine own_step (T' := T0) (g' := (mkF m 19 #[.val (.int x0)] [(.int x0)])) (fun _ k => XS.iloadN X0.here hx rfl (hb hby d1_18) rfl k) ?_
    refine own_step (T' := T0) (g' := (mkF m 21 #[.val (.int x0)] [(.int (122 : Int32)), (.int x0)])) (fun _ k => XS.bipush X0.here hx rfl (hb hby d1_19) k) ?_
    by_cases hc : (122 : Int32) < x0
    · refine own_step (T' := T0) (g' := (mkF m 24 #[.val (.int x0)] [])) (fun _ k => XS.icmpNo X0.here hx rfl (hb hby d1_21) rfl (tlt hc).2.2.2 k) ?_
      exact B24 T0 _ x0   X0 e0 N0 ((if_pos hc).symm.trans hf)
    · refine own_step (T' := T0) (g' := (mkF m 185 #[.val (.int x0)] [])) (fun _ k => XS.icmpYes X0.here hx rfl (pc0 := 21) (pc' := 185) rfl (hb hby d1_21) rfl (flt hc).2.2.2 (by decide) (by decide) k) ?_
      exact B185 T0 _ x0   X0 e0 N0 ((if_neg hc).symm.trans hf)
  have B12 : ∀ (T0 : State) (locs : List Loc) (x0 : Int32), Stand p l e ({ frames := 0, cells := 0, slots := 0, locals := 0 } : Room) s m #[(.int p0)] below meth c T0 locs 0 0 → T0.heap = h0 → Fr n0 locs → f1_12 x0 = f1_0 p0 → own_Goes p e below s (own_Pure ((.int (f1_0 p0))) h0 n0) ({ frames := 0, cells := 0, slots := 0, locals := 0 } : Room).cells ({ frames := 0, cells := 0, slots := 0, locals := 0 } : Room).slots T0 (mkF m 12 #[.val (.int x0)] []) := by
    intro T0 locs x0   X0 e0 N0 hf
    refine own_step (T' := T0) (g' := (mkF m 13 #[.val (.int x0)] [(.int x0)])) (fun _ k => XS.iloadN X0.here hx rfl (hb hby d1_12) rfl k) ?_
    refine own_step (T' := T0) (g' := (mkF m 15 #[.val (.int x0)] [(.int (97 : Int32)), (.int x0)])) (fun _ k => XS.bipush X0.here hx rfl (hb hby d1_13) k) ?_
    by_cases hc : x0 < (97 : Int32)
    · refine own_step (T' := T0) (g' := (mkF m 24 #[.val (.int x0)] [])) (fun _ k => XS.icmpYes X0.here hx rfl (pc0 := 15) (pc' := 24) rfl (hb hby d1_15) rfl (tlt hc).1 (by decide) (by decide) k) ?_
      exact B24 T0 _ x0   X0 e0 N0 ((if_pos hc).symm.trans hf)
    · refine own_step (T' := T0) (g' := (mkF m 18 #[.val (.int x0)] [])) (fun _ k => XS.icmpNo X0.here hx rfl (hb hby d1_15) rfl (flt hc).1 k) ?_
      exact B18 T0 _ x0   X0 e0 N0 ((if_neg hc).symm.trans hf)
  have B6 : ∀ (T0 : State) (locs : List Loc) (x0 : Int32), Stand p l e ({ frames := 0, cells := 0, slots := 0, locals := 0 } : Room) s m #[(.int p0)] below meth c T0 locs 0 0 → T0.heap = h0 → Fr n0 locs → f1_6 x0 = f1_0 p0 → own_Goes p e below s (own_Pure ((.int (f1_0 p0))) h0 n0) ({ frames := 0, cells := 0, slots := 0, locals := 0 } : Room).cells ({ frames := 0, cells := 0, slots := 0, locals := 0 } : Room).slots T0 (mkF m 6 #[.val (.int x0)] []) := by
    intro T0 locs x0   X0 e0 N0 hf
    refine own_step (T' := T0) (g' := (mkF m 7 #[.val (.int x0)] [(.int x0)])) (fun _ k => XS.iloadN X0.here hx rfl (hb hby d1_6) rfl k) ?_
    refine own_step (T' := T0) (g' := (mkF m 9 #[.val (.int x0)] [(.int (90 : Int32)), (.int x0)])) (fun _ k => XS.bipush X0.here hx rfl (hb hby d1_7) k) ?_
    by_cases hc : (90 : Int32) < x0
    · refine own_step (T' := T0) (g' := (mkF m 12 #[.val (.int x0)] [])) (fun _ k => XS.icmpNo X0.here hx rfl (hb hby d1_9) rfl (tlt hc).2.2.2 k) ?_
      exact B12 T0 _ x0   X0 e0 N0 ((if_pos hc).symm.trans hf)
    · refine own_step (T' := T0) (g' := (mkF m 185 #[.val (.int x0)] [])) (fun _ k => XS.icmpYes X0.here hx rfl (pc0 := 9) (pc' := 185) rfl (hb hby d1_9) rfl (flt hc).2.2.2 (by decide) (by decide) k) ?_
      exact B185 T0 _ x0   X0 e0 N0 ((if_neg hc).symm.trans hf)
  have B0 : ∀ (T0 : State) (locs : List Loc) (x0 : Int32), Stand p l e ({ frames := 0, cells := 0, slots := 0, locals := 0 } : Room) s m #[(.int p0)] below meth c T0 locs 0 0 → T0.heap = h0 → Fr n0 locs → f1_0 x0 = f1_0 p0 → own_Goes p e below s (own_Pure ((.int (f1_0 p0))) h0 n0) ({ frames := 0, cells := 0, slots := 0, locals := 0 } : Room).cells ({ frames := 0, cells := 0, slots := 0, locals := 0 } : Room).slots T0 (mkF m 0 #[.val (.int x0)] []) := by
    intro T0 locs x0   X0 e0 N0 hf
    refine own_step (T' := T0) (g' := (mkF m 1 #[.val (.int x0)] [(.int x0)])) (fun _ k => XS.iloadN X0.here hx rfl (hb hby d1_0) rfl k) ?_
    refine own_step (T' := T0) (g' := (mkF m 3 #[.val (.int x0)] [(.int (65 : Int32)), (.int x0)])) (fun _ k => XS.bipush X0.here hx rfl (hb hby d1_1) k) ?_
    by_cases hc : x0 < (65 : Int32)
    · refine own_step (T' := T0) (g' := (mkF m 12 #[.val (.int x0)] [])) (fun _ k => XS.icmpYes X0.here hx rfl (pc0 := 3) (pc' := 12) rfl (hb hby d1_3) rfl (tlt hc).1 (by decide) (by decide) k) ?_
      exact B12 T0 _ x0   X0 e0 N0 ((if_pos hc).symm.trans hf)
    · refine own_step (T' := T0) (g' := (mkF m 6 #[.val (.int x0)] [])) (fun _ k => XS.icmpNo X0.here hx rfl (hb hby d1_3) rfl (flt hc).1 k) ?_
      exact B6 T0 _ x0   X0 e0 N0 ((if_neg hc).symm.trans hf)
  have hB := B0 s₁ [] p0  X00 e00 (Fr.nil n0) rfl
  obtain ⟨s₂, o, q1, q2, q3, v, L, q4, q5, q6⟩ := hB
  exact ⟨s₂, o, castTop (ef_1 m p0) q1, q2, q3, v, L, q4, q5, q6⟩
set_option maxRecDepth 65536 in
set_option maxHeartbeats 40000000 in
theorem rm2 (l : Launch) (Z : State) (a0 : Array Value) (hw : ∀ d ∈ tables_1, d.before a0 Z = true) (ws : List Jvm.Cond) (p0 : Int32) (h0 : Heap) (n0 : Nat) (Z0 : n0 ≤ h0.size) :
    MetFree l (⟨"com/example/graphwright/graphwright/model/TerminalsIsPnCharsBasePinLaw", "inGap", "(I)Z"⟩ : MethodName) (head1 (Jvm.Cond.code (⟨"com/example/graphwright/graphwright/model/TerminalsIsPnCharsBasePinLaw", "inGap", "(I)Z"⟩ : MethodName) method_3_code 1 (some .boolean) :: ws) ({ frames := 0, cells := 0, slots := 0, locals := 0 } : Room)) (fun a U => a = #[(.int p0)] ∧ Z.Warmed39 U.vm ∧ U.heap = h0) (fun _ _ _ _ _ => True) (fun _ U o U' => ∃ v L, o = .returned v ∧ own_Pure ((.int (f2_0 p0))) h0 n0 v U'.heap L ∧ FrameEnd U o U' L ({ frames := 0, cells := 0, slots := 0, locals := 0 } : Room).cells ({ frames := 0, cells := 0, slots := 0, locals := 0 } : Room).slots) := by
  refine MetFree.of_bodySF (plainFor_of_name pn_2) hisR ?_
  intro p e s m args below meth c s₁ Bd hml0 hP hK
  obtain ⟨rfl, hZ, hh0⟩ := hP
  have hx := Bd.exec
  have hby := Bd.bytes
  have hml : c.maxLocals = 1 := hml0
  have hown : s.vm.findClass "com/example/graphwright/graphwright/model/TerminalsIsPnCharsBasePinLaw" = some m.cls := findClass_of_methodNamed Bd.named
  have X00 : Stand p l e ({ frames := 0, cells := 0, slots := 0, locals := 0 } : Room) s m #[(.int p0)] below meth c s₁ [] 0 0 := Stand.of_body Bd
  have e00 : s₁.heap = h0 := by rw [← hh0, Bd.state]; rfl
  have B192 : ∀ (T0 : State) (locs : List Loc) (x0 : Int32), Stand p l e ({ frames := 0, cells := 0, slots := 0, locals := 0 } : Room) s m #[(.int p0)] below meth c T0 locs 0 0 → T0.heap = h0 → Fr n0 locs → f2_192 = f2_0 p0 → own_Goes p e below s (own_Pure ((.int (f2_0 p0))) h0 n0) ({ frames := 0, cells := 0, slots := 0, locals := 0 } : Room).cells ({ frames := 0, cells := 0, slots := 0, locals := 0 } : Room).slots T0 (mkF m 192 #[.val (.int x0)] []) := by
    intro T0 locs x0   X0 e0 N0 hf
    refine own_step (T' := T0) (g' := (mkF m 193 #[.val (.int x0)] [(.int (0 : Int32))])) (fun _ k => XS.iconst X0.here hx rfl (hb hby d2_192) k) ?_
    exact own_ret X0 Bd (v := some (.int ((0 : Int32) &&& 1))) (fun q => by rw [Bd.returns] at q; cases q) (fun fs q => retN X0 hx (t := .boolean) Bd.returns (by simp) (hb hby d2_193) q) (show own_Pure ((.int (f2_0 p0))) h0 n0 _ _ _ from ⟨congrArg (fun z => some (Value.int z)) hf, N0, e0⟩) (by decide) (by decide)
  have B190 : ∀ (T0 : State) (locs : List Loc) (x0 : Int32), Stand p l e ({ frames := 0, cells := 0, slots := 0, locals := 0 } : Room) s m #[(.int p0)] below meth c T0 locs 0 0 → T0.heap = h0 → Fr n0 locs → f2_190 = f2_0 p0 → own_Goes p e below s (own_Pure ((.int (f2_0 p0))) h0 n0) ({ frames := 0, cells := 0, slots := 0, locals := 0 } : Room).cells ({ frames := 0, cells := 0, slots := 0, locals := 0 } : Room).slots T0 (mkF m 190 #[.val (.int x0)] []) := by
    intro T0 locs x0   X0 e0 N0 hf
    refine own_step (T' := T0) (g' := (mkF m 191 #[.val (.int x0)] [(.int (1 : Int32))])) (fun _ k => XS.iconst X0.here hx rfl (hb hby d2_190) k) ?_
    exact own_ret X0 Bd (v := some (.int ((1 : Int32) &&& 1))) (fun q => by rw [Bd.returns] at q; cases q) (fun fs q => retN X0 hx (t := .boolean) Bd.returns (by simp) (hb hby d2_191) q) (show own_Pure ((.int (f2_0 p0))) h0 n0 _ _ _ from ⟨congrArg (fun z => some (Value.int z)) hf, N0, e0⟩) (by decide) (by decide)
  have B184 : ∀ (T0 : State) (locs : List Loc) (x0 : Int32), Stand p l e ({ frames := 0, cells := 0, slots := 0, locals := 0 } : Room) s m #[(.int p0)] below meth c T0 locs 0 0 → T0.heap = h0 → Fr n0 locs → f2_184 x0 = f2_0 p0 → own_Goes p e below s (own_Pure ((.int (f2_0 p0))) h0 n0) ({ frames := 0, cells := 0, slots := 0, locals := 0 } : Room).cells ({ frames := 0, cells := 0, slots := 0, locals := 0 } : Room).slots T0 (mkF m 184 #[.val (.int x0)] []) := by
    intro T0 locs x0   X0 e0 N0 hf
    refine own_step (T' := T0) (g' := (mkF m 185 #[.val (.int x0)] [(.int x0)])) (fun _ k => XS.iloadN X0.here hx rfl (hb hby d2_184) rfl k) ?_
    refine own_step (T' := T0) (g' := (mkF m 187 #[.val (.int x0)] [(.int (65535 : Int32)), (.int x0)])) (fun _ k => X0.ldcInt hx hown (mvT hZ (hw _ (List.mem_of_getElem? (i := 29) rfl))) (g := (mkF m 185 #[.val (.int x0)] [(.int x0)])) rfl (hb hby d2_185) _ k) ?_
    by_cases hc : (65535 : Int32) < x0
    · refine own_step (T' := T0) (g' := (mkF m 192 #[.val (.int x0)] [])) (fun _ k => XS.icmpYes X0.here hx rfl (pc0 := 187) (pc' := 192) rfl (hb hby d2_187) rfl (tlt hc).2.2.1 (by decide) (by decide) k) ?_
      exact B192 T0 _ x0   X0 e0 N0 ((if_pos hc).symm.trans hf)
    · refine own_step (T' := T0) (g' := (mkF m 190 #[.val (.int x0)] [])) (fun _ k => XS.icmpNo X0.here hx rfl (hb hby d2_187) rfl (flt hc).2.2.1 k) ?_
      exact B190 T0 _ x0   X0 e0 N0 ((if_neg hc).symm.trans hf)
  have B178 : ∀ (T0 : State) (locs : List Loc) (x0 : Int32), Stand p l e ({ frames := 0, cells := 0, slots := 0, locals := 0 } : Room) s m #[(.int p0)] below meth c T0 locs 0 0 → T0.heap = h0 → Fr n0 locs → f2_178 x0 = f2_0 p0 → own_Goes p e below s (own_Pure ((.int (f2_0 p0))) h0 n0) ({ frames := 0, cells := 0, slots := 0, locals := 0 } : Room).cells ({ frames := 0, cells := 0, slots := 0, locals := 0 } : Room).slots T0 (mkF m 178 #[.val (.int x0)] []) := by
    intro T0 locs x0   X0 e0 N0 hf
    refine own_step (T' := T0) (g' := (mkF m 179 #[.val (.int x0)] [(.int x0)])) (fun _ k => XS.iloadN X0.here hx rfl (hb hby d2_178) rfl k) ?_
    refine own_step (T' := T0) (g' := (mkF m 181 #[.val (.int x0)] [(.int (65534 : Int32)), (.int x0)])) (fun _ k => X0.ldcInt hx hown (mvT hZ (hw _ (List.mem_of_getElem? (i := 28) rfl))) (g := (mkF m 179 #[.val (.int x0)] [(.int x0)])) rfl (hb hby d2_179) _ k) ?_
    by_cases hc : x0 < (65534 : Int32)
    · refine own_step (T' := T0) (g' := (mkF m 192 #[.val (.int x0)] [])) (fun _ k => XS.icmpYes X0.here hx rfl (pc0 := 181) (pc' := 192) rfl (hb hby d2_181) rfl (tlt hc).1 (by decide) (by decide) k) ?_
      exact B192 T0 _ x0   X0 e0 N0 ((if_pos hc).symm.trans hf)
    · refine own_step (T' := T0) (g' := (mkF m 184 #[.val (.int x0)] [])) (fun _ k => XS.icmpNo X0.here hx rfl (hb hby d2_181) rfl (flt hc).1 k) ?_
      exact B184 T0 _ x0   X0 e0 N0 ((if_neg hc).symm.trans hf)
  have B176 : ∀ (T0 : State) (locs : List Loc) (x0 : Int32), Stand p l e ({ frames := 0, cells := 0, slots := 0, locals := 0 } : Room) s m #[(.int p0)] below meth c T0 locs 0 0 → T0.heap = h0 → Fr n0 locs → f2_176 = f2_0 p0 → own_Goes p e below s (own_Pure ((.int (f2_0 p0))) h0 n0) ({ frames := 0, cells := 0, slots := 0, locals := 0 } : Room).cells ({ frames := 0, cells := 0, slots := 0, locals := 0 } : Room).slots T0 (mkF m 176 #[.val (.int x0)] []) := by
    intro T0 locs x0   X0 e0 N0 hf
    refine own_step (T' := T0) (g' := (mkF m 177 #[.val (.int x0)] [(.int (1 : Int32))])) (fun _ k => XS.iconst X0.here hx rfl (hb hby d2_176) k) ?_
    exact own_ret X0 Bd (v := some (.int ((1 : Int32) &&& 1))) (fun q => by rw [Bd.returns] at q; cases q) (fun fs q => retN X0 hx (t := .boolean) Bd.returns (by simp) (hb hby d2_177) q) (show own_Pure ((.int (f2_0 p0))) h0 n0 _ _ _ from ⟨congrArg (fun z => some (Value.int z)) hf, N0, e0⟩) (by decide) (by decide)
  have B170 : ∀ (T0 : State) (locs : List Loc) (x0 : Int32), Stand p l e ({ frames := 0, cells := 0, slots := 0, locals := 0 } : Room) s m #[(.int p0)] below meth c T0 locs 0 0 → T0.heap = h0 → Fr n0 locs → f2_170 x0 = f2_0 p0 → own_Goes p e below s (own_Pure ((.int (f2_0 p0))) h0 n0) ({ frames := 0, cells := 0, slots := 0, locals := 0 } : Room).cells ({ frames := 0, cells := 0, slots := 0, locals := 0 } : Room).slots T0 (mkF m 170 #[.val (.int x0)] []) := by
    intro T0 locs x0   X0 e0 N0 hf
    refine own_step (T' := T0) (g' := (mkF m 171 #[.val (.int x0)] [(.int x0)])) (fun _ k => XS.iloadN X0.here hx rfl (hb hby d2_170) rfl k) ?_
    refine own_step (T' := T0) (g' := (mkF m 173 #[.val (.int x0)] [(.int (65007 : Int32)), (.int x0)])) (fun _ k => X0.ldcInt hx hown (mvT hZ (hw _ (List.mem_of_getElem? (i := 27) rfl))) (g := (mkF m 171 #[.val (.int x0)] [(.int x0)])) rfl (hb hby d2_171) _ k) ?_
    by_cases hc : (65007 : Int32) < x0
    · refine own_step (T' := T0) (g' := (mkF m 178 #[.val (.int x0)] [])) (fun _ k => XS.icmpYes X0.here hx rfl (pc0 := 173) (pc' := 178) rfl (hb hby d2_173) rfl (tlt hc).2.2.1 (by decide) (by decide) k) ?_
      exact B178 T0 _ x0   X0 e0 N0 ((if_pos hc).symm.trans hf)
    · refine own_step (T' := T0) (g' := (mkF m 176 #[.val (.int x0)] [])) (fun _ k => XS.icmpNo X0.here hx rfl (hb hby d2_173) rfl (flt hc).2.2.1 k) ?_
      exact B176 T0 _ x0   X0 e0 N0 ((if_neg hc).symm.trans hf)
  have B164 : ∀ (T0 : State) (locs : List Loc) (x0 : Int32), Stand p l e ({ frames := 0, cells := 0, slots := 0, locals := 0 } : Room) s m #[(.int p0)] below meth c T0 locs 0 0 → T0.heap = h0 → Fr n0 locs → f2_164 x0 = f2_0 p0 → own_Goes p e below s (own_Pure ((.int (f2_0 p0))) h0 n0) ({ frames := 0, cells := 0, slots := 0, locals := 0 } : Room).cells ({ frames := 0, cells := 0, slots := 0, locals := 0 } : Room).slots T0 (mkF m 164 #[.val (.int x0)] []) := by
    intro T0 locs x0   X0 e0 N0 hf
    refine own_step (T' := T0) (g' := (mkF m 165 #[.val (.int x0)] [(.int x0)])) (fun _ k => XS.iloadN X0.here hx rfl (hb hby d2_164) rfl k) ?_
    refine own_step (T' := T0) (g' := (mkF m 167 #[.val (.int x0)] [(.int (64976 : Int32)), (.int x0)])) (fun _ k => X0.ldcInt hx hown (mvT hZ (hw _ (List.mem_of_getElem? (i := 26) rfl))) (g := (mkF m 165 #[.val (.int x0)] [(.int x0)])) rfl (hb hby d2_165) _ k) ?_
    by_cases hc : x0 < (64976 : Int32)
    · refine own_step (T' := T0) (g' := (mkF m 178 #[.val (.int x0)] [])) (fun _ k => XS.icmpYes X0.here hx rfl (pc0 := 167) (pc' := 178) rfl (hb hby d2_167) rfl (tlt hc).1 (by decide) (by decide) k) ?_
      exact B178 T0 _ x0   X0 e0 N0 ((if_pos hc).symm.trans hf)
    · refine own_step (T' := T0) (g' := (mkF m 170 #[.val (.int x0)] [])) (fun _ k => XS.icmpNo X0.here hx rfl (hb hby d2_167) rfl (flt hc).1 k) ?_
      exact B170 T0 _ x0   X0 e0 N0 ((if_neg hc).symm.trans hf)
  have B162 : ∀ (T0 : State) (locs : List Loc) (x0 : Int32), Stand p l e ({ frames := 0, cells := 0, slots := 0, locals := 0 } : Room) s m #[(.int p0)] below meth c T0 locs 0 0 → T0.heap = h0 → Fr n0 locs → f2_162 = f2_0 p0 → own_Goes p e below s (own_Pure ((.int (f2_0 p0))) h0 n0) ({ frames := 0, cells := 0, slots := 0, locals := 0 } : Room).cells ({ frames := 0, cells := 0, slots := 0, locals := 0 } : Room).slots T0 (mkF m 162 #[.val (.int x0)] []) := by
    intro T0 locs x0   X0 e0 N0 hf
    refine own_step (T' := T0) (g' := (mkF m 163 #[.val (.int x0)] [(.int (1 : Int32))])) (fun _ k => XS.iconst X0.here hx rfl (hb hby d2_162) k) ?_
    exact own_ret X0 Bd (v := some (.int ((1 : Int32) &&& 1))) (fun q => by rw [Bd.returns] at q; cases q) (fun fs q => retN X0 hx (t := .boolean) Bd.returns (by simp) (hb hby d2_163) q) (show own_Pure ((.int (f2_0 p0))) h0 n0 _ _ _ from ⟨congrArg (fun z => some (Value.int z)) hf, N0, e0⟩) (by decide) (by decide)
  have B156 : ∀ (T0 : State) (locs : List Loc) (x0 : Int32), Stand p l e ({ frames := 0, cells := 0, slots := 0, locals := 0 } : Room) s m #[(.int p0)] below meth c T0 locs 0 0 → T0.heap = h0 → Fr n0 locs → f2_156 x0 = f2_0 p0 → own_Goes p e below s (own_Pure ((.int (f2_0 p0))) h0 n0) ({ frames := 0, cells := 0, slots := 0, locals := 0 } : Room).cells ({ frames := 0, cells := 0, slots := 0, locals := 0 } : Room).slots T0 (mkF m 156 #[.val (.int x0)] []) := by
    intro T0 locs x0   X0 e0 N0 hf
    refine own_step (T' := T0) (g' := (mkF m 157 #[.val (.int x0)] [(.int x0)])) (fun _ k => XS.iloadN X0.here hx rfl (hb hby d2_156) rfl k) ?_
    refine own_step (T' := T0) (g' := (mkF m 159 #[.val (.int x0)] [(.int (63743 : Int32)), (.int x0)])) (fun _ k => X0.ldcInt hx hown (mvT hZ (hw _ (List.mem_of_getElem? (i := 25) rfl))) (g := (mkF m 157 #[.val (.int x0)] [(.int x0)])) rfl (hb hby d2_157) _ k) ?_
    by_cases hc : (63743 : Int32) < x0
    · refine own_step (T' := T0) (g' := (mkF m 164 #[.val (.int x0)] [])) (fun _ k => XS.icmpYes X0.here hx rfl (pc0 := 159) (pc' := 164) rfl (hb hby d2_159) rfl (tlt hc).2.2.1 (by decide) (by decide) k) ?_
      exact B164 T0 _ x0   X0 e0 N0 ((if_pos hc).symm.trans hf)
    · refine own_step (T' := T0) (g' := (mkF m 162 #[.val (.int x0)] [])) (fun _ k => XS.icmpNo X0.here hx rfl (hb hby d2_159) rfl (flt hc).2.2.1 k) ?_
      exact B162 T0 _ x0   X0 e0 N0 ((if_neg hc).symm.trans hf)
  have B150 : ∀ (T0 : State) (locs : List Loc) (x0 : Int32), Stand p l e ({ frames := 0, cells := 0, slots := 0, locals := 0 } : Room) s m #[(.int p0)] below meth c T0 locs 0 0 → T0.heap = h0 → Fr n0 locs → f2_150 x0 = f2_0 p0 → own_Goes p e below s (own_Pure ((.int (f2_0 p0))) h0 n0) ({ frames := 0, cells := 0, slots := 0, locals := 0 } : Room).cells ({ frames := 0, cells := 0, slots := 0, locals := 0 } : Room).slots T0 (mkF m 150 #[.val (.int x0)] []) := by
    intro T0 locs x0   X0 e0 N0 hf
    refine own_step (T' := T0) (g' := (mkF m 151 #[.val (.int x0)] [(.int x0)])) (fun _ k => XS.iloadN X0.here hx rfl (hb hby d2_150) rfl k) ?_
    refine own_step (T' := T0) (g' := (mkF m 153 #[.val (.int x0)] [(.int (55296 : Int32)), (.int x0)])) (fun _ k => X0.ldcInt hx hown (mvT hZ (hw _ (List.mem_of_getElem? (i := 24) rfl))) (g := (mkF m 151 #[.val (.int x0)] [(.int x0)])) rfl (hb hby d2_151) _ k) ?_
    by_cases hc : x0 < (55296 : Int32)
    · refine own_step (T' := T0) (g' := (mkF m 164 #[.val (.int x0)] [])) (fun _ k => XS.icmpYes X0.here hx rfl (pc0 := 153) (pc' := 164) rfl (hb hby d2_153) rfl (tlt hc).1 (by decide) (by decide) k) ?_
      exact B164 T0 _ x0   X0 e0 N0 ((if_pos hc).symm.trans hf)
    · refine own_step (T' := T0) (g' := (mkF m 156 #[.val (.int x0)] [])) (fun _ k => XS.icmpNo X0.here hx rfl (hb hby d2_153) rfl (flt hc).1 k) ?_
      exact B156 T0 _ x0   X0 e0 N0 ((if_neg hc).symm.trans hf)
  have B148 : ∀ (T0 : State) (locs : List Loc) (x0 : Int32), Stand p l e ({ frames := 0, cells := 0, slots := 0, locals := 0 } : Room) s m #[(.int p0)] below meth c T0 locs 0 0 → T0.heap = h0 → Fr n0 locs → f2_148 = f2_0 p0 → own_Goes p e below s (own_Pure ((.int (f2_0 p0))) h0 n0) ({ frames := 0, cells := 0, slots := 0, locals := 0 } : Room).cells ({ frames := 0, cells := 0, slots := 0, locals := 0 } : Room).slots T0 (mkF m 148 #[.val (.int x0)] []) := by
    intro T0 locs x0   X0 e0 N0 hf
    refine own_step (T' := T0) (g' := (mkF m 149 #[.val (.int x0)] [(.int (1 : Int32))])) (fun _ k => XS.iconst X0.here hx rfl (hb hby d2_148) k) ?_
    exact own_ret X0 Bd (v := some (.int ((1 : Int32) &&& 1))) (fun q => by rw [Bd.returns] at q; cases q) (fun fs q => retN X0 hx (t := .boolean) Bd.returns (by simp) (hb hby d2_149) q) (show own_Pure ((.int (f2_0 p0))) h0 n0 _ _ _ from ⟨congrArg (fun z => some (Value.int z)) hf, N0, e0⟩) (by decide) (by decide)
  have B141 : ∀ (T0 : State) (locs : List Loc) (x0 : Int32), Stand p l e ({ frames := 0, cells := 0, slots := 0, locals := 0 } : Room) s m #[(.int p0)] below meth c T0 locs 0 0 → T0.heap = h0 → Fr n0 locs → f2_141 x0 = f2_0 p0 → own_Goes p e below s (own_Pure ((.int (f2_0 p0))) h0 n0) ({ frames := 0, cells := 0, slots := 0, locals := 0 } : Room).cells ({ frames := 0, cells := 0, slots := 0, locals := 0 } : Room).slots T0 (mkF m 141 #[.val (.int x0)] []) := by
    intro T0 locs x0   X0 e0 N0 hf
    refine own_step (T' := T0) (g' := (mkF m 142 #[.val (.int x0)] [(.int x0)])) (fun _ k => XS.iloadN X0.here hx rfl (hb hby d2_141) rfl k) ?_
    refine own_step (T' := T0) (g' := (mkF m 145 #[.val (.int x0)] [(.int (12288 : Int32)), (.int x0)])) (fun _ k => XS.sipush X0.here hx rfl (hb hby d2_142) k) ?_
    by_cases hc : (12288 : Int32) < x0
    · refine own_step (T' := T0) (g' := (mkF m 150 #[.val (.int x0)] [])) (fun _ k => XS.icmpYes X0.here hx rfl (pc0 := 145) (pc' := 150) rfl (hb hby d2_145) rfl (tlt hc).2.2.1 (by decide) (by decide) k) ?_
      exact B150 T0 _ x0   X0 e0 N0 ((if_pos hc).symm.trans hf)
    · refine own_step (T' := T0) (g' := (mkF m 148 #[.val (.int x0)] [])) (fun _ k => XS.icmpNo X0.here hx rfl (hb hby d2_145) rfl (flt hc).2.2.1 k) ?_
      exact B148 T0 _ x0   X0 e0 N0 ((if_neg hc).symm.trans hf)
  have B134 : ∀ (T0 : State) (locs : List Loc) (x0 : Int32), Stand p l e ({ frames := 0, cells := 0, slots := 0, locals := 0 } : Room) s m #[(.int p0)] below meth c T0 locs 0 0 → T0.heap = h0 → Fr n0 locs → f2_134 x0 = f2_0 p0 → own_Goes p e below s (own_Pure ((.int (f2_0 p0))) h0 n0) ({ frames := 0, cells := 0, slots := 0, locals := 0 } : Room).cells ({ frames := 0, cells := 0, slots := 0, locals := 0 } : Room).slots T0 (mkF m 134 #[.val (.int x0)] []) := by
    intro T0 locs x0   X0 e0 N0 hf
    refine own_step (T' := T0) (g' := (mkF m 135 #[.val (.int x0)] [(.int x0)])) (fun _ k => XS.iloadN X0.here hx rfl (hb hby d2_134) rfl k) ?_
    refine own_step (T' := T0) (g' := (mkF m 138 #[.val (.int x0)] [(.int (12272 : Int32)), (.int x0)])) (fun _ k => XS.sipush X0.here hx rfl (hb hby d2_135) k) ?_
    by_cases hc : x0 < (12272 : Int32)
    · refine own_step (T' := T0) (g' := (mkF m 150 #[.val (.int x0)] [])) (fun _ k => XS.icmpYes X0.here hx rfl (pc0 := 138) (pc' := 150) rfl (hb hby d2_138) rfl (tlt hc).1 (by decide) (by decide) k) ?_
      exact B150 T0 _ x0   X0 e0 N0 ((if_pos hc).symm.trans hf)
    · refine own_step (T' := T0) (g' := (mkF m 141 #[.val (.int x0)] [])) (fun _ k => XS.icmpNo X0.here hx rfl (hb hby d2_138) rfl (flt hc).1 k) ?_
      exact B141 T0 _ x0   X0 e0 N0 ((if_neg hc).symm.trans hf)
  have B132 : ∀ (T0 : State) (locs : List Loc) (x0 : Int32), Stand p l e ({ frames := 0, cells := 0, slots := 0, locals := 0 } : Room) s m #[(.int p0)] below meth c T0 locs 0 0 → T0.heap = h0 → Fr n0 locs → f2_132 = f2_0 p0 → own_Goes p e below s (own_Pure ((.int (f2_0 p0))) h0 n0) ({ frames := 0, cells := 0, slots := 0, locals := 0 } : Room).cells ({ frames := 0, cells := 0, slots := 0, locals := 0 } : Room).slots T0 (mkF m 132 #[.val (.int x0)] []) := by
    intro T0 locs x0   X0 e0 N0 hf
    refine own_step (T' := T0) (g' := (mkF m 133 #[.val (.int x0)] [(.int (1 : Int32))])) (fun _ k => XS.iconst X0.here hx rfl (hb hby d2_132) k) ?_
    exact own_ret X0 Bd (v := some (.int ((1 : Int32) &&& 1))) (fun q => by rw [Bd.returns] at q; cases q) (fun fs q => retN X0 hx (t := .boolean) Bd.returns (by simp) (hb hby d2_133) q) (show own_Pure ((.int (f2_0 p0))) h0 n0 _ _ _ from ⟨congrArg (fun z => some (Value.int z)) hf, N0, e0⟩) (by decide) (by decide)
  have B125 : ∀ (T0 : State) (locs : List Loc) (x0 : Int32), Stand p l e ({ frames := 0, cells := 0, slots := 0, locals := 0 } : Room) s m #[(.int p0)] below meth c T0 locs 0 0 → T0.heap = h0 → Fr n0 locs → f2_125 x0 = f2_0 p0 → own_Goes p e below s (own_Pure ((.int (f2_0 p0))) h0 n0) ({ frames := 0, cells := 0, slots := 0, locals := 0 } : Room).cells ({ frames := 0, cells := 0, slots := 0, locals := 0 } : Room).slots T0 (mkF m 125 #[.val (.int x0)] []) := by
    intro T0 locs x0   X0 e0 N0 hf
    refine own_step (T' := T0) (g' := (mkF m 126 #[.val (.int x0)] [(.int x0)])) (fun _ k => XS.iloadN X0.here hx rfl (hb hby d2_125) rfl k) ?_
    refine own_step (T' := T0) (g' := (mkF m 129 #[.val (.int x0)] [(.int (11263 : Int32)), (.int x0)])) (fun _ k => XS.sipush X0.here hx rfl (hb hby d2_126) k) ?_
    by_cases hc : (11263 : Int32) < x0
    · refine own_step (T' := T0) (g' := (mkF m 134 #[.val (.int x0)] [])) (fun _ k => XS.icmpYes X0.here hx rfl (pc0 := 129) (pc' := 134) rfl (hb hby d2_129) rfl (tlt hc).2.2.1 (by decide) (by decide) k) ?_
      exact B134 T0 _ x0   X0 e0 N0 ((if_pos hc).symm.trans hf)
    · refine own_step (T' := T0) (g' := (mkF m 132 #[.val (.int x0)] [])) (fun _ k => XS.icmpNo X0.here hx rfl (hb hby d2_129) rfl (flt hc).2.2.1 k) ?_
      exact B132 T0 _ x0   X0 e0 N0 ((if_neg hc).symm.trans hf)
  have B118 : ∀ (T0 : State) (locs : List Loc) (x0 : Int32), Stand p l e ({ frames := 0, cells := 0, slots := 0, locals := 0 } : Room) s m #[(.int p0)] below meth c T0 locs 0 0 → T0.heap = h0 → Fr n0 locs → f2_118 x0 = f2_0 p0 → own_Goes p e below s (own_Pure ((.int (f2_0 p0))) h0 n0) ({ frames := 0, cells := 0, slots := 0, locals := 0 } : Room).cells ({ frames := 0, cells := 0, slots := 0, locals := 0 } : Room).slots T0 (mkF m 118 #[.val (.int x0)] []) := by
    intro T0 locs x0   X0 e0 N0 hf
    refine own_step (T' := T0) (g' := (mkF m 119 #[.val (.int x0)] [(.int x0)])) (fun _ k => XS.iloadN X0.here hx rfl (hb hby d2_118) rfl k) ?_
    refine own_step (T' := T0) (g' := (mkF m 122 #[.val (.int x0)] [(.int (8592 : Int32)), (.int x0)])) (fun _ k => XS.sipush X0.here hx rfl (hb hby d2_119) k) ?_
    by_cases hc : x0 < (8592 : Int32)
    · refine own_step (T' := T0) (g' := (mkF m 134 #[.val (.int x0)] [])) (fun _ k => XS.icmpYes X0.here hx rfl (pc0 := 122) (pc' := 134) rfl (hb hby d2_122) rfl (tlt hc).1 (by decide) (by decide) k) ?_
      exact B134 T0 _ x0   X0 e0 N0 ((if_pos hc).symm.trans hf)
    · refine own_step (T' := T0) (g' := (mkF m 125 #[.val (.int x0)] [])) (fun _ k => XS.icmpNo X0.here hx rfl (hb hby d2_122) rfl (flt hc).1 k) ?_
      exact B125 T0 _ x0   X0 e0 N0 ((if_neg hc).symm.trans hf)
  have B116 : ∀ (T0 : State) (locs : List Loc) (x0 : Int32), Stand p l e ({ frames := 0, cells := 0, slots := 0, locals := 0 } : Room) s m #[(.int p0)] below meth c T0 locs 0 0 → T0.heap = h0 → Fr n0 locs → f2_116 = f2_0 p0 → own_Goes p e below s (own_Pure ((.int (f2_0 p0))) h0 n0) ({ frames := 0, cells := 0, slots := 0, locals := 0 } : Room).cells ({ frames := 0, cells := 0, slots := 0, locals := 0 } : Room).slots T0 (mkF m 116 #[.val (.int x0)] []) := by
    intro T0 locs x0   X0 e0 N0 hf
    refine own_step (T' := T0) (g' := (mkF m 117 #[.val (.int x0)] [(.int (1 : Int32))])) (fun _ k => XS.iconst X0.here hx rfl (hb hby d2_116) k) ?_
    exact own_ret X0 Bd (v := some (.int ((1 : Int32) &&& 1))) (fun q => by rw [Bd.returns] at q; cases q) (fun fs q => retN X0 hx (t := .boolean) Bd.returns (by simp) (hb hby d2_117) q) (show own_Pure ((.int (f2_0 p0))) h0 n0 _ _ _ from ⟨congrArg (fun z => some (Value.int z)) hf, N0, e0⟩) (by decide) (by decide)
  have B109 : ∀ (T0 : State) (locs : List Loc) (x0 : Int32), Stand p l e ({ frames := 0, cells := 0, slots := 0, locals := 0 } : Room) s m #[(.int p0)] below meth c T0 locs 0 0 → T0.heap = h0 → Fr n0 locs → f2_109 x0 = f2_0 p0 → own_Goes p e below s (own_Pure ((.int (f2_0 p0))) h0 n0) ({ frames := 0, cells := 0, slots := 0, locals := 0 } : Room).cells ({ frames := 0, cells := 0, slots := 0, locals := 0 } : Room).slots T0 (mkF m 109 #[.val (.int x0)] []) := by
    intro T0 locs x0   X0 e0 N0 hf
    refine own_step (T' := T0) (g' := (mkF m 110 #[.val (.int x0)] [(.int x0)])) (fun _ k => XS.iloadN X0.here hx rfl (hb hby d2_109) rfl k) ?_
    refine own_step (T' := T0) (g' := (mkF m 113 #[.val (.int x0)] [(.int (8303 : Int32)), (.int x0)])) (fun _ k => XS.sipush X0.here hx rfl (hb hby d2_110) k) ?_
    by_cases hc : (8303 : Int32) < x0
    · refine own_step (T' := T0) (g' := (mkF m 118 #[.val (.int x0)] [])) (fun _ k => XS.icmpYes X0.here hx rfl (pc0 := 113) (pc' := 118) rfl (hb hby d2_113) rfl (tlt hc).2.2.1 (by decide) (by decide) k) ?_
      exact B118 T0 _ x0   X0 e0 N0 ((if_pos hc).symm.trans hf)
    · refine own_step (T' := T0) (g' := (mkF m 116 #[.val (.int x0)] [])) (fun _ k => XS.icmpNo X0.here hx rfl (hb hby d2_113) rfl (flt hc).2.2.1 k) ?_
      exact B116 T0 _ x0   X0 e0 N0 ((if_neg hc).symm.trans hf)
  have B102 : ∀ (T0 : State) (locs : List Loc) (x0 : Int32), Stand p l e ({ frames := 0, cells := 0, slots := 0, locals := 0 } : Room) s m #[(.int p0)] below meth c T0 locs 0 0 → T0.heap = h0 → Fr n0 locs → f2_102 x0 = f2_0 p0 → own_Goes p e below s (own_Pure ((.int (f2_0 p0))) h0 n0) ({ frames := 0, cells := 0, slots := 0, locals := 0 } : Room).cells ({ frames := 0, cells := 0, slots := 0, locals := 0 } : Room).slots T0 (mkF m 102 #[.val (.int x0)] []) := by
    intro T0 locs x0   X0 e0 N0 hf
    refine own_step (T' := T0) (g' := (mkF m 103 #[.val (.int x0)] [(.int x0)])) (fun _ k => XS.iloadN X0.here hx rfl (hb hby d2_102) rfl k) ?_
    refine own_step (T' := T0) (g' := (mkF m 106 #[.val (.int x0)] [(.int (8206 : Int32)), (.int x0)])) (fun _ k => XS.sipush X0.here hx rfl (hb hby d2_103) k) ?_
    by_cases hc : x0 < (8206 : Int32)
    · refine own_step (T' := T0) (g' := (mkF m 118 #[.val (.int x0)] [])) (fun _ k => XS.icmpYes X0.here hx rfl (pc0 := 106) (pc' := 118) rfl (hb hby d2_106) rfl (tlt hc).1 (by decide) (by decide) k) ?_
      exact B118 T0 _ x0   X0 e0 N0 ((if_pos hc).symm.trans hf)
    · refine own_step (T' := T0) (g' := (mkF m 109 #[.val (.int x0)] [])) (fun _ k => XS.icmpNo X0.here hx rfl (hb hby d2_106) rfl (flt hc).1 k) ?_
      exact B109 T0 _ x0   X0 e0 N0 ((if_neg hc).symm.trans hf)
  have B100 : ∀ (T0 : State) (locs : List Loc) (x0 : Int32), Stand p l e ({ frames := 0, cells := 0, slots := 0, locals := 0 } : Room) s m #[(.int p0)] below meth c T0 locs 0 0 → T0.heap = h0 → Fr n0 locs → f2_100 = f2_0 p0 → own_Goes p e below s (own_Pure ((.int (f2_0 p0))) h0 n0) ({ frames := 0, cells := 0, slots := 0, locals := 0 } : Room).cells ({ frames := 0, cells := 0, slots := 0, locals := 0 } : Room).slots T0 (mkF m 100 #[.val (.int x0)] []) := by
    intro T0 locs x0   X0 e0 N0 hf
    refine own_step (T' := T0) (g' := (mkF m 101 #[.val (.int x0)] [(.int (1 : Int32))])) (fun _ k => XS.iconst X0.here hx rfl (hb hby d2_100) k) ?_
    exact own_ret X0 Bd (v := some (.int ((1 : Int32) &&& 1))) (fun q => by rw [Bd.returns] at q; cases q) (fun fs q => retN X0 hx (t := .boolean) Bd.returns (by simp) (hb hby d2_101) q) (show own_Pure ((.int (f2_0 p0))) h0 n0 _ _ _ from ⟨congrArg (fun z => some (Value.int z)) hf, N0, e0⟩) (by decide) (by decide)
  have B93 : ∀ (T0 : State) (locs : List Loc) (x0 : Int32), Stand p l e ({ frames := 0, cells := 0, slots := 0, locals := 0 } : Room) s m #[(.int p0)] below meth c T0 locs 0 0 → T0.heap = h0 → Fr n0 locs → f2_93 x0 = f2_0 p0 → own_Goes p e below s (own_Pure ((.int (f2_0 p0))) h0 n0) ({ frames := 0, cells := 0, slots := 0, locals := 0 } : Room).cells ({ frames := 0, cells := 0, slots := 0, locals := 0 } : Room).slots T0 (mkF m 93 #[.val (.int x0)] []) := by
    intro T0 locs x0   X0 e0 N0 hf
    refine own_step (T' := T0) (g' := (mkF m 94 #[.val (.int x0)] [(.int x0)])) (fun _ k => XS.iloadN X0.here hx rfl (hb hby d2_93) rfl k) ?_
    refine own_step (T' := T0) (g' := (mkF m 97 #[.val (.int x0)] [(.int (8203 : Int32)), (.int x0)])) (fun _ k => XS.sipush X0.here hx rfl (hb hby d2_94) k) ?_
    by_cases hc : (8203 : Int32) < x0
    · refine own_step (T' := T0) (g' := (mkF m 102 #[.val (.int x0)] [])) (fun _ k => XS.icmpYes X0.here hx rfl (pc0 := 97) (pc' := 102) rfl (hb hby d2_97) rfl (tlt hc).2.2.1 (by decide) (by decide) k) ?_
      exact B102 T0 _ x0   X0 e0 N0 ((if_pos hc).symm.trans hf)
    · refine own_step (T' := T0) (g' := (mkF m 100 #[.val (.int x0)] [])) (fun _ k => XS.icmpNo X0.here hx rfl (hb hby d2_97) rfl (flt hc).2.2.1 k) ?_
      exact B100 T0 _ x0   X0 e0 N0 ((if_neg hc).symm.trans hf)
  have B86 : ∀ (T0 : State) (locs : List Loc) (x0 : Int32), Stand p l e ({ frames := 0, cells := 0, slots := 0, locals := 0 } : Room) s m #[(.int p0)] below meth c T0 locs 0 0 → T0.heap = h0 → Fr n0 locs → f2_86 x0 = f2_0 p0 → own_Goes p e below s (own_Pure ((.int (f2_0 p0))) h0 n0) ({ frames := 0, cells := 0, slots := 0, locals := 0 } : Room).cells ({ frames := 0, cells := 0, slots := 0, locals := 0 } : Room).slots T0 (mkF m 86 #[.val (.int x0)] []) := by
    intro T0 locs x0   X0 e0 N0 hf
    refine own_step (T' := T0) (g' := (mkF m 87 #[.val (.int x0)] [(.int x0)])) (fun _ k => XS.iloadN X0.here hx rfl (hb hby d2_86) rfl k) ?_
    refine own_step (T' := T0) (g' := (mkF m 90 #[.val (.int x0)] [(.int (8192 : Int32)), (.int x0)])) (fun _ k => XS.sipush X0.here hx rfl (hb hby d2_87) k) ?_
    by_cases hc : x0 < (8192 : Int32)
    · refine own_step (T' := T0) (g' := (mkF m 102 #[.val (.int x0)] [])) (fun _ k => XS.icmpYes X0.here hx rfl (pc0 := 90) (pc' := 102) rfl (hb hby d2_90) rfl (tlt hc).1 (by decide) (by decide) k) ?_
      exact B102 T0 _ x0   X0 e0 N0 ((if_pos hc).symm.trans hf)
    · refine own_step (T' := T0) (g' := (mkF m 93 #[.val (.int x0)] [])) (fun _ k => XS.icmpNo X0.here hx rfl (hb hby d2_90) rfl (flt hc).1 k) ?_
      exact B93 T0 _ x0   X0 e0 N0 ((if_neg hc).symm.trans hf)
  have B84 : ∀ (T0 : State) (locs : List Loc) (x0 : Int32), Stand p l e ({ frames := 0, cells := 0, slots := 0, locals := 0 } : Room) s m #[(.int p0)] below meth c T0 locs 0 0 → T0.heap = h0 → Fr n0 locs → f2_84 = f2_0 p0 → own_Goes p e below s (own_Pure ((.int (f2_0 p0))) h0 n0) ({ frames := 0, cells := 0, slots := 0, locals := 0 } : Room).cells ({ frames := 0, cells := 0, slots := 0, locals := 0 } : Room).slots T0 (mkF m 84 #[.val (.int x0)] []) := by
    intro T0 locs x0   X0 e0 N0 hf
    refine own_step (T' := T0) (g' := (mkF m 85 #[.val (.int x0)] [(.int (1 : Int32))])) (fun _ k => XS.iconst X0.here hx rfl (hb hby d2_84) k) ?_
    exact own_ret X0 Bd (v := some (.int ((1 : Int32) &&& 1))) (fun q => by rw [Bd.returns] at q; cases q) (fun fs q => retN X0 hx (t := .boolean) Bd.returns (by simp) (hb hby d2_85) q) (show own_Pure ((.int (f2_0 p0))) h0 n0 _ _ _ from ⟨congrArg (fun z => some (Value.int z)) hf, N0, e0⟩) (by decide) (by decide)
  have B77 : ∀ (T0 : State) (locs : List Loc) (x0 : Int32), Stand p l e ({ frames := 0, cells := 0, slots := 0, locals := 0 } : Room) s m #[(.int p0)] below meth c T0 locs 0 0 → T0.heap = h0 → Fr n0 locs → f2_77 x0 = f2_0 p0 → own_Goes p e below s (own_Pure ((.int (f2_0 p0))) h0 n0) ({ frames := 0, cells := 0, slots := 0, locals := 0 } : Room).cells ({ frames := 0, cells := 0, slots := 0, locals := 0 } : Room).slots T0 (mkF m 77 #[.val (.int x0)] []) := by
    intro T0 locs x0   X0 e0 N0 hf
    refine own_step (T' := T0) (g' := (mkF m 78 #[.val (.int x0)] [(.int x0)])) (fun _ k => XS.iloadN X0.here hx rfl (hb hby d2_77) rfl k) ?_
    refine own_step (T' := T0) (g' := (mkF m 81 #[.val (.int x0)] [(.int (894 : Int32)), (.int x0)])) (fun _ k => XS.sipush X0.here hx rfl (hb hby d2_78) k) ?_
    by_cases hc : x0 = (894 : Int32)
    · refine own_step (T' := T0) (g' := (mkF m 84 #[.val (.int x0)] [])) (fun _ k => XS.icmpNo X0.here hx rfl (hb hby d2_81) rfl (teq hc).2 k) ?_
      exact B84 T0 _ x0   X0 e0 N0 ((if_pos hc).symm.trans hf)
    · refine own_step (T' := T0) (g' := (mkF m 86 #[.val (.int x0)] [])) (fun _ k => XS.icmpYes X0.here hx rfl (pc0 := 81) (pc' := 86) rfl (hb hby d2_81) rfl (feq hc).2 (by decide) (by decide) k) ?_
      exact B86 T0 _ x0   X0 e0 N0 ((if_neg hc).symm.trans hf)
  have B75 : ∀ (T0 : State) (locs : List Loc) (x0 : Int32), Stand p l e ({ frames := 0, cells := 0, slots := 0, locals := 0 } : Room) s m #[(.int p0)] below meth c T0 locs 0 0 → T0.heap = h0 → Fr n0 locs → f2_75 = f2_0 p0 → own_Goes p e below s (own_Pure ((.int (f2_0 p0))) h0 n0) ({ frames := 0, cells := 0, slots := 0, locals := 0 } : Room).cells ({ frames := 0, cells := 0, slots := 0, locals := 0 } : Room).slots T0 (mkF m 75 #[.val (.int x0)] []) := by
    intro T0 locs x0   X0 e0 N0 hf
    refine own_step (T' := T0) (g' := (mkF m 76 #[.val (.int x0)] [(.int (1 : Int32))])) (fun _ k => XS.iconst X0.here hx rfl (hb hby d2_75) k) ?_
    exact own_ret X0 Bd (v := some (.int ((1 : Int32) &&& 1))) (fun q => by rw [Bd.returns] at q; cases q) (fun fs q => retN X0 hx (t := .boolean) Bd.returns (by simp) (hb hby d2_76) q) (show own_Pure ((.int (f2_0 p0))) h0 n0 _ _ _ from ⟨congrArg (fun z => some (Value.int z)) hf, N0, e0⟩) (by decide) (by decide)
  have B68 : ∀ (T0 : State) (locs : List Loc) (x0 : Int32), Stand p l e ({ frames := 0, cells := 0, slots := 0, locals := 0 } : Room) s m #[(.int p0)] below meth c T0 locs 0 0 → T0.heap = h0 → Fr n0 locs → f2_68 x0 = f2_0 p0 → own_Goes p e below s (own_Pure ((.int (f2_0 p0))) h0 n0) ({ frames := 0, cells := 0, slots := 0, locals := 0 } : Room).cells ({ frames := 0, cells := 0, slots := 0, locals := 0 } : Room).slots T0 (mkF m 68 #[.val (.int x0)] []) := by
    intro T0 locs x0   X0 e0 N0 hf
    refine own_step (T' := T0) (g' := (mkF m 69 #[.val (.int x0)] [(.int x0)])) (fun _ k => XS.iloadN X0.here hx rfl (hb hby d2_68) rfl k) ?_
    refine own_step (T' := T0) (g' := (mkF m 72 #[.val (.int x0)] [(.int (879 : Int32)), (.int x0)])) (fun _ k => XS.sipush X0.here hx rfl (hb hby d2_69) k) ?_
    by_cases hc : (879 : Int32) < x0
    · refine own_step (T' := T0) (g' := (mkF m 77 #[.val (.int x0)] [])) (fun _ k => XS.icmpYes X0.here hx rfl (pc0 := 72) (pc' := 77) rfl (hb hby d2_72) rfl (tlt hc).2.2.1 (by decide) (by decide) k) ?_
      exact B77 T0 _ x0   X0 e0 N0 ((if_pos hc).symm.trans hf)
    · refine own_step (T' := T0) (g' := (mkF m 75 #[.val (.int x0)] [])) (fun _ k => XS.icmpNo X0.here hx rfl (hb hby d2_72) rfl (flt hc).2.2.1 k) ?_
      exact B75 T0 _ x0   X0 e0 N0 ((if_neg hc).symm.trans hf)
  have B61 : ∀ (T0 : State) (locs : List Loc) (x0 : Int32), Stand p l e ({ frames := 0, cells := 0, slots := 0, locals := 0 } : Room) s m #[(.int p0)] below meth c T0 locs 0 0 → T0.heap = h0 → Fr n0 locs → f2_61 x0 = f2_0 p0 → own_Goes p e below s (own_Pure ((.int (f2_0 p0))) h0 n0) ({ frames := 0, cells := 0, slots := 0, locals := 0 } : Room).cells ({ frames := 0, cells := 0, slots := 0, locals := 0 } : Room).slots T0 (mkF m 61 #[.val (.int x0)] []) := by
    intro T0 locs x0   X0 e0 N0 hf
    refine own_step (T' := T0) (g' := (mkF m 62 #[.val (.int x0)] [(.int x0)])) (fun _ k => XS.iloadN X0.here hx rfl (hb hby d2_61) rfl k) ?_
    refine own_step (T' := T0) (g' := (mkF m 65 #[.val (.int x0)] [(.int (768 : Int32)), (.int x0)])) (fun _ k => XS.sipush X0.here hx rfl (hb hby d2_62) k) ?_
    by_cases hc : x0 < (768 : Int32)
    · refine own_step (T' := T0) (g' := (mkF m 77 #[.val (.int x0)] [])) (fun _ k => XS.icmpYes X0.here hx rfl (pc0 := 65) (pc' := 77) rfl (hb hby d2_65) rfl (tlt hc).1 (by decide) (by decide) k) ?_
      exact B77 T0 _ x0   X0 e0 N0 ((if_pos hc).symm.trans hf)
    · refine own_step (T' := T0) (g' := (mkF m 68 #[.val (.int x0)] [])) (fun _ k => XS.icmpNo X0.here hx rfl (hb hby d2_65) rfl (flt hc).1 k) ?_
      exact B68 T0 _ x0   X0 e0 N0 ((if_neg hc).symm.trans hf)
  have B59 : ∀ (T0 : State) (locs : List Loc) (x0 : Int32), Stand p l e ({ frames := 0, cells := 0, slots := 0, locals := 0 } : Room) s m #[(.int p0)] below meth c T0 locs 0 0 → T0.heap = h0 → Fr n0 locs → f2_59 = f2_0 p0 → own_Goes p e below s (own_Pure ((.int (f2_0 p0))) h0 n0) ({ frames := 0, cells := 0, slots := 0, locals := 0 } : Room).cells ({ frames := 0, cells := 0, slots := 0, locals := 0 } : Room).slots T0 (mkF m 59 #[.val (.int x0)] []) := by
    intro T0 locs x0   X0 e0 N0 hf
    refine own_step (T' := T0) (g' := (mkF m 60 #[.val (.int x0)] [(.int (1 : Int32))])) (fun _ k => XS.iconst X0.here hx rfl (hb hby d2_59) k) ?_
    exact own_ret X0 Bd (v := some (.int ((1 : Int32) &&& 1))) (fun q => by rw [Bd.returns] at q; cases q) (fun fs q => retN X0 hx (t := .boolean) Bd.returns (by simp) (hb hby d2_60) q) (show own_Pure ((.int (f2_0 p0))) h0 n0 _ _ _ from ⟨congrArg (fun z => some (Value.int z)) hf, N0, e0⟩) (by decide) (by decide)
  have B52 : ∀ (T0 : State) (locs : List Loc) (x0 : Int32), Stand p l e ({ frames := 0, cells := 0, slots := 0, locals := 0 } : Room) s m #[(.int p0)] below meth c T0 locs 0 0 → T0.heap = h0 → Fr n0 locs → f2_52 x0 = f2_0 p0 → own_Goes p e below s (own_Pure ((.int (f2_0 p0))) h0 n0) ({ frames := 0, cells := 0, slots := 0, locals := 0 } : Room).cells ({ frames := 0, cells := 0, slots := 0, locals := 0 } : Room).slots T0 (mkF m 52 #[.val (.int x0)] []) := by
    intro T0 locs x0   X0 e0 N0 hf
    refine own_step (T' := T0) (g' := (mkF m 53 #[.val (.int x0)] [(.int x0)])) (fun _ k => XS.iloadN X0.here hx rfl (hb hby d2_52) rfl k) ?_
    refine own_step (T' := T0) (g' := (mkF m 56 #[.val (.int x0)] [(.int (247 : Int32)), (.int x0)])) (fun _ k => XS.sipush X0.here hx rfl (hb hby d2_53) k) ?_
    by_cases hc : x0 = (247 : Int32)
    · refine own_step (T' := T0) (g' := (mkF m 59 #[.val (.int x0)] [])) (fun _ k => XS.icmpNo X0.here hx rfl (hb hby d2_56) rfl (teq hc).2 k) ?_
      exact B59 T0 _ x0   X0 e0 N0 ((if_pos hc).symm.trans hf)
    · refine own_step (T' := T0) (g' := (mkF m 61 #[.val (.int x0)] [])) (fun _ k => XS.icmpYes X0.here hx rfl (pc0 := 56) (pc' := 61) rfl (hb hby d2_56) rfl (feq hc).2 (by decide) (by decide) k) ?_
      exact B61 T0 _ x0   X0 e0 N0 ((if_neg hc).symm.trans hf)
  have B45 : ∀ (T0 : State) (locs : List Loc) (x0 : Int32), Stand p l e ({ frames := 0, cells := 0, slots := 0, locals := 0 } : Room) s m #[(.int p0)] below meth c T0 locs 0 0 → T0.heap = h0 → Fr n0 locs → f2_45 x0 = f2_0 p0 → own_Goes p e below s (own_Pure ((.int (f2_0 p0))) h0 n0) ({ frames := 0, cells := 0, slots := 0, locals := 0 } : Room).cells ({ frames := 0, cells := 0, slots := 0, locals := 0 } : Room).slots T0 (mkF m 45 #[.val (.int x0)] []) := by
    intro T0 locs x0   X0 e0 N0 hf
    refine own_step (T' := T0) (g' := (mkF m 46 #[.val (.int x0)] [(.int x0)])) (fun _ k => XS.iloadN X0.here hx rfl (hb hby d2_45) rfl k) ?_
    refine own_step (T' := T0) (g' := (mkF m 49 #[.val (.int x0)] [(.int (215 : Int32)), (.int x0)])) (fun _ k => XS.sipush X0.here hx rfl (hb hby d2_46) k) ?_
    by_cases hc : x0 = (215 : Int32)
    · refine own_step (T' := T0) (g' := (mkF m 59 #[.val (.int x0)] [])) (fun _ k => XS.icmpYes X0.here hx rfl (pc0 := 49) (pc' := 59) rfl (hb hby d2_49) rfl (teq hc).1 (by decide) (by decide) k) ?_
      exact B59 T0 _ x0   X0 e0 N0 ((if_pos hc).symm.trans hf)
    · refine own_step (T' := T0) (g' := (mkF m 52 #[.val (.int x0)] [])) (fun _ k => XS.icmpNo X0.here hx rfl (hb hby d2_49) rfl (feq hc).1 k) ?_
      exact B52 T0 _ x0   X0 e0 N0 ((if_neg hc).symm.trans hf)
  have B43 : ∀ (T0 : State) (locs : List Loc) (x0 : Int32), Stand p l e ({ frames := 0, cells := 0, slots := 0, locals := 0 } : Room) s m #[(.int p0)] below meth c T0 locs 0 0 → T0.heap = h0 → Fr n0 locs → f2_43 = f2_0 p0 → own_Goes p e below s (own_Pure ((.int (f2_0 p0))) h0 n0) ({ frames := 0, cells := 0, slots := 0, locals := 0 } : Room).cells ({ frames := 0, cells := 0, slots := 0, locals := 0 } : Room).slots T0 (mkF m 43 #[.val (.int x0)] []) := by
    intro T0 locs x0   X0 e0 N0 hf
    refine own_step (T' := T0) (g' := (mkF m 44 #[.val (.int x0)] [(.int (1 : Int32))])) (fun _ k => XS.iconst X0.here hx rfl (hb hby d2_43) k) ?_
    exact own_ret X0 Bd (v := some (.int ((1 : Int32) &&& 1))) (fun q => by rw [Bd.returns] at q; cases q) (fun fs q => retN X0 hx (t := .boolean) Bd.returns (by simp) (hb hby d2_44) q) (show own_Pure ((.int (f2_0 p0))) h0 n0 _ _ _ from ⟨congrArg (fun z => some (Value.int z)) hf, N0, e0⟩) (by decide) (by decide)
  have B36 : ∀ (T0 : State) (locs : List Loc) (x0 : Int32), Stand p l e ({ frames := 0, cells := 0, slots := 0, locals := 0 } : Room) s m #[(.int p0)] below meth c T0 locs 0 0 → T0.heap = h0 → Fr n0 locs → f2_36 x0 = f2_0 p0 → own_Goes p e below s (own_Pure ((.int (f2_0 p0))) h0 n0) ({ frames := 0, cells := 0, slots := 0, locals := 0 } : Room).cells ({ frames := 0, cells := 0, slots := 0, locals := 0 } : Room).slots T0 (mkF m 36 #[.val (.int x0)] []) := by
    intro T0 locs x0   X0 e0 N0 hf
    refine own_step (T' := T0) (g' := (mkF m 37 #[.val (.int x0)] [(.int x0)])) (fun _ k => XS.iloadN X0.here hx rfl (hb hby d2_36) rfl k) ?_
    refine own_step (T' := T0) (g' := (mkF m 40 #[.val (.int x0)] [(.int (191 : Int32)), (.int x0)])) (fun _ k => XS.sipush X0.here hx rfl (hb hby d2_37) k) ?_
    by_cases hc : (191 : Int32) < x0
    · refine own_step (T' := T0) (g' := (mkF m 45 #[.val (.int x0)] [])) (fun _ k => XS.icmpYes X0.here hx rfl (pc0 := 40) (pc' := 45) rfl (hb hby d2_40) rfl (tlt hc).2.2.1 (by decide) (by decide) k) ?_
      exact B45 T0 _ x0   X0 e0 N0 ((if_pos hc).symm.trans hf)
    · refine own_step (T' := T0) (g' := (mkF m 43 #[.val (.int x0)] [])) (fun _ k => XS.icmpNo X0.here hx rfl (hb hby d2_40) rfl (flt hc).2.2.1 k) ?_
      exact B43 T0 _ x0   X0 e0 N0 ((if_neg hc).symm.trans hf)
  have B30 : ∀ (T0 : State) (locs : List Loc) (x0 : Int32), Stand p l e ({ frames := 0, cells := 0, slots := 0, locals := 0 } : Room) s m #[(.int p0)] below meth c T0 locs 0 0 → T0.heap = h0 → Fr n0 locs → f2_30 x0 = f2_0 p0 → own_Goes p e below s (own_Pure ((.int (f2_0 p0))) h0 n0) ({ frames := 0, cells := 0, slots := 0, locals := 0 } : Room).cells ({ frames := 0, cells := 0, slots := 0, locals := 0 } : Room).slots T0 (mkF m 30 #[.val (.int x0)] []) := by
    intro T0 locs x0   X0 e0 N0 hf
    refine own_step (T' := T0) (g' := (mkF m 31 #[.val (.int x0)] [(.int x0)])) (fun _ k => XS.iloadN X0.here hx rfl (hb hby d2_30) rfl k) ?_
    refine own_step (T' := T0) (g' := (mkF m 33 #[.val (.int x0)] [(.int (123 : Int32)), (.int x0)])) (fun _ k => XS.bipush X0.here hx rfl (hb hby d2_31) k) ?_
    by_cases hc : x0 < (123 : Int32)
    · refine own_step (T' := T0) (g' := (mkF m 45 #[.val (.int x0)] [])) (fun _ k => XS.icmpYes X0.here hx rfl (pc0 := 33) (pc' := 45) rfl (hb hby d2_33) rfl (tlt hc).1 (by decide) (by decide) k) ?_
      exact B45 T0 _ x0   X0 e0 N0 ((if_pos hc).symm.trans hf)
    · refine own_step (T' := T0) (g' := (mkF m 36 #[.val (.int x0)] [])) (fun _ k => XS.icmpNo X0.here hx rfl (hb hby d2_33) rfl (flt hc).1 k) ?_
      exact B36 T0 _ x0   X0 e0 N0 ((if_neg hc).symm.trans hf)
  have B28 : ∀ (T0 : State) (locs : List Loc) (x0 : Int32), Stand p l e ({ frames := 0, cells := 0, slots := 0, locals := 0 } : Room) s m #[(.int p0)] below meth c T0 locs 0 0 → T0.heap = h0 → Fr n0 locs → f2_28 = f2_0 p0 → own_Goes p e below s (own_Pure ((.int (f2_0 p0))) h0 n0) ({ frames := 0, cells := 0, slots := 0, locals := 0 } : Room).cells ({ frames := 0, cells := 0, slots := 0, locals := 0 } : Room).slots T0 (mkF m 28 #[.val (.int x0)] []) := by
    intro T0 locs x0   X0 e0 N0 hf
    refine own_step (T' := T0) (g' := (mkF m 29 #[.val (.int x0)] [(.int (1 : Int32))])) (fun _ k => XS.iconst X0.here hx rfl (hb hby d2_28) k) ?_
    exact own_ret X0 Bd (v := some (.int ((1 : Int32) &&& 1))) (fun q => by rw [Bd.returns] at q; cases q) (fun fs q => retN X0 hx (t := .boolean) Bd.returns (by simp) (hb hby d2_29) q) (show own_Pure ((.int (f2_0 p0))) h0 n0 _ _ _ from ⟨congrArg (fun z => some (Value.int z)) hf, N0, e0⟩) (by decide) (by decide)
  have B22 : ∀ (T0 : State) (locs : List Loc) (x0 : Int32), Stand p l e ({ frames := 0, cells := 0, slots := 0, locals := 0 } : Room) s m #[(.int p0)] below meth c T0 locs 0 0 → T0.heap = h0 → Fr n0 locs → f2_22 x0 = f2_0 p0 → own_Goes p e below s (own_Pure ((.int (f2_0 p0))) h0 n0) ({ frames := 0, cells := 0, slots := 0, locals := 0 } : Room).cells ({ frames := 0, cells := 0, slots := 0, locals := 0 } : Room).slots T0 (mkF m 22 #[.val (.int x0)] []) := by
    intro T0 locs x0   X0 e0 N0 hf
    refine own_step (T' := T0) (g' := (mkF m 23 #[.val (.int x0)] [(.int x0)])) (fun _ k => XS.iloadN X0.here hx rfl (hb hby d2_22) rfl k) ?_
    refine own_step (T' := T0) (g' := (mkF m 25 #[.val (.int x0)] [(.int (96 : Int32)), (.int x0)])) (fun _ k => XS.bipush X0.here hx rfl (hb hby d2_23) k) ?_
    by_cases hc : (96 : Int32) < x0
    · refine own_step (T' := T0) (g' := (mkF m 30 #[.val (.int x0)] [])) (fun _ k => XS.icmpYes X0.here hx rfl (pc0 := 25) (pc' := 30) rfl (hb hby d2_25) rfl (tlt hc).2.2.1 (by decide) (by decide) k) ?_
      exact B30 T0 _ x0   X0 e0 N0 ((if_pos hc).symm.trans hf)
    · refine own_step (T' := T0) (g' := (mkF m 28 #[.val (.int x0)] [])) (fun _ k => XS.icmpNo X0.here hx rfl (hb hby d2_25) rfl (flt hc).2.2.1 k) ?_
      exact B28 T0 _ x0   X0 e0 N0 ((if_neg hc).symm.trans hf)
  have B16 : ∀ (T0 : State) (locs : List Loc) (x0 : Int32), Stand p l e ({ frames := 0, cells := 0, slots := 0, locals := 0 } : Room) s m #[(.int p0)] below meth c T0 locs 0 0 → T0.heap = h0 → Fr n0 locs → f2_16 x0 = f2_0 p0 → own_Goes p e below s (own_Pure ((.int (f2_0 p0))) h0 n0) ({ frames := 0, cells := 0, slots := 0, locals := 0 } : Room).cells ({ frames := 0, cells := 0, slots := 0, locals := 0 } : Room).slots T0 (mkF m 16 #[.val (.int x0)] []) := by
    intro T0 locs x0   X0 e0 N0 hf
    refine own_step (T' := T0) (g' := (mkF m 17 #[.val (.int x0)] [(.int x0)])) (fun _ k => XS.iloadN X0.here hx rfl (hb hby d2_16) rfl k) ?_
    refine own_step (T' := T0) (g' := (mkF m 19 #[.val (.int x0)] [(.int (91 : Int32)), (.int x0)])) (fun _ k => XS.bipush X0.here hx rfl (hb hby d2_17) k) ?_
    by_cases hc : x0 < (91 : Int32)
    · refine own_step (T' := T0) (g' := (mkF m 30 #[.val (.int x0)] [])) (fun _ k => XS.icmpYes X0.here hx rfl (pc0 := 19) (pc' := 30) rfl (hb hby d2_19) rfl (tlt hc).1 (by decide) (by decide) k) ?_
      exact B30 T0 _ x0   X0 e0 N0 ((if_pos hc).symm.trans hf)
    · refine own_step (T' := T0) (g' := (mkF m 22 #[.val (.int x0)] [])) (fun _ k => XS.icmpNo X0.here hx rfl (hb hby d2_19) rfl (flt hc).1 k) ?_
      exact B22 T0 _ x0   X0 e0 N0 ((if_neg hc).symm.trans hf)
  have B14 : ∀ (T0 : State) (locs : List Loc) (x0 : Int32), Stand p l e ({ frames := 0, cells := 0, slots := 0, locals := 0 } : Room) s m #[(.int p0)] below meth c T0 locs 0 0 → T0.heap = h0 → Fr n0 locs → f2_14 = f2_0 p0 → own_Goes p e below s (own_Pure ((.int (f2_0 p0))) h0 n0) ({ frames := 0, cells := 0, slots := 0, locals := 0 } : Room).cells ({ frames := 0, cells := 0, slots := 0, locals := 0 } : Room).slots T0 (mkF m 14 #[.val (.int x0)] []) := by
    intro T0 locs x0   X0 e0 N0 hf
    refine own_step (T' := T0) (g' := (mkF m 15 #[.val (.int x0)] [(.int (1 : Int32))])) (fun _ k => XS.iconst X0.here hx rfl (hb hby d2_14) k) ?_
    exact own_ret X0 Bd (v := some (.int ((1 : Int32) &&& 1))) (fun q => by rw [Bd.returns] at q; cases q) (fun fs q => retN X0 hx (t := .boolean) Bd.returns (by simp) (hb hby d2_15) q) (show own_Pure ((.int (f2_0 p0))) h0 n0 _ _ _ from ⟨congrArg (fun z => some (Value.int z)) hf, N0, e0⟩) (by decide) (by decide)
  have B8 : ∀ (T0 : State) (locs : List Loc) (x0 : Int32), Stand p l e ({ frames := 0, cells := 0, slots := 0, locals := 0 } : Room) s m #[(.int p0)] below meth c T0 locs 0 0 → T0.heap = h0 → Fr n0 locs → f2_8 x0 = f2_0 p0 → own_Goes p e below s (own_Pure ((.int (f2_0 p0))) h0 n0) ({ frames := 0, cells := 0, slots := 0, locals := 0 } : Room).cells ({ frames := 0, cells := 0, slots := 0, locals := 0 } : Room).slots T0 (mkF m 8 #[.val (.int x0)] []) := by
    intro T0 locs x0   X0 e0 N0 hf
    refine own_step (T' := T0) (g' := (mkF m 9 #[.val (.int x0)] [(.int x0)])) (fun _ k => XS.iloadN X0.here hx rfl (hb hby d2_8) rfl k) ?_
    refine own_step (T' := T0) (g' := (mkF m 11 #[.val (.int x0)] [(.int (983039 : Int32)), (.int x0)])) (fun _ k => X0.ldcInt hx hown (mvT hZ (hw _ (List.mem_of_getElem? (i := 7) rfl))) (g := (mkF m 9 #[.val (.int x0)] [(.int x0)])) rfl (hb hby d2_9) _ k) ?_
    by_cases hc : (983039 : Int32) < x0
    · refine own_step (T' := T0) (g' := (mkF m 14 #[.val (.int x0)] [])) (fun _ k => XS.icmpNo X0.here hx rfl (hb hby d2_11) rfl (tlt hc).2.2.2 k) ?_
      exact B14 T0 _ x0   X0 e0 N0 ((if_pos hc).symm.trans hf)
    · refine own_step (T' := T0) (g' := (mkF m 16 #[.val (.int x0)] [])) (fun _ k => XS.icmpYes X0.here hx rfl (pc0 := 11) (pc' := 16) rfl (hb hby d2_11) rfl (flt hc).2.2.2 (by decide) (by decide) k) ?_
      exact B16 T0 _ x0   X0 e0 N0 ((if_neg hc).symm.trans hf)
  have B6 : ∀ (T0 : State) (locs : List Loc) (x0 : Int32), Stand p l e ({ frames := 0, cells := 0, slots := 0, locals := 0 } : Room) s m #[(.int p0)] below meth c T0 locs 0 0 → T0.heap = h0 → Fr n0 locs → f2_6 = f2_0 p0 → own_Goes p e below s (own_Pure ((.int (f2_0 p0))) h0 n0) ({ frames := 0, cells := 0, slots := 0, locals := 0 } : Room).cells ({ frames := 0, cells := 0, slots := 0, locals := 0 } : Room).slots T0 (mkF m 6 #[.val (.int x0)] []) := by
    intro T0 locs x0   X0 e0 N0 hf
    refine own_step (T' := T0) (g' := (mkF m 7 #[.val (.int x0)] [(.int (1 : Int32))])) (fun _ k => XS.iconst X0.here hx rfl (hb hby d2_6) k) ?_
    exact own_ret X0 Bd (v := some (.int ((1 : Int32) &&& 1))) (fun q => by rw [Bd.returns] at q; cases q) (fun fs q => retN X0 hx (t := .boolean) Bd.returns (by simp) (hb hby d2_7) q) (show own_Pure ((.int (f2_0 p0))) h0 n0 _ _ _ from ⟨congrArg (fun z => some (Value.int z)) hf, N0, e0⟩) (by decide) (by decide)
  have B0 : ∀ (T0 : State) (locs : List Loc) (x0 : Int32), Stand p l e ({ frames := 0, cells := 0, slots := 0, locals := 0 } : Room) s m #[(.int p0)] below meth c T0 locs 0 0 → T0.heap = h0 → Fr n0 locs → f2_0 x0 = f2_0 p0 → own_Goes p e below s (own_Pure ((.int (f2_0 p0))) h0 n0) ({ frames := 0, cells := 0, slots := 0, locals := 0 } : Room).cells ({ frames := 0, cells := 0, slots := 0, locals := 0 } : Room).slots T0 (mkF m 0 #[.val (.int x0)] []) := by
    intro T0 locs x0   X0 e0 N0 hf
    refine own_step (T' := T0) (g' := (mkF m 1 #[.val (.int x0)] [(.int x0)])) (fun _ k => XS.iloadN X0.here hx rfl (hb hby d2_0) rfl k) ?_
    refine own_step (T' := T0) (g' := (mkF m 3 #[.val (.int x0)] [(.int (65 : Int32)), (.int x0)])) (fun _ k => XS.bipush X0.here hx rfl (hb hby d2_1) k) ?_
    by_cases hc : x0 < (65 : Int32)
    · refine own_step (T' := T0) (g' := (mkF m 6 #[.val (.int x0)] [])) (fun _ k => XS.icmpNo X0.here hx rfl (hb hby d2_3) rfl (tlt hc).2.1 k) ?_
      exact B6 T0 _ x0   X0 e0 N0 ((if_pos hc).symm.trans hf)
    · refine own_step (T' := T0) (g' := (mkF m 8 #[.val (.int x0)] [])) (fun _ k => XS.icmpYes X0.here hx rfl (pc0 := 3) (pc' := 8) rfl (hb hby d2_3) rfl (flt hc).2.1 (by decide) (by decide) k) ?_
      exact B8 T0 _ x0   X0 e0 N0 ((if_neg hc).symm.trans hf)
  have hB := B0 s₁ [] p0  X00 e00 (Fr.nil n0) rfl
  obtain ⟨s₂, o, q1, q2, q3, v, L, q4, q5, q6⟩ := hB
  exact ⟨s₂, o, castTop (ef_2 m p0) q1, q2, q3, v, L, q4, q5, q6⟩
set_option maxRecDepth 65536 in
set_option maxHeartbeats 40000000 in
theorem rm0 (l : Launch) (Z : State) (a0 : Array Value) (hw : ∀ d ∈ tables_1, d.before a0 Z = true) (ws : List Jvm.Cond) (p0 : Int32) (p1 : Int32) (p2 : Int32) (h0 : Heap) (n0 : Nat) (Z0 : n0 ≤ h0.size) (hlaw : f0_0 p0 p1 p2 = 1) :
    MetFree l x (head1 (Jvm.Cond.code x code maxLocals ret :: ws) room_1) (fun a U => a = #[(.int p0), (.int p1), (.int p2)] ∧ Z.Warmed39 U.vm ∧ U.heap = h0) (fun _ _ _ _ _ => True) (fun _ U o U' => ∃ v L, o = .returned v ∧ own_Law n0 v U'.heap L ∧ FrameEnd U o U' L 16 128) := by
  refine MetFree.of_bodySF (plainFor_of_name pn_0) hisR ?_
  intro p e s m args below meth c s₁ Bd hml0 hP hK
  obtain ⟨rfl, hZ, hh0⟩ := hP
  have hx := Bd.exec
  have hby := Bd.bytes
  have hml : c.maxLocals = 7 := hml0
  have hown : s.vm.findClass "com/example/graphwright/graphwright/model/TerminalsIsPnCharsBasePinLaw" = some m.cls := findClass_of_methodNamed Bd.named
  have X00 : Stand p l e room_1 s m #[(.int p0), (.int p1), (.int p2)] below meth c s₁ [] 0 0 := Stand.of_body Bd
  have e00 : s₁.heap = h0 := by rw [← hh0, Bd.state]; rfl
  have B251 : ∀ (T0 : State) (locs : List Loc) (x0 : Int32) (x1 : Int32) (x2 : Int32) (x3 : Addr) (x4 : Int32) (s5 : Slot) (s6 : Slot) (t0 : Int32) (hh : Heap), n0 ≤ hh.size → ∀ (k_x3 : ClassId), Arv Z hh x3 k_x3 .int (28 : Int32) [(.int (65 : Int32)), (.int (90 : Int32)), (.int (97 : Int32)), (.int (122 : Int32)), (.int (192 : Int32)), (.int (214 : Int32)), (.int (216 : Int32)), (.int (246 : Int32)), (.int (248 : Int32)), (.int (767 : Int32)), (.int (880 : Int32)), (.int (893 : Int32)), (.int (895 : Int32)), (.int (8191 : Int32)), (.int (8204 : Int32)), (.int (8205 : Int32)), (.int (8304 : Int32)), (.int (8591 : Int32)), (.int (11264 : Int32)), (.int (12271 : Int32)), (.int (12289 : Int32)), (.int (55295 : Int32)), (.int (63744 : Int32)), (.int (64975 : Int32)), (.int (65008 : Int32)), (.int (65533 : Int32)), (.int (65536 : Int32)), (.int (983039 : Int32))] (.int (0 : Int32)) → Stand p l e room_1 s m #[(.int p0), (.int p1), (.int p2)] below meth c T0 locs 1 28 → T0.heap = hh → Fr n0 locs → f0_251 t0 = 1 → own_Goes p e below s (own_Law n0) 16 128 T0 (mkF m 251 #[.val (.int x0), .val (.int x1), .val (.int x2), .val (.ref x3), .val (.int x4), s5, s6] [(.int t0)]) := by
    intro T0 locs x0 x1 x2 x3 x4 s5 s6 t0 hh Zh k_x3 V_x3 X0 e0 N0 hf
    exact own_ret X0 Bd (v := some (.int (t0 &&& 1))) (fun q => by rw [Bd.returns] at q; cases q) (fun fs q => retN X0 hx (t := .boolean) Bd.returns (by simp) (hb hby at_251) q) (show own_Law n0 _ _ _ from ⟨congrArg (fun z => some (Value.int z)) hf, N0⟩) (by decide) (by decide)
  have B250 : ∀ (T0 : State) (locs : List Loc) (x0 : Int32) (x1 : Int32) (x2 : Int32) (x3 : Addr) (x4 : Int32) (s5 : Slot) (s6 : Slot) (hh : Heap), n0 ≤ hh.size → ∀ (k_x3 : ClassId), Arv Z hh x3 k_x3 .int (28 : Int32) [(.int (65 : Int32)), (.int (90 : Int32)), (.int (97 : Int32)), (.int (122 : Int32)), (.int (192 : Int32)), (.int (214 : Int32)), (.int (216 : Int32)), (.int (246 : Int32)), (.int (248 : Int32)), (.int (767 : Int32)), (.int (880 : Int32)), (.int (893 : Int32)), (.int (895 : Int32)), (.int (8191 : Int32)), (.int (8204 : Int32)), (.int (8205 : Int32)), (.int (8304 : Int32)), (.int (8591 : Int32)), (.int (11264 : Int32)), (.int (12271 : Int32)), (.int (12289 : Int32)), (.int (55295 : Int32)), (.int (63744 : Int32)), (.int (64975 : Int32)), (.int (65008 : Int32)), (.int (65533 : Int32)), (.int (65536 : Int32)), (.int (983039 : Int32))] (.int (0 : Int32)) → Stand p l e room_1 s m #[(.int p0), (.int p1), (.int p2)] below meth c T0 locs 1 28 → T0.heap = hh → Fr n0 locs → f0_250 = 1 → own_Goes p e below s (own_Law n0) 16 128 T0 (mkF m 250 #[.val (.int x0), .val (.int x1), .val (.int x2), .val (.ref x3), .val (.int x4), s5, s6] []) := by
    intro T0 locs x0 x1 x2 x3 x4 s5 s6 hh Zh k_x3 V_x3 X0 e0 N0 hf
    refine own_step (T' := T0) (g' := (mkF m 251 #[.val (.int x0), .val (.int x1), .val (.int x2), .val (.ref x3), .val (.int x4), s5, s6] [(.int (0 : Int32))])) (fun _ k => XS.iconst X0.here hx rfl (hb hby at_250) k) ?_
    exact B251 T0 _ x0 x1 x2 x3 x4 (s5) (s6) (0 : Int32) hh Zh k_x3 V_x3 X0 e0 N0 hf
  have B246 : ∀ (T0 : State) (locs : List Loc) (x0 : Int32) (x1 : Int32) (x2 : Int32) (x3 : Addr) (x4 : Int32) (s5 : Slot) (s6 : Slot) (hh : Heap), n0 ≤ hh.size → ∀ (k_x3 : ClassId), Arv Z hh x3 k_x3 .int (28 : Int32) [(.int (65 : Int32)), (.int (90 : Int32)), (.int (97 : Int32)), (.int (122 : Int32)), (.int (192 : Int32)), (.int (214 : Int32)), (.int (216 : Int32)), (.int (246 : Int32)), (.int (248 : Int32)), (.int (767 : Int32)), (.int (880 : Int32)), (.int (893 : Int32)), (.int (895 : Int32)), (.int (8191 : Int32)), (.int (8204 : Int32)), (.int (8205 : Int32)), (.int (8304 : Int32)), (.int (8591 : Int32)), (.int (11264 : Int32)), (.int (12271 : Int32)), (.int (12289 : Int32)), (.int (55295 : Int32)), (.int (63744 : Int32)), (.int (64975 : Int32)), (.int (65008 : Int32)), (.int (65533 : Int32)), (.int (65536 : Int32)), (.int (983039 : Int32))] (.int (0 : Int32)) → Stand p l e room_1 s m #[(.int p0), (.int p1), (.int p2)] below meth c T0 locs 1 28 → T0.heap = hh → Fr n0 locs → f0_246 = 1 → own_Goes p e below s (own_Law n0) 16 128 T0 (mkF m 246 #[.val (.int x0), .val (.int x1), .val (.int x2), .val (.ref x3), .val (.int x4), s5, s6] []) := by
    intro T0 locs x0 x1 x2 x3 x4 s5 s6 hh Zh k_x3 V_x3 X0 e0 N0 hf
    refine own_step (T' := T0) (g' := (mkF m 247 #[.val (.int x0), .val (.int x1), .val (.int x2), .val (.ref x3), .val (.int x4), s5, s6] [(.int (1 : Int32))])) (fun _ k => XS.iconst X0.here hx rfl (hb hby at_246) k) ?_
    refine own_step (T' := T0) (g' := (mkF m 251 #[.val (.int x0), .val (.int x1), .val (.int x2), .val (.ref x3), .val (.int x4), s5, s6] [(.int (1 : Int32))])) (fun _ k => XS.goto X0.here hx rfl (pc0 := 247) (pc' := 251) rfl (hb hby at_247) (by decide) (by decide) k) ?_
    exact B251 T0 _ x0 x1 x2 x3 x4 (s5) (s6) (1 : Int32) hh Zh k_x3 V_x3 X0 e0 N0 hf
  have B243 : ∀ (T0 : State) (locs : List Loc) (x0 : Int32) (x1 : Int32) (x2 : Int32) (x3 : Addr) (x4 : Int32) (s5 : Slot) (s6 : Slot) (t0 : Int32) (t1 : Int32) (hh : Heap), n0 ≤ hh.size → ∀ (k_x3 : ClassId), Arv Z hh x3 k_x3 .int (28 : Int32) [(.int (65 : Int32)), (.int (90 : Int32)), (.int (97 : Int32)), (.int (122 : Int32)), (.int (192 : Int32)), (.int (214 : Int32)), (.int (216 : Int32)), (.int (246 : Int32)), (.int (248 : Int32)), (.int (767 : Int32)), (.int (880 : Int32)), (.int (893 : Int32)), (.int (895 : Int32)), (.int (8191 : Int32)), (.int (8204 : Int32)), (.int (8205 : Int32)), (.int (8304 : Int32)), (.int (8591 : Int32)), (.int (11264 : Int32)), (.int (12271 : Int32)), (.int (12289 : Int32)), (.int (55295 : Int32)), (.int (63744 : Int32)), (.int (64975 : Int32)), (.int (65008 : Int32)), (.int (65533 : Int32)), (.int (65536 : Int32)), (.int (983039 : Int32))] (.int (0 : Int32)) → Stand p l e room_1 s m #[(.int p0), (.int p1), (.int p2)] below meth c T0 locs 1 28 → T0.heap = hh → Fr n0 locs → f0_243 t0 t1 = 1 → own_Goes p e below s (own_Law n0) 16 128 T0 (mkF m 243 #[.val (.int x0), .val (.int x1), .val (.int x2), .val (.ref x3), .val (.int x4), s5, s6] [(.int t0), (.int t1)]) := by
    intro T0 locs x0 x1 x2 x3 x4 s5 s6 t0 t1 hh Zh k_x3 V_x3 X0 e0 N0 hf
    by_cases hc : t1 = t0
    · refine own_step (T' := T0) (g' := (mkF m 246 #[.val (.int x0), .val (.int x1), .val (.int x2), .val (.ref x3), .val (.int x4), s5, s6] [])) (fun _ k => XS.icmpNo X0.here hx rfl (hb hby at_243) rfl (teq hc).2 k) ?_
      exact B246 T0 _ x0 x1 x2 x3 x4 (s5) (s6) hh Zh k_x3 V_x3 X0 e0 N0 ((if_pos hc).symm.trans hf)
    · refine own_step (T' := T0) (g' := (mkF m 250 #[.val (.int x0), .val (.int x1), .val (.int x2), .val (.ref x3), .val (.int x4), s5, s6] [])) (fun _ k => XS.icmpYes X0.here hx rfl (pc0 := 243) (pc' := 250) rfl (hb hby at_243) rfl (feq hc).2 (by decide) (by decide) k) ?_
      exact B250 T0 _ x0 x1 x2 x3 x4 (s5) (s6) hh Zh k_x3 V_x3 X0 e0 N0 ((if_neg hc).symm.trans hf)
  have B242 : ∀ (T0 : State) (locs : List Loc) (x0 : Int32) (x1 : Int32) (x2 : Int32) (x3 : Addr) (x4 : Int32) (s5 : Slot) (s6 : Slot) (t0 : Int32) (hh : Heap), n0 ≤ hh.size → ∀ (k_x3 : ClassId), Arv Z hh x3 k_x3 .int (28 : Int32) [(.int (65 : Int32)), (.int (90 : Int32)), (.int (97 : Int32)), (.int (122 : Int32)), (.int (192 : Int32)), (.int (214 : Int32)), (.int (216 : Int32)), (.int (246 : Int32)), (.int (248 : Int32)), (.int (767 : Int32)), (.int (880 : Int32)), (.int (893 : Int32)), (.int (895 : Int32)), (.int (8191 : Int32)), (.int (8204 : Int32)), (.int (8205 : Int32)), (.int (8304 : Int32)), (.int (8591 : Int32)), (.int (11264 : Int32)), (.int (12271 : Int32)), (.int (12289 : Int32)), (.int (55295 : Int32)), (.int (63744 : Int32)), (.int (64975 : Int32)), (.int (65008 : Int32)), (.int (65533 : Int32)), (.int (65536 : Int32)), (.int (983039 : Int32))] (.int (0 : Int32)) → Stand p l e room_1 s m #[(.int p0), (.int p1), (.int p2)] below meth c T0 locs 1 28 → T0.heap = hh → Fr n0 locs → f0_242 t0 = 1 → own_Goes p e below s (own_Law n0) 16 128 T0 (mkF m 242 #[.val (.int x0), .val (.int x1), .val (.int x2), .val (.ref x3), .val (.int x4), s5, s6] [(.int t0)]) := by
    intro T0 locs x0 x1 x2 x3 x4 s5 s6 t0 hh Zh k_x3 V_x3 X0 e0 N0 hf
    refine own_step (T' := T0) (g' := (mkF m 243 #[.val (.int x0), .val (.int x1), .val (.int x2), .val (.ref x3), .val (.int x4), s5, s6] [(.int (0 : Int32)), (.int t0)])) (fun _ k => XS.iconst X0.here hx rfl (hb hby at_242) k) ?_
    exact B243 T0 _ x0 x1 x2 x3 x4 (s5) (s6) (0 : Int32) t0 hh Zh k_x3 V_x3 X0 e0 N0 hf
  have B238 : ∀ (T0 : State) (locs : List Loc) (x0 : Int32) (x1 : Int32) (x2 : Int32) (x3 : Addr) (x4 : Int32) (s5 : Slot) (s6 : Slot) (t0 : Int32) (hh : Heap), n0 ≤ hh.size → ∀ (k_x3 : ClassId), Arv Z hh x3 k_x3 .int (28 : Int32) [(.int (65 : Int32)), (.int (90 : Int32)), (.int (97 : Int32)), (.int (122 : Int32)), (.int (192 : Int32)), (.int (214 : Int32)), (.int (216 : Int32)), (.int (246 : Int32)), (.int (248 : Int32)), (.int (767 : Int32)), (.int (880 : Int32)), (.int (893 : Int32)), (.int (895 : Int32)), (.int (8191 : Int32)), (.int (8204 : Int32)), (.int (8205 : Int32)), (.int (8304 : Int32)), (.int (8591 : Int32)), (.int (11264 : Int32)), (.int (12271 : Int32)), (.int (12289 : Int32)), (.int (55295 : Int32)), (.int (63744 : Int32)), (.int (64975 : Int32)), (.int (65008 : Int32)), (.int (65533 : Int32)), (.int (65536 : Int32)), (.int (983039 : Int32))] (.int (0 : Int32)) → Stand p l e room_1 s m #[(.int p0), (.int p1), (.int p2)] below meth c T0 locs 1 28 → T0.heap = hh → Fr n0 locs → f0_238 t0 = 1 → own_Goes p e below s (own_Law n0) 16 128 T0 (mkF m 238 #[.val (.int x0), .val (.int x1), .val (.int x2), .val (.ref x3), .val (.int x4), s5, s6] [(.int t0)]) := by
    intro T0 locs x0 x1 x2 x3 x4 s5 s6 t0 hh Zh k_x3 V_x3 X0 e0 N0 hf
    refine own_step (T' := T0) (g' := (mkF m 239 #[.val (.int x0), .val (.int x1), .val (.int x2), .val (.ref x3), .val (.int x4), s5, s6] [(.int (1 : Int32)), (.int t0)])) (fun _ k => XS.iconst X0.here hx rfl (hb hby at_238) k) ?_
    refine own_step (T' := T0) (g' := (mkF m 243 #[.val (.int x0), .val (.int x1), .val (.int x2), .val (.ref x3), .val (.int x4), s5, s6] [(.int (1 : Int32)), (.int t0)])) (fun _ k => XS.goto X0.here hx rfl (pc0 := 239) (pc' := 243) rfl (hb hby at_239) (by decide) (by decide) k) ?_
    exact B243 T0 _ x0 x1 x2 x3 x4 (s5) (s6) (1 : Int32) t0 hh Zh k_x3 V_x3 X0 e0 N0 hf
  have B225 : ∀ (T0 : State) (locs : List Loc) (x0 : Int32) (x1 : Int32) (x2 : Int32) (x3 : Addr) (x4 : Int32) (s5 : Slot) (s6 : Slot) (hh : Heap), n0 ≤ hh.size → ∀ (k_x3 : ClassId), Arv Z hh x3 k_x3 .int (28 : Int32) [(.int (65 : Int32)), (.int (90 : Int32)), (.int (97 : Int32)), (.int (122 : Int32)), (.int (192 : Int32)), (.int (214 : Int32)), (.int (216 : Int32)), (.int (246 : Int32)), (.int (248 : Int32)), (.int (767 : Int32)), (.int (880 : Int32)), (.int (893 : Int32)), (.int (895 : Int32)), (.int (8191 : Int32)), (.int (8204 : Int32)), (.int (8205 : Int32)), (.int (8304 : Int32)), (.int (8591 : Int32)), (.int (11264 : Int32)), (.int (12271 : Int32)), (.int (12289 : Int32)), (.int (55295 : Int32)), (.int (63744 : Int32)), (.int (64975 : Int32)), (.int (65008 : Int32)), (.int (65533 : Int32)), (.int (65536 : Int32)), (.int (983039 : Int32))] (.int (0 : Int32)) → Stand p l e room_1 s m #[(.int p0), (.int p1), (.int p2)] below meth c T0 locs 1 28 → T0.heap = hh → Fr n0 locs → f0_225 x4 = 1 → own_Goes p e below s (own_Law n0) 16 128 T0 (mkF m 225 #[.val (.int x0), .val (.int x1), .val (.int x2), .val (.ref x3), .val (.int x4), s5, s6] []) := by
    intro T0 locs x0 x1 x2 x3 x4 s5 s6 hh Zh k_x3 V_x3 X0 e0 N0 hf
    refine own_step (T' := T0) (g' := (mkF m 227 #[.val (.int x0), .val (.int x1), .val (.int x2), .val (.ref x3), .val (.int x4), s5, s6] [(.int x4)])) (fun _ k => XS.iload X0.here hx rfl (hb hby at_225) rfl k) ?_
    obtain ⟨_, _, ⟨T1, L1, k1, n1⟩, -, X1, ⟨Lc1, hQ1, l1, y1, z1⟩, st1⟩ := Jvm.LawKit.callS X0 hx (y := (⟨"com/example/graphwright/graphwright/model/Terminals", "isPnCharsBase", "(I)Z"⟩ : MethodName)) hown (mvT hZ (hw _ (List.mem_of_getElem? (i := 9) rfl))) (mvT hZ (hw _ (List.mem_of_getElem? (i := 10) rfl))) (mvT hZ (hw _ (List.mem_of_getElem? (i := 11) rfl))) (mvT hZ (hw _ (List.mem_of_getElem? (i := 12) rfl))) (by decide) (backOf (W := 0) (rm1 l Z a0 hw [] x4 hh n0 Zh) hZ (hw _ (List.mem_of_getElem? (i := 12) rfl)) (hw _ (List.mem_of_getElem? (i := 11) rfl)) (by decide) (by decide)) (g := (mkF m 227 #[.val (.int x0), .val (.int x1), .val (.int x2), .val (.ref x3), .val (.int x4), s5, s6] [(.int x4)])) rfl (by rw [hml]; rfl) (argsL := [(.int x4)]) (rest := []) (lenOf pd_0 rfl) rfl (by show 2 * 0 + _ ≤ _; exact Nat.le_of_eq rfl) (hb hby at_227) (fun _ _ => ⟨rfl, e0, (by decide : 1 + 0 ≤ _), (by decide : 28 + 0 ≤ _)⟩)
    dsimp only [Pt.U, Pt.locs, Pt.cells, Pt.slots] at X1 l1 y1 z1 st1 hQ1
    subst l1 y1 z1
    obtain ⟨rfl, N1q, e1⟩ := hQ1
    have N1 := Fr.app N0 N1q
    refine own_step (T' := T1) (g' := (mkF m 230 #[.val (.int x0), .val (.int x1), .val (.int x2), .val (.ref x3), .val (.int x4), s5, s6] [(.int (f1_0 x4))])) (fun _ k => st1 _ k) ?_
    refine own_step (T' := T1) (g' := (mkF m 232 #[.val (.int x0), .val (.int x1), .val (.int x2), .val (.ref x3), .val (.int x4), s5, s6] [(.int x4), (.int (f1_0 x4))])) (fun _ k => XS.iload X1.here hx rfl (hb hby at_230) rfl k) ?_
    obtain ⟨_, _, ⟨T2, L2, k2, n2⟩, -, X2, ⟨Lc2, hQ2, l2, y2, z2⟩, st2⟩ := Jvm.LawKit.callS X1 hx (y := (⟨"com/example/graphwright/graphwright/model/TerminalsIsPnCharsBasePinLaw", "inGap", "(I)Z"⟩ : MethodName)) hown (mvT hZ (hw _ (List.mem_of_getElem? (i := 16) rfl))) (mvT hZ (hw _ (List.mem_of_getElem? (i := 17) rfl))) (mvT hZ (hw _ (List.mem_of_getElem? (i := 18) rfl))) (mvT hZ (hw _ (List.mem_of_getElem? (i := 19) rfl))) (by decide) (backOf (W := 1) (rm2 l Z a0 hw [] x4 hh n0 Zh) hZ (hw _ (List.mem_of_getElem? (i := 19) rfl)) (hw _ (List.mem_of_getElem? (i := 18) rfl)) (by decide) (by decide)) (g := (mkF m 232 #[.val (.int x0), .val (.int x1), .val (.int x2), .val (.ref x3), .val (.int x4), s5, s6] [(.int x4), (.int (f1_0 x4))])) rfl (by rw [hml]; rfl) (argsL := [(.int x4)]) (rest := [(.int (f1_0 x4))]) (lenOf pd_0 rfl) rfl (by show 2 * 0 + _ ≤ _; exact Nat.le_of_eq rfl) (hb hby at_232) (fun _ _ => ⟨rfl, e1, (by decide : 1 + 0 ≤ _), (by decide : 28 + 0 ≤ _)⟩)
    dsimp only [Pt.U, Pt.locs, Pt.cells, Pt.slots] at X2 l2 y2 z2 st2 hQ2
    subst l2 y2 z2
    obtain ⟨rfl, N2q, e2⟩ := hQ2
    have N2 := Fr.app N1 N2q
    refine own_step (T' := T2) (g' := (mkF m 235 #[.val (.int x0), .val (.int x1), .val (.int x2), .val (.ref x3), .val (.int x4), s5, s6] [(.int (f2_0 x4)), (.int (f1_0 x4))])) (fun _ k => st2 _ k) ?_
    by_cases hc : (f2_0 x4) = (0 : Int32)
    · refine own_step (T' := T2) (g' := (mkF m 238 #[.val (.int x0), .val (.int x1), .val (.int x2), .val (.ref x3), .val (.int x4), s5, s6] [(.int (f1_0 x4))])) (fun _ k => XS.ifNo X2.here hx rfl (hb hby at_235) rfl ((if0 _ _).trans (teq hc).2) k) ?_
      exact B238 T2 _ x0 x1 x2 x3 x4 (s5) (s6) (f1_0 x4) hh Zh k_x3 V_x3 X2 e2 N2 ((if_pos hc).symm.trans hf)
    · refine own_step (T' := T2) (g' := (mkF m 242 #[.val (.int x0), .val (.int x1), .val (.int x2), .val (.ref x3), .val (.int x4), s5, s6] [(.int (f1_0 x4))])) (fun _ k => XS.ifYes X2.here hx rfl (pc0 := 235) (pc' := 242) rfl (hb hby at_235) rfl ((if0 _ _).trans (feq hc).2) (by decide) (by decide) k) ?_
      exact B242 T2 _ x0 x1 x2 x3 x4 (s5) (s6) (f1_0 x4) hh Zh k_x3 V_x3 X2 e2 N2 ((if_neg hc).symm.trans hf)
  have B196 : ∀ (T0 : State) (locs : List Loc) (x0 : Int32) (x1 : Int32) (x2 : Int32) (x3 : Addr) (hh : Heap), n0 ≤ hh.size → ∀ (k_x3 : ClassId), Arv Z hh x3 k_x3 .int (28 : Int32) [(.int (65 : Int32)), (.int (90 : Int32)), (.int (97 : Int32)), (.int (122 : Int32)), (.int (192 : Int32)), (.int (214 : Int32)), (.int (216 : Int32)), (.int (246 : Int32)), (.int (248 : Int32)), (.int (767 : Int32)), (.int (880 : Int32)), (.int (893 : Int32)), (.int (895 : Int32)), (.int (8191 : Int32)), (.int (8204 : Int32)), (.int (8205 : Int32)), (.int (8304 : Int32)), (.int (8591 : Int32)), (.int (11264 : Int32)), (.int (12271 : Int32)), (.int (12289 : Int32)), (.int (55295 : Int32)), (.int (63744 : Int32)), (.int (64975 : Int32)), (.int (65008 : Int32)), (.int (65533 : Int32)), (.int (65536 : Int32)), (.int (983039 : Int32))] (.int (0 : Int32)) → Stand p l e room_1 s m #[(.int p0), (.int p1), (.int p2)] below meth c T0 locs 1 28 → T0.heap = hh → Fr n0 locs → f0_196 x1 x2 = 1 → own_Goes p e below s (own_Law n0) 16 128 T0 (mkF m 196 #[.val (.int x0), .val (.int x1), .val (.int x2), .val (.ref x3), .unset, .unset, .unset] []) := by
    intro T0 locs x0 x1 x2 x3 hh Zh k_x3 V_x3 X0 e0 N0 hf
    refine own_step (T' := T0) (g' := (mkF m 197 #[.val (.int x0), .val (.int x1), .val (.int x2), .val (.ref x3), .unset, .unset, .unset] [(.int x1)])) (fun _ k => XS.iloadN X0.here hx rfl (hb hby at_196) rfl k) ?_
    refine own_step (T' := T0) (g' := (mkF m 198 #[.val (.int x0), .val (.int x1), .val (.int x2), .val (.ref x3), .unset, .unset, .unset] [(.int (1 : Int32)), (.int x1)])) (fun _ k => XS.iconst X0.here hx rfl (hb hby at_197) k) ?_
    refine own_step (T' := T0) (g' := (mkF m 199 #[.val (.int x0), .val (.int x1), .val (.int x2), .val (.ref x3), .unset, .unset, .unset] [(.int ((x1.toUInt32 >>> ((1 : Int32) &&& 31).toUInt32).toInt32))])) (fun _ k => XS.iushr X0.here hx rfl (hb hby at_198) rfl k) ?_
    refine own_step (T' := T0) (g' := (mkF m 201 #[.val (.int x0), .val (.int x1), .val (.int x2), .val (.ref x3), .unset, .unset, .unset] [(.int (1073741823 : Int32)), (.int ((x1.toUInt32 >>> ((1 : Int32) &&& 31).toUInt32).toInt32))])) (fun _ k => X0.ldcInt hx hown (mvT hZ (hw _ (List.mem_of_getElem? (i := 8) rfl))) (g := (mkF m 199 #[.val (.int x0), .val (.int x1), .val (.int x2), .val (.ref x3), .unset, .unset, .unset] [(.int ((x1.toUInt32 >>> ((1 : Int32) &&& 31).toUInt32).toInt32))])) rfl (hb hby at_199) _ k) ?_
    refine own_step (T' := T0) (g' := (mkF m 202 #[.val (.int x0), .val (.int x1), .val (.int x2), .val (.ref x3), .unset, .unset, .unset] [(.int (((x1.toUInt32 >>> ((1 : Int32) &&& 31).toUInt32).toInt32) &&& (1073741823 : Int32)))])) (fun _ k => XS.iand X0.here hx rfl (hb hby at_201) rfl k) ?_
    refine own_step (T' := T0) (g' := (mkF m 204 #[.val (.int x0), .val (.int x1), .val (.int x2), .val (.ref x3), .unset, .unset, .unset] [(.int (28 : Int32)), (.int (((x1.toUInt32 >>> ((1 : Int32) &&& 31).toUInt32).toInt32) &&& (1073741823 : Int32)))])) (fun _ k => XS.bipush X0.here hx rfl (hb hby at_202) k) ?_
    refine own_step (T' := T0) (g' := (mkF m 205 #[.val (.int x0), .val (.int x1), .val (.int x2), .val (.ref x3), .unset, .unset, .unset] [(.int ((((x1.toUInt32 >>> ((1 : Int32) &&& 31).toUInt32).toInt32) &&& (1073741823 : Int32)) % (28 : Int32)))])) (fun _ k => iremM X0 hx rfl (hb hby at_204) rfl (by decide) k) ?_
    refine own_step (T' := T0) (g' := (mkF m 207 #[.val (.int x0), .val (.int x1), .val (.int x2), .val (.ref x3), .unset, .val (.int ((((x1.toUInt32 >>> ((1 : Int32) &&& 31).toUInt32).toInt32) &&& (1073741823 : Int32)) % (28 : Int32))), .unset] [])) (fun _ k => XS.istore X0.here hx rfl (hb hby at_205) rfl (l' := #[.val (.int x0), .val (.int x1), .val (.int x2), .val (.ref x3), .unset, .val (.int ((((x1.toUInt32 >>> ((1 : Int32) &&& 31).toUInt32).toInt32) &&& (1073741823 : Int32)) % (28 : Int32))), .unset]) rfl k) ?_
    refine own_step (T' := T0) (g' := (mkF m 208 #[.val (.int x0), .val (.int x1), .val (.int x2), .val (.ref x3), .unset, .val (.int ((((x1.toUInt32 >>> ((1 : Int32) &&& 31).toUInt32).toInt32) &&& (1073741823 : Int32)) % (28 : Int32))), .unset] [(.int x2)])) (fun _ k => XS.iloadN X0.here hx rfl (hb hby at_207) rfl k) ?_
    refine own_step (T' := T0) (g' := (mkF m 209 #[.val (.int x0), .val (.int x1), .val (.int x2), .val (.ref x3), .unset, .val (.int ((((x1.toUInt32 >>> ((1 : Int32) &&& 31).toUInt32).toInt32) &&& (1073741823 : Int32)) % (28 : Int32))), .unset] [(.int (3 : Int32)), (.int x2)])) (fun _ k => XS.iconst X0.here hx rfl (hb hby at_208) k) ?_
    refine own_step (T' := T0) (g' := (mkF m 210 #[.val (.int x0), .val (.int x1), .val (.int x2), .val (.ref x3), .unset, .val (.int ((((x1.toUInt32 >>> ((1 : Int32) &&& 31).toUInt32).toInt32) &&& (1073741823 : Int32)) % (28 : Int32))), .unset] [(.int (x2 &&& (3 : Int32)))])) (fun _ k => XS.iand X0.here hx rfl (hb hby at_209) rfl k) ?_
    refine own_step (T' := T0) (g' := (mkF m 211 #[.val (.int x0), .val (.int x1), .val (.int x2), .val (.ref x3), .unset, .val (.int ((((x1.toUInt32 >>> ((1 : Int32) &&& 31).toUInt32).toInt32) &&& (1073741823 : Int32)) % (28 : Int32))), .unset] [(.int (3 : Int32)), (.int (x2 &&& (3 : Int32)))])) (fun _ k => XS.iconst X0.here hx rfl (hb hby at_210) k) ?_
    refine own_step (T' := T0) (g' := (mkF m 212 #[.val (.int x0), .val (.int x1), .val (.int x2), .val (.ref x3), .unset, .val (.int ((((x1.toUInt32 >>> ((1 : Int32) &&& 31).toUInt32).toInt32) &&& (1073741823 : Int32)) % (28 : Int32))), .unset] [(.int ((x2 &&& (3 : Int32)) % (3 : Int32)))])) (fun _ k => iremM X0 hx rfl (hb hby at_211) rfl (by decide) k) ?_
    refine own_step (T' := T0) (g' := (mkF m 213 #[.val (.int x0), .val (.int x1), .val (.int x2), .val (.ref x3), .unset, .val (.int ((((x1.toUInt32 >>> ((1 : Int32) &&& 31).toUInt32).toInt32) &&& (1073741823 : Int32)) % (28 : Int32))), .unset] [(.int (1 : Int32)), (.int ((x2 &&& (3 : Int32)) % (3 : Int32)))])) (fun _ k => XS.iconst X0.here hx rfl (hb hby at_212) k) ?_
    refine own_step (T' := T0) (g' := (mkF m 214 #[.val (.int x0), .val (.int x1), .val (.int x2), .val (.ref x3), .unset, .val (.int ((((x1.toUInt32 >>> ((1 : Int32) &&& 31).toUInt32).toInt32) &&& (1073741823 : Int32)) % (28 : Int32))), .unset] [(.int (((x2 &&& (3 : Int32)) % (3 : Int32)) - (1 : Int32)))])) (fun _ k => XS.isub X0.here hx rfl (hb hby at_213) rfl k) ?_
    refine own_step (T' := T0) (g' := (mkF m 216 #[.val (.int x0), .val (.int x1), .val (.int x2), .val (.ref x3), .unset, .val (.int ((((x1.toUInt32 >>> ((1 : Int32) &&& 31).toUInt32).toInt32) &&& (1073741823 : Int32)) % (28 : Int32))), .val (.int (((x2 &&& (3 : Int32)) % (3 : Int32)) - (1 : Int32)))] [])) (fun _ k => XS.istore X0.here hx rfl (hb hby at_214) rfl (l' := #[.val (.int x0), .val (.int x1), .val (.int x2), .val (.ref x3), .unset, .val (.int ((((x1.toUInt32 >>> ((1 : Int32) &&& 31).toUInt32).toInt32) &&& (1073741823 : Int32)) % (28 : Int32))), .val (.int (((x2 &&& (3 : Int32)) % (3 : Int32)) - (1 : Int32)))]) rfl k) ?_
    refine own_step (T' := T0) (g' := (mkF m 217 #[.val (.int x0), .val (.int x1), .val (.int x2), .val (.ref x3), .unset, .val (.int ((((x1.toUInt32 >>> ((1 : Int32) &&& 31).toUInt32).toInt32) &&& (1073741823 : Int32)) % (28 : Int32))), .val (.int (((x2 &&& (3 : Int32)) % (3 : Int32)) - (1 : Int32)))] [(.ref x3)])) (fun _ k => XS.aloadN X0.here hx rfl (hb hby at_216) rfl rfl k) ?_
    refine own_step (T' := T0) (g' := (mkF m 219 #[.val (.int x0), .val (.int x1), .val (.int x2), .val (.ref x3), .unset, .val (.int ((((x1.toUInt32 >>> ((1 : Int32) &&& 31).toUInt32).toInt32) &&& (1073741823 : Int32)) % (28 : Int32))), .val (.int (((x2 &&& (3 : Int32)) % (3 : Int32)) - (1 : Int32)))] [(.int ((((x1.toUInt32 >>> ((1 : Int32) &&& 31).toUInt32).toInt32) &&& (1073741823 : Int32)) % (28 : Int32))), (.ref x3)])) (fun _ k => XS.iload X0.here hx rfl (hb hby at_217) rfl k) ?_
    have hj1 : ¬ ((((x1.toUInt32 >>> ((1 : Int32) &&& 31).toUInt32).toInt32) &&& (1073741823 : Int32)) % (28 : Int32)) < 0 ∧ ((((x1.toUInt32 >>> ((1 : Int32) &&& 31).toUInt32).toInt32) &&& (1073741823 : Int32)) % (28 : Int32)) < (28 : Int32) := own_in0_219 x1
    have Vq1 := V_x3
    obtain ⟨cl1, Ar1, -, S1, -, H1, -⟩ := Vq1
    have hin1 := inb_of S1 hj1
    have hat1 : cl1.slots[(((((x1.toUInt32 >>> ((1 : Int32) &&& 31).toUInt32).toInt32) &&& (1073741823 : Int32)) % (28 : Int32))).toNatClampNeg]? = some (.int (own_a0_219.getD ((((x1.toUInt32 >>> ((1 : Int32) &&& 31).toUInt32).toInt32) &&& (1073741823 : Int32)) % (28 : Int32)).toNatClampNeg (0 : Int32))) := H1.at hin1 (own_getD own_a0_219 _)
    refine own_step (T' := T0) (g' := (mkF m 220 #[.val (.int x0), .val (.int x1), .val (.int x2), .val (.ref x3), .unset, .val (.int ((((x1.toUInt32 >>> ((1 : Int32) &&& 31).toUInt32).toInt32) &&& (1073741823 : Int32)) % (28 : Int32))), .val (.int (((x2 &&& (3 : Int32)) % (3 : Int32)) - (1 : Int32)))] [(.int (own_a0_219.getD ((((x1.toUInt32 >>> ((1 : Int32) &&& 31).toUInt32).toInt32) &&& (1073741823 : Int32)) % (28 : Int32)).toNatClampNeg (0 : Int32)))])) (fun _ k => X0.iaload hx (j := ((((x1.toUInt32 >>> ((1 : Int32) &&& 31).toUInt32).toInt32) &&& (1073741823 : Int32)) % (28 : Int32))) (v := .int (own_a0_219.getD ((((x1.toUInt32 >>> ((1 : Int32) &&& 31).toUInt32).toInt32) &&& (1073741823 : Int32)) % (28 : Int32)).toNatClampNeg (0 : Int32))) (by rw [e0]; exact Ar1.1) (State.isArrayOf_alike hZ.alike Ar1.2.1) Ar1.2.2 hin1 hat1 (g := (mkF m 219 #[.val (.int x0), .val (.int x1), .val (.int x2), .val (.ref x3), .unset, .val (.int ((((x1.toUInt32 >>> ((1 : Int32) &&& 31).toUInt32).toInt32) &&& (1073741823 : Int32)) % (28 : Int32))), .val (.int (((x2 &&& (3 : Int32)) % (3 : Int32)) - (1 : Int32)))] [(.int ((((x1.toUInt32 >>> ((1 : Int32) &&& 31).toUInt32).toInt32) &&& (1073741823 : Int32)) % (28 : Int32))), (.ref x3)])) rfl rfl (hb hby at_219) _ k) ?_
    refine own_step (T' := T0) (g' := (mkF m 222 #[.val (.int x0), .val (.int x1), .val (.int x2), .val (.ref x3), .unset, .val (.int ((((x1.toUInt32 >>> ((1 : Int32) &&& 31).toUInt32).toInt32) &&& (1073741823 : Int32)) % (28 : Int32))), .val (.int (((x2 &&& (3 : Int32)) % (3 : Int32)) - (1 : Int32)))] [(.int (((x2 &&& (3 : Int32)) % (3 : Int32)) - (1 : Int32))), (.int (own_a0_219.getD ((((x1.toUInt32 >>> ((1 : Int32) &&& 31).toUInt32).toInt32) &&& (1073741823 : Int32)) % (28 : Int32)).toNatClampNeg (0 : Int32)))])) (fun _ k => XS.iload X0.here hx rfl (hb hby at_220) rfl k) ?_
    refine own_step (T' := T0) (g' := (mkF m 223 #[.val (.int x0), .val (.int x1), .val (.int x2), .val (.ref x3), .unset, .val (.int ((((x1.toUInt32 >>> ((1 : Int32) &&& 31).toUInt32).toInt32) &&& (1073741823 : Int32)) % (28 : Int32))), .val (.int (((x2 &&& (3 : Int32)) % (3 : Int32)) - (1 : Int32)))] [(.int ((own_a0_219.getD ((((x1.toUInt32 >>> ((1 : Int32) &&& 31).toUInt32).toInt32) &&& (1073741823 : Int32)) % (28 : Int32)).toNatClampNeg (0 : Int32)) + (((x2 &&& (3 : Int32)) % (3 : Int32)) - (1 : Int32))))])) (fun _ k => XS.iadd X0.here hx rfl (hb hby at_222) rfl k) ?_
    refine own_step (T' := T0) (g' := (mkF m 225 #[.val (.int x0), .val (.int x1), .val (.int x2), .val (.ref x3), .val (.int ((own_a0_219.getD ((((x1.toUInt32 >>> ((1 : Int32) &&& 31).toUInt32).toInt32) &&& (1073741823 : Int32)) % (28 : Int32)).toNatClampNeg (0 : Int32)) + (((x2 &&& (3 : Int32)) % (3 : Int32)) - (1 : Int32)))), .val (.int ((((x1.toUInt32 >>> ((1 : Int32) &&& 31).toUInt32).toInt32) &&& (1073741823 : Int32)) % (28 : Int32))), .val (.int (((x2 &&& (3 : Int32)) % (3 : Int32)) - (1 : Int32)))] [])) (fun _ k => XS.istore X0.here hx rfl (hb hby at_223) rfl (l' := #[.val (.int x0), .val (.int x1), .val (.int x2), .val (.ref x3), .val (.int ((own_a0_219.getD ((((x1.toUInt32 >>> ((1 : Int32) &&& 31).toUInt32).toInt32) &&& (1073741823 : Int32)) % (28 : Int32)).toNatClampNeg (0 : Int32)) + (((x2 &&& (3 : Int32)) % (3 : Int32)) - (1 : Int32)))), .val (.int ((((x1.toUInt32 >>> ((1 : Int32) &&& 31).toUInt32).toInt32) &&& (1073741823 : Int32)) % (28 : Int32))), .val (.int (((x2 &&& (3 : Int32)) % (3 : Int32)) - (1 : Int32)))]) rfl k) ?_
    exact B225 T0 _ x0 x1 x2 x3 ((own_a0_219.getD ((((x1.toUInt32 >>> ((1 : Int32) &&& 31).toUInt32).toInt32) &&& (1073741823 : Int32)) % (28 : Int32)).toNatClampNeg (0 : Int32)) + (((x2 &&& (3 : Int32)) % (3 : Int32)) - (1 : Int32))) (.val (.int ((((x1.toUInt32 >>> ((1 : Int32) &&& 31).toUInt32).toInt32) &&& (1073741823 : Int32)) % (28 : Int32)))) (.val (.int (((x2 &&& (3 : Int32)) % (3 : Int32)) - (1 : Int32)))) hh Zh k_x3 V_x3 X0 e0 N0 hf
  have B190 : ∀ (T0 : State) (locs : List Loc) (x0 : Int32) (x1 : Int32) (x2 : Int32) (x3 : Addr) (hh : Heap), n0 ≤ hh.size → ∀ (k_x3 : ClassId), Arv Z hh x3 k_x3 .int (28 : Int32) [(.int (65 : Int32)), (.int (90 : Int32)), (.int (97 : Int32)), (.int (122 : Int32)), (.int (192 : Int32)), (.int (214 : Int32)), (.int (216 : Int32)), (.int (246 : Int32)), (.int (248 : Int32)), (.int (767 : Int32)), (.int (880 : Int32)), (.int (893 : Int32)), (.int (895 : Int32)), (.int (8191 : Int32)), (.int (8204 : Int32)), (.int (8205 : Int32)), (.int (8304 : Int32)), (.int (8591 : Int32)), (.int (11264 : Int32)), (.int (12271 : Int32)), (.int (12289 : Int32)), (.int (55295 : Int32)), (.int (63744 : Int32)), (.int (64975 : Int32)), (.int (65008 : Int32)), (.int (65533 : Int32)), (.int (65536 : Int32)), (.int (983039 : Int32))] (.int (0 : Int32)) → Stand p l e room_1 s m #[(.int p0), (.int p1), (.int p2)] below meth c T0 locs 1 28 → T0.heap = hh → Fr n0 locs → f0_190 x0 = 1 → own_Goes p e below s (own_Law n0) 16 128 T0 (mkF m 190 #[.val (.int x0), .val (.int x1), .val (.int x2), .val (.ref x3), .unset, .unset, .unset] []) := by
    intro T0 locs x0 x1 x2 x3 hh Zh k_x3 V_x3 X0 e0 N0 hf
    refine own_step (T' := T0) (g' := (mkF m 191 #[.val (.int x0), .val (.int x1), .val (.int x2), .val (.ref x3), .unset, .unset, .unset] [(.int x0)])) (fun _ k => XS.iloadN X0.here hx rfl (hb hby at_190) rfl k) ?_
    refine own_step (T' := T0) (g' := (mkF m 193 #[.val (.int x0), .val (.int x1), .val (.int x2), .val (.ref x3), .val (.int x0), .unset, .unset] [])) (fun _ k => XS.istore X0.here hx rfl (hb hby at_191) rfl (l' := #[.val (.int x0), .val (.int x1), .val (.int x2), .val (.ref x3), .val (.int x0), .unset, .unset]) rfl k) ?_
    refine own_step (T' := T0) (g' := (mkF m 225 #[.val (.int x0), .val (.int x1), .val (.int x2), .val (.ref x3), .val (.int x0), .unset, .unset] [])) (fun _ k => XS.goto X0.here hx rfl (pc0 := 193) (pc' := 225) rfl (hb hby at_193) (by decide) (by decide) k) ?_
    exact B225 T0 _ x0 x1 x2 x3 x0 (.unset) (.unset) hh Zh k_x3 V_x3 X0 e0 N0 hf
  have B0 : ∀ (T0 : State) (locs : List Loc) (x0 : Int32) (x1 : Int32) (x2 : Int32) (hh : Heap), n0 ≤ hh.size → Stand p l e room_1 s m #[(.int p0), (.int p1), (.int p2)] below meth c T0 locs 0 0 → T0.heap = hh → Fr n0 locs → f0_0 x0 x1 x2 = 1 → own_Goes p e below s (own_Law n0) 16 128 T0 (mkF m 0 #[.val (.int x0), .val (.int x1), .val (.int x2), .unset, .unset, .unset, .unset] []) := by
    intro T0 locs x0 x1 x2 hh Zh  X0 e0 N0 hf
    refine own_step (T' := T0) (g' := (mkF m 2 #[.val (.int x0), .val (.int x1), .val (.int x2), .unset, .unset, .unset, .unset] [(.int (28 : Int32))])) (fun _ k => XS.bipush X0.here hx rfl (hb hby at_0) k) ?_
    obtain ⟨T1, h1, k1, X1, e1, E1, A1, st1⟩ := newP X0 hx hZ (hw _ (List.mem_of_getElem? (i := 0) rfl)) e0 (g := (mkF m 2 #[.val (.int x0), .val (.int x1), .val (.int x2), .unset, .unset, .unset, .unset] [(.int (28 : Int32))])) rfl (hb hby at_2) rfl (by decide) (cap := 28) (by decide) (by decide) (by decide) (by decide)
    obtain ⟨b1, g1⟩ : ∃ z, z = hh.size := ⟨_, rfl⟩
    rw [← g1] at A1 st1
    have V1 : Arv Z h1 b1 k1 .int (28 : Int32) (List.replicate 28 (.int (0 : Int32))) (.int (0 : Int32)) := (Arv.new A1 (by decide)).pad (pad_rep [] (.int (0 : Int32)) 28)
    have g_b1 : n0 ≤ b1 := Nat.le_trans Zh (Nat.le_of_eq g1.symm)
    have Z1 : n0 ≤ h1.size := Nat.le_trans Zh E1.1
    refine own_step (T' := T1) (g' := (mkF m 4 #[.val (.int x0), .val (.int x1), .val (.int x2), .unset, .unset, .unset, .unset] [(.ref b1)])) (fun _ k => st1 _ k) ?_
    refine own_step (T' := T1) (g' := (mkF m 5 #[.val (.int x0), .val (.int x1), .val (.int x2), .unset, .unset, .unset, .unset] [(.ref b1), (.ref b1)])) (fun _ k => XS.dup X1.here hx rfl (hb hby at_4) rfl rfl k) ?_
    refine own_step (T' := T1) (g' := (mkF m 6 #[.val (.int x0), .val (.int x1), .val (.int x2), .unset, .unset, .unset, .unset] [(.int (0 : Int32)), (.ref b1), (.ref b1)])) (fun _ k => XS.iconst X1.here hx rfl (hb hby at_5) k) ?_
    refine own_step (T' := T1) (g' := (mkF m 8 #[.val (.int x0), .val (.int x1), .val (.int x2), .unset, .unset, .unset, .unset] [(.int (65 : Int32)), (.int (0 : Int32)), (.ref b1), (.ref b1)])) (fun _ k => XS.bipush X1.here hx rfl (hb hby at_6) k) ?_
    obtain ⟨cl2, Ar2, q2, S2, M2, H2, G2⟩ := V1
    obtain ⟨T2, h2, X2, e2, W2, st2⟩ := stI X1 hx hZ e1 Ar2 (j := (0 : Int32)) (inb_of S2 ⟨by decide, by decide⟩) (g := (mkF m 8 #[.val (.int x0), .val (.int x1), .val (.int x2), .unset, .unset, .unset, .unset] [(.int (65 : Int32)), (.int (0 : Int32)), (.ref b1), (.ref b1)])) rfl rfl (hb hby at_8)
    have V2 : Arv Z h2 b1 k1 .int (28 : Int32) [(.int (65 : Int32)), (.int (0 : Int32)), (.int (0 : Int32)), (.int (0 : Int32)), (.int (0 : Int32)), (.int (0 : Int32)), (.int (0 : Int32)), (.int (0 : Int32)), (.int (0 : Int32)), (.int (0 : Int32)), (.int (0 : Int32)), (.int (0 : Int32)), (.int (0 : Int32)), (.int (0 : Int32)), (.int (0 : Int32)), (.int (0 : Int32)), (.int (0 : Int32)), (.int (0 : Int32)), (.int (0 : Int32)), (.int (0 : Int32)), (.int (0 : Int32)), (.int (0 : Int32)), (.int (0 : Int32)), (.int (0 : Int32)), (.int (0 : Int32)), (.int (0 : Int32)), (.int (0 : Int32)), (.int (0 : Int32))] (.int (0 : Int32)) := Arv.set Ar2 q2 S2 M2 H2 G2 rfl W2 0 rfl (Nat.le_of_ble_eq_true rfl)
    have N2 := Fr.snoc X2 N0 g_b1
    have Z2 : n0 ≤ h2.size := Nat.le_trans Z1 (Keep.of_wr W2).1
    refine own_step (T' := T2) (g' := (mkF m 9 #[.val (.int x0), .val (.int x1), .val (.int x2), .unset, .unset, .unset, .unset] [(.ref b1)])) (fun _ k => st2 _ k) ?_
    refine own_step (T' := T2) (g' := (mkF m 10 #[.val (.int x0), .val (.int x1), .val (.int x2), .unset, .unset, .unset, .unset] [(.ref b1), (.ref b1)])) (fun _ k => XS.dup X2.here hx rfl (hb hby at_9) rfl rfl k) ?_
    refine own_step (T' := T2) (g' := (mkF m 11 #[.val (.int x0), .val (.int x1), .val (.int x2), .unset, .unset, .unset, .unset] [(.int (1 : Int32)), (.ref b1), (.ref b1)])) (fun _ k => XS.iconst X2.here hx rfl (hb hby at_10) k) ?_
    refine own_step (T' := T2) (g' := (mkF m 13 #[.val (.int x0), .val (.int x1), .val (.int x2), .unset, .unset, .unset, .unset] [(.int (90 : Int32)), (.int (1 : Int32)), (.ref b1), (.ref b1)])) (fun _ k => XS.bipush X2.here hx rfl (hb hby at_11) k) ?_
    obtain ⟨cl3, Ar3, q3, S3, M3, H3, G3⟩ := V2
    obtain ⟨T3, h3, X3, e3, W3, st3⟩ := stI X2 hx hZ e2 Ar3 (j := (1 : Int32)) (inb_of S3 ⟨by decide, by decide⟩) (g := (mkF m 13 #[.val (.int x0), .val (.int x1), .val (.int x2), .unset, .unset, .unset, .unset] [(.int (90 : Int32)), (.int (1 : Int32)), (.ref b1), (.ref b1)])) rfl rfl (hb hby at_13)
    have V3 : Arv Z h3 b1 k1 .int (28 : Int32) [(.int (65 : Int32)), (.int (90 : Int32)), (.int (0 : Int32)), (.int (0 : Int32)), (.int (0 : Int32)), (.int (0 : Int32)), (.int (0 : Int32)), (.int (0 : Int32)), (.int (0 : Int32)), (.int (0 : Int32)), (.int (0 : Int32)), (.int (0 : Int32)), (.int (0 : Int32)), (.int (0 : Int32)), (.int (0 : Int32)), (.int (0 : Int32)), (.int (0 : Int32)), (.int (0 : Int32)), (.int (0 : Int32)), (.int (0 : Int32)), (.int (0 : Int32)), (.int (0 : Int32)), (.int (0 : Int32)), (.int (0 : Int32)), (.int (0 : Int32)), (.int (0 : Int32)), (.int (0 : Int32)), (.int (0 : Int32))] (.int (0 : Int32)) := Arv.set Ar3 q3 S3 M3 H3 G3 rfl W3 1 rfl (Nat.le_of_ble_eq_true rfl)
    have N3 := Fr.snoc X3 N2 g_b1
    have Z3 : n0 ≤ h3.size := Nat.le_trans Z2 (Keep.of_wr W3).1
    refine own_step (T' := T3) (g' := (mkF m 14 #[.val (.int x0), .val (.int x1), .val (.int x2), .unset, .unset, .unset, .unset] [(.ref b1)])) (fun _ k => st3 _ k) ?_
    refine own_step (T' := T3) (g' := (mkF m 15 #[.val (.int x0), .val (.int x1), .val (.int x2), .unset, .unset, .unset, .unset] [(.ref b1), (.ref b1)])) (fun _ k => XS.dup X3.here hx rfl (hb hby at_14) rfl rfl k) ?_
    refine own_step (T' := T3) (g' := (mkF m 16 #[.val (.int x0), .val (.int x1), .val (.int x2), .unset, .unset, .unset, .unset] [(.int (2 : Int32)), (.ref b1), (.ref b1)])) (fun _ k => XS.iconst X3.here hx rfl (hb hby at_15) k) ?_
    refine own_step (T' := T3) (g' := (mkF m 18 #[.val (.int x0), .val (.int x1), .val (.int x2), .unset, .unset, .unset, .unset] [(.int (97 : Int32)), (.int (2 : Int32)), (.ref b1), (.ref b1)])) (fun _ k => XS.bipush X3.here hx rfl (hb hby at_16) k) ?_
    obtain ⟨cl4, Ar4, q4, S4, M4, H4, G4⟩ := V3
    obtain ⟨T4, h4, X4, e4, W4, st4⟩ := stI X3 hx hZ e3 Ar4 (j := (2 : Int32)) (inb_of S4 ⟨by decide, by decide⟩) (g := (mkF m 18 #[.val (.int x0), .val (.int x1), .val (.int x2), .unset, .unset, .unset, .unset] [(.int (97 : Int32)), (.int (2 : Int32)), (.ref b1), (.ref b1)])) rfl rfl (hb hby at_18)
    have V4 : Arv Z h4 b1 k1 .int (28 : Int32) [(.int (65 : Int32)), (.int (90 : Int32)), (.int (97 : Int32)), (.int (0 : Int32)), (.int (0 : Int32)), (.int (0 : Int32)), (.int (0 : Int32)), (.int (0 : Int32)), (.int (0 : Int32)), (.int (0 : Int32)), (.int (0 : Int32)), (.int (0 : Int32)), (.int (0 : Int32)), (.int (0 : Int32)), (.int (0 : Int32)), (.int (0 : Int32)), (.int (0 : Int32)), (.int (0 : Int32)), (.int (0 : Int32)), (.int (0 : Int32)), (.int (0 : Int32)), (.int (0 : Int32)), (.int (0 : Int32)), (.int (0 : Int32)), (.int (0 : Int32)), (.int (0 : Int32)), (.int (0 : Int32)), (.int (0 : Int32))] (.int (0 : Int32)) := Arv.set Ar4 q4 S4 M4 H4 G4 rfl W4 2 rfl (Nat.le_of_ble_eq_true rfl)
    have N4 := Fr.snoc X4 N3 g_b1
    have Z4 : n0 ≤ h4.size := Nat.le_trans Z3 (Keep.of_wr W4).1
    refine own_step (T' := T4) (g' := (mkF m 19 #[.val (.int x0), .val (.int x1), .val (.int x2), .unset, .unset, .unset, .unset] [(.ref b1)])) (fun _ k => st4 _ k) ?_
    refine own_step (T' := T4) (g' := (mkF m 20 #[.val (.int x0), .val (.int x1), .val (.int x2), .unset, .unset, .unset, .unset] [(.ref b1), (.ref b1)])) (fun _ k => XS.dup X4.here hx rfl (hb hby at_19) rfl rfl k) ?_
    refine own_step (T' := T4) (g' := (mkF m 21 #[.val (.int x0), .val (.int x1), .val (.int x2), .unset, .unset, .unset, .unset] [(.int (3 : Int32)), (.ref b1), (.ref b1)])) (fun _ k => XS.iconst X4.here hx rfl (hb hby at_20) k) ?_
    refine own_step (T' := T4) (g' := (mkF m 23 #[.val (.int x0), .val (.int x1), .val (.int x2), .unset, .unset, .unset, .unset] [(.int (122 : Int32)), (.int (3 : Int32)), (.ref b1), (.ref b1)])) (fun _ k => XS.bipush X4.here hx rfl (hb hby at_21) k) ?_
    obtain ⟨cl5, Ar5, q5, S5, M5, H5, G5⟩ := V4
    obtain ⟨T5, h5, X5, e5, W5, st5⟩ := stI X4 hx hZ e4 Ar5 (j := (3 : Int32)) (inb_of S5 ⟨by decide, by decide⟩) (g := (mkF m 23 #[.val (.int x0), .val (.int x1), .val (.int x2), .unset, .unset, .unset, .unset] [(.int (122 : Int32)), (.int (3 : Int32)), (.ref b1), (.ref b1)])) rfl rfl (hb hby at_23)
    have V5 : Arv Z h5 b1 k1 .int (28 : Int32) [(.int (65 : Int32)), (.int (90 : Int32)), (.int (97 : Int32)), (.int (122 : Int32)), (.int (0 : Int32)), (.int (0 : Int32)), (.int (0 : Int32)), (.int (0 : Int32)), (.int (0 : Int32)), (.int (0 : Int32)), (.int (0 : Int32)), (.int (0 : Int32)), (.int (0 : Int32)), (.int (0 : Int32)), (.int (0 : Int32)), (.int (0 : Int32)), (.int (0 : Int32)), (.int (0 : Int32)), (.int (0 : Int32)), (.int (0 : Int32)), (.int (0 : Int32)), (.int (0 : Int32)), (.int (0 : Int32)), (.int (0 : Int32)), (.int (0 : Int32)), (.int (0 : Int32)), (.int (0 : Int32)), (.int (0 : Int32))] (.int (0 : Int32)) := Arv.set Ar5 q5 S5 M5 H5 G5 rfl W5 3 rfl (Nat.le_of_ble_eq_true rfl)
    have N5 := Fr.snoc X5 N4 g_b1
    have Z5 : n0 ≤ h5.size := Nat.le_trans Z4 (Keep.of_wr W5).1
    refine own_step (T' := T5) (g' := (mkF m 24 #[.val (.int x0), .val (.int x1), .val (.int x2), .unset, .unset, .unset, .unset] [(.ref b1)])) (fun _ k => st5 _ k) ?_
    refine own_step (T' := T5) (g' := (mkF m 25 #[.val (.int x0), .val (.int x1), .val (.int x2), .unset, .unset, .unset, .unset] [(.ref b1), (.ref b1)])) (fun _ k => XS.dup X5.here hx rfl (hb hby at_24) rfl rfl k) ?_
    refine own_step (T' := T5) (g' := (mkF m 26 #[.val (.int x0), .val (.int x1), .val (.int x2), .unset, .unset, .unset, .unset] [(.int (4 : Int32)), (.ref b1), (.ref b1)])) (fun _ k => XS.iconst X5.here hx rfl (hb hby at_25) k) ?_
    refine own_step (T' := T5) (g' := (mkF m 29 #[.val (.int x0), .val (.int x1), .val (.int x2), .unset, .unset, .unset, .unset] [(.int (192 : Int32)), (.int (4 : Int32)), (.ref b1), (.ref b1)])) (fun _ k => XS.sipush X5.here hx rfl (hb hby at_26) k) ?_
    obtain ⟨cl6, Ar6, q6, S6, M6, H6, G6⟩ := V5
    obtain ⟨T6, h6, X6, e6, W6, st6⟩ := stI X5 hx hZ e5 Ar6 (j := (4 : Int32)) (inb_of S6 ⟨by decide, by decide⟩) (g := (mkF m 29 #[.val (.int x0), .val (.int x1), .val (.int x2), .unset, .unset, .unset, .unset] [(.int (192 : Int32)), (.int (4 : Int32)), (.ref b1), (.ref b1)])) rfl rfl (hb hby at_29)
    have V6 : Arv Z h6 b1 k1 .int (28 : Int32) [(.int (65 : Int32)), (.int (90 : Int32)), (.int (97 : Int32)), (.int (122 : Int32)), (.int (192 : Int32)), (.int (0 : Int32)), (.int (0 : Int32)), (.int (0 : Int32)), (.int (0 : Int32)), (.int (0 : Int32)), (.int (0 : Int32)), (.int (0 : Int32)), (.int (0 : Int32)), (.int (0 : Int32)), (.int (0 : Int32)), (.int (0 : Int32)), (.int (0 : Int32)), (.int (0 : Int32)), (.int (0 : Int32)), (.int (0 : Int32)), (.int (0 : Int32)), (.int (0 : Int32)), (.int (0 : Int32)), (.int (0 : Int32)), (.int (0 : Int32)), (.int (0 : Int32)), (.int (0 : Int32)), (.int (0 : Int32))] (.int (0 : Int32)) := Arv.set Ar6 q6 S6 M6 H6 G6 rfl W6 4 rfl (Nat.le_of_ble_eq_true rfl)
    have N6 := Fr.snoc X6 N5 g_b1
    have Z6 : n0 ≤ h6.size := Nat.le_trans Z5 (Keep.of_wr W6).1
    refine own_step (T' := T6) (g' := (mkF m 30 #[.val (.int x0), .val (.int x1), .val (.int x2), .unset, .unset, .unset, .unset] [(.ref b1)])) (fun _ k => st6 _ k) ?_
    refine own_step (T' := T6) (g' := (mkF m 31 #[.val (.int x0), .val (.int x1), .val (.int x2), .unset, .unset, .unset, .unset] [(.ref b1), (.ref b1)])) (fun _ k => XS.dup X6.here hx rfl (hb hby at_30) rfl rfl k) ?_
    refine own_step (T' := T6) (g' := (mkF m 32 #[.val (.int x0), .val (.int x1), .val (.int x2), .unset, .unset, .unset, .unset] [(.int (5 : Int32)), (.ref b1), (.ref b1)])) (fun _ k => XS.iconst X6.here hx rfl (hb hby at_31) k) ?_
    refine own_step (T' := T6) (g' := (mkF m 35 #[.val (.int x0), .val (.int x1), .val (.int x2), .unset, .unset, .unset, .unset] [(.int (214 : Int32)), (.int (5 : Int32)), (.ref b1), (.ref b1)])) (fun _ k => XS.sipush X6.here hx rfl (hb hby at_32) k) ?_
    obtain ⟨cl7, Ar7, q7, S7, M7, H7, G7⟩ := V6
    obtain ⟨T7, h7, X7, e7, W7, st7⟩ := stI X6 hx hZ e6 Ar7 (j := (5 : Int32)) (inb_of S7 ⟨by decide, by decide⟩) (g := (mkF m 35 #[.val (.int x0), .val (.int x1), .val (.int x2), .unset, .unset, .unset, .unset] [(.int (214 : Int32)), (.int (5 : Int32)), (.ref b1), (.ref b1)])) rfl rfl (hb hby at_35)
    have V7 : Arv Z h7 b1 k1 .int (28 : Int32) [(.int (65 : Int32)), (.int (90 : Int32)), (.int (97 : Int32)), (.int (122 : Int32)), (.int (192 : Int32)), (.int (214 : Int32)), (.int (0 : Int32)), (.int (0 : Int32)), (.int (0 : Int32)), (.int (0 : Int32)), (.int (0 : Int32)), (.int (0 : Int32)), (.int (0 : Int32)), (.int (0 : Int32)), (.int (0 : Int32)), (.int (0 : Int32)), (.int (0 : Int32)), (.int (0 : Int32)), (.int (0 : Int32)), (.int (0 : Int32)), (.int (0 : Int32)), (.int (0 : Int32)), (.int (0 : Int32)), (.int (0 : Int32)), (.int (0 : Int32)), (.int (0 : Int32)), (.int (0 : Int32)), (.int (0 : Int32))] (.int (0 : Int32)) := Arv.set Ar7 q7 S7 M7 H7 G7 rfl W7 5 rfl (Nat.le_of_ble_eq_true rfl)
    have N7 := Fr.snoc X7 N6 g_b1
    have Z7 : n0 ≤ h7.size := Nat.le_trans Z6 (Keep.of_wr W7).1
    refine own_step (T' := T7) (g' := (mkF m 36 #[.val (.int x0), .val (.int x1), .val (.int x2), .unset, .unset, .unset, .unset] [(.ref b1)])) (fun _ k => st7 _ k) ?_
    refine own_step (T' := T7) (g' := (mkF m 37 #[.val (.int x0), .val (.int x1), .val (.int x2), .unset, .unset, .unset, .unset] [(.ref b1), (.ref b1)])) (fun _ k => XS.dup X7.here hx rfl (hb hby at_36) rfl rfl k) ?_
    refine own_step (T' := T7) (g' := (mkF m 39 #[.val (.int x0), .val (.int x1), .val (.int x2), .unset, .unset, .unset, .unset] [(.int (6 : Int32)), (.ref b1), (.ref b1)])) (fun _ k => XS.bipush X7.here hx rfl (hb hby at_37) k) ?_
    refine own_step (T' := T7) (g' := (mkF m 42 #[.val (.int x0), .val (.int x1), .val (.int x2), .unset, .unset, .unset, .unset] [(.int (216 : Int32)), (.int (6 : Int32)), (.ref b1), (.ref b1)])) (fun _ k => XS.sipush X7.here hx rfl (hb hby at_39) k) ?_
    obtain ⟨cl8, Ar8, q8, S8, M8, H8, G8⟩ := V7
    obtain ⟨T8, h8, X8, e8, W8, st8⟩ := stI X7 hx hZ e7 Ar8 (j := (6 : Int32)) (inb_of S8 ⟨by decide, by decide⟩) (g := (mkF m 42 #[.val (.int x0), .val (.int x1), .val (.int x2), .unset, .unset, .unset, .unset] [(.int (216 : Int32)), (.int (6 : Int32)), (.ref b1), (.ref b1)])) rfl rfl (hb hby at_42)
    have V8 : Arv Z h8 b1 k1 .int (28 : Int32) [(.int (65 : Int32)), (.int (90 : Int32)), (.int (97 : Int32)), (.int (122 : Int32)), (.int (192 : Int32)), (.int (214 : Int32)), (.int (216 : Int32)), (.int (0 : Int32)), (.int (0 : Int32)), (.int (0 : Int32)), (.int (0 : Int32)), (.int (0 : Int32)), (.int (0 : Int32)), (.int (0 : Int32)), (.int (0 : Int32)), (.int (0 : Int32)), (.int (0 : Int32)), (.int (0 : Int32)), (.int (0 : Int32)), (.int (0 : Int32)), (.int (0 : Int32)), (.int (0 : Int32)), (.int (0 : Int32)), (.int (0 : Int32)), (.int (0 : Int32)), (.int (0 : Int32)), (.int (0 : Int32)), (.int (0 : Int32))] (.int (0 : Int32)) := Arv.set Ar8 q8 S8 M8 H8 G8 rfl W8 6 rfl (Nat.le_of_ble_eq_true rfl)
    have N8 := Fr.snoc X8 N7 g_b1
    have Z8 : n0 ≤ h8.size := Nat.le_trans Z7 (Keep.of_wr W8).1
    refine own_step (T' := T8) (g' := (mkF m 43 #[.val (.int x0), .val (.int x1), .val (.int x2), .unset, .unset, .unset, .unset] [(.ref b1)])) (fun _ k => st8 _ k) ?_
    refine own_step (T' := T8) (g' := (mkF m 44 #[.val (.int x0), .val (.int x1), .val (.int x2), .unset, .unset, .unset, .unset] [(.ref b1), (.ref b1)])) (fun _ k => XS.dup X8.here hx rfl (hb hby at_43) rfl rfl k) ?_
    refine own_step (T' := T8) (g' := (mkF m 46 #[.val (.int x0), .val (.int x1), .val (.int x2), .unset, .unset, .unset, .unset] [(.int (7 : Int32)), (.ref b1), (.ref b1)])) (fun _ k => XS.bipush X8.here hx rfl (hb hby at_44) k) ?_
    refine own_step (T' := T8) (g' := (mkF m 49 #[.val (.int x0), .val (.int x1), .val (.int x2), .unset, .unset, .unset, .unset] [(.int (246 : Int32)), (.int (7 : Int32)), (.ref b1), (.ref b1)])) (fun _ k => XS.sipush X8.here hx rfl (hb hby at_46) k) ?_
    obtain ⟨cl9, Ar9, q9, S9, M9, H9, G9⟩ := V8
    obtain ⟨T9, h9, X9, e9, W9, st9⟩ := stI X8 hx hZ e8 Ar9 (j := (7 : Int32)) (inb_of S9 ⟨by decide, by decide⟩) (g := (mkF m 49 #[.val (.int x0), .val (.int x1), .val (.int x2), .unset, .unset, .unset, .unset] [(.int (246 : Int32)), (.int (7 : Int32)), (.ref b1), (.ref b1)])) rfl rfl (hb hby at_49)
    have V9 : Arv Z h9 b1 k1 .int (28 : Int32) [(.int (65 : Int32)), (.int (90 : Int32)), (.int (97 : Int32)), (.int (122 : Int32)), (.int (192 : Int32)), (.int (214 : Int32)), (.int (216 : Int32)), (.int (246 : Int32)), (.int (0 : Int32)), (.int (0 : Int32)), (.int (0 : Int32)), (.int (0 : Int32)), (.int (0 : Int32)), (.int (0 : Int32)), (.int (0 : Int32)), (.int (0 : Int32)), (.int (0 : Int32)), (.int (0 : Int32)), (.int (0 : Int32)), (.int (0 : Int32)), (.int (0 : Int32)), (.int (0 : Int32)), (.int (0 : Int32)), (.int (0 : Int32)), (.int (0 : Int32)), (.int (0 : Int32)), (.int (0 : Int32)), (.int (0 : Int32))] (.int (0 : Int32)) := Arv.set Ar9 q9 S9 M9 H9 G9 rfl W9 7 rfl (Nat.le_of_ble_eq_true rfl)
    have N9 := Fr.snoc X9 N8 g_b1
    have Z9 : n0 ≤ h9.size := Nat.le_trans Z8 (Keep.of_wr W9).1
    refine own_step (T' := T9) (g' := (mkF m 50 #[.val (.int x0), .val (.int x1), .val (.int x2), .unset, .unset, .unset, .unset] [(.ref b1)])) (fun _ k => st9 _ k) ?_
    refine own_step (T' := T9) (g' := (mkF m 51 #[.val (.int x0), .val (.int x1), .val (.int x2), .unset, .unset, .unset, .unset] [(.ref b1), (.ref b1)])) (fun _ k => XS.dup X9.here hx rfl (hb hby at_50) rfl rfl k) ?_
    refine own_step (T' := T9) (g' := (mkF m 53 #[.val (.int x0), .val (.int x1), .val (.int x2), .unset, .unset, .unset, .unset] [(.int (8 : Int32)), (.ref b1), (.ref b1)])) (fun _ k => XS.bipush X9.here hx rfl (hb hby at_51) k) ?_
    refine own_step (T' := T9) (g' := (mkF m 56 #[.val (.int x0), .val (.int x1), .val (.int x2), .unset, .unset, .unset, .unset] [(.int (248 : Int32)), (.int (8 : Int32)), (.ref b1), (.ref b1)])) (fun _ k => XS.sipush X9.here hx rfl (hb hby at_53) k) ?_
    obtain ⟨cl10, Ar10, q10, S10, M10, H10, G10⟩ := V9
    obtain ⟨T10, h10, X10, e10, W10, st10⟩ := stI X9 hx hZ e9 Ar10 (j := (8 : Int32)) (inb_of S10 ⟨by decide, by decide⟩) (g := (mkF m 56 #[.val (.int x0), .val (.int x1), .val (.int x2), .unset, .unset, .unset, .unset] [(.int (248 : Int32)), (.int (8 : Int32)), (.ref b1), (.ref b1)])) rfl rfl (hb hby at_56)
    have V10 : Arv Z h10 b1 k1 .int (28 : Int32) [(.int (65 : Int32)), (.int (90 : Int32)), (.int (97 : Int32)), (.int (122 : Int32)), (.int (192 : Int32)), (.int (214 : Int32)), (.int (216 : Int32)), (.int (246 : Int32)), (.int (248 : Int32)), (.int (0 : Int32)), (.int (0 : Int32)), (.int (0 : Int32)), (.int (0 : Int32)), (.int (0 : Int32)), (.int (0 : Int32)), (.int (0 : Int32)), (.int (0 : Int32)), (.int (0 : Int32)), (.int (0 : Int32)), (.int (0 : Int32)), (.int (0 : Int32)), (.int (0 : Int32)), (.int (0 : Int32)), (.int (0 : Int32)), (.int (0 : Int32)), (.int (0 : Int32)), (.int (0 : Int32)), (.int (0 : Int32))] (.int (0 : Int32)) := Arv.set Ar10 q10 S10 M10 H10 G10 rfl W10 8 rfl (Nat.le_of_ble_eq_true rfl)
    have N10 := Fr.snoc X10 N9 g_b1
    have Z10 : n0 ≤ h10.size := Nat.le_trans Z9 (Keep.of_wr W10).1
    refine own_step (T' := T10) (g' := (mkF m 57 #[.val (.int x0), .val (.int x1), .val (.int x2), .unset, .unset, .unset, .unset] [(.ref b1)])) (fun _ k => st10 _ k) ?_
    refine own_step (T' := T10) (g' := (mkF m 58 #[.val (.int x0), .val (.int x1), .val (.int x2), .unset, .unset, .unset, .unset] [(.ref b1), (.ref b1)])) (fun _ k => XS.dup X10.here hx rfl (hb hby at_57) rfl rfl k) ?_
    refine own_step (T' := T10) (g' := (mkF m 60 #[.val (.int x0), .val (.int x1), .val (.int x2), .unset, .unset, .unset, .unset] [(.int (9 : Int32)), (.ref b1), (.ref b1)])) (fun _ k => XS.bipush X10.here hx rfl (hb hby at_58) k) ?_
    refine own_step (T' := T10) (g' := (mkF m 63 #[.val (.int x0), .val (.int x1), .val (.int x2), .unset, .unset, .unset, .unset] [(.int (767 : Int32)), (.int (9 : Int32)), (.ref b1), (.ref b1)])) (fun _ k => XS.sipush X10.here hx rfl (hb hby at_60) k) ?_
    obtain ⟨cl11, Ar11, q11, S11, M11, H11, G11⟩ := V10
    obtain ⟨T11, h11, X11, e11, W11, st11⟩ := stI X10 hx hZ e10 Ar11 (j := (9 : Int32)) (inb_of S11 ⟨by decide, by decide⟩) (g := (mkF m 63 #[.val (.int x0), .val (.int x1), .val (.int x2), .unset, .unset, .unset, .unset] [(.int (767 : Int32)), (.int (9 : Int32)), (.ref b1), (.ref b1)])) rfl rfl (hb hby at_63)
    have V11 : Arv Z h11 b1 k1 .int (28 : Int32) [(.int (65 : Int32)), (.int (90 : Int32)), (.int (97 : Int32)), (.int (122 : Int32)), (.int (192 : Int32)), (.int (214 : Int32)), (.int (216 : Int32)), (.int (246 : Int32)), (.int (248 : Int32)), (.int (767 : Int32)), (.int (0 : Int32)), (.int (0 : Int32)), (.int (0 : Int32)), (.int (0 : Int32)), (.int (0 : Int32)), (.int (0 : Int32)), (.int (0 : Int32)), (.int (0 : Int32)), (.int (0 : Int32)), (.int (0 : Int32)), (.int (0 : Int32)), (.int (0 : Int32)), (.int (0 : Int32)), (.int (0 : Int32)), (.int (0 : Int32)), (.int (0 : Int32)), (.int (0 : Int32)), (.int (0 : Int32))] (.int (0 : Int32)) := Arv.set Ar11 q11 S11 M11 H11 G11 rfl W11 9 rfl (Nat.le_of_ble_eq_true rfl)
    have N11 := Fr.snoc X11 N10 g_b1
    have Z11 : n0 ≤ h11.size := Nat.le_trans Z10 (Keep.of_wr W11).1
    refine own_step (T' := T11) (g' := (mkF m 64 #[.val (.int x0), .val (.int x1), .val (.int x2), .unset, .unset, .unset, .unset] [(.ref b1)])) (fun _ k => st11 _ k) ?_
    refine own_step (T' := T11) (g' := (mkF m 65 #[.val (.int x0), .val (.int x1), .val (.int x2), .unset, .unset, .unset, .unset] [(.ref b1), (.ref b1)])) (fun _ k => XS.dup X11.here hx rfl (hb hby at_64) rfl rfl k) ?_
    refine own_step (T' := T11) (g' := (mkF m 67 #[.val (.int x0), .val (.int x1), .val (.int x2), .unset, .unset, .unset, .unset] [(.int (10 : Int32)), (.ref b1), (.ref b1)])) (fun _ k => XS.bipush X11.here hx rfl (hb hby at_65) k) ?_
    refine own_step (T' := T11) (g' := (mkF m 70 #[.val (.int x0), .val (.int x1), .val (.int x2), .unset, .unset, .unset, .unset] [(.int (880 : Int32)), (.int (10 : Int32)), (.ref b1), (.ref b1)])) (fun _ k => XS.sipush X11.here hx rfl (hb hby at_67) k) ?_
    obtain ⟨cl12, Ar12, q12, S12, M12, H12, G12⟩ := V11
    obtain ⟨T12, h12, X12, e12, W12, st12⟩ := stI X11 hx hZ e11 Ar12 (j := (10 : Int32)) (inb_of S12 ⟨by decide, by decide⟩) (g := (mkF m 70 #[.val (.int x0), .val (.int x1), .val (.int x2), .unset, .unset, .unset, .unset] [(.int (880 : Int32)), (.int (10 : Int32)), (.ref b1), (.ref b1)])) rfl rfl (hb hby at_70)
    have V12 : Arv Z h12 b1 k1 .int (28 : Int32) [(.int (65 : Int32)), (.int (90 : Int32)), (.int (97 : Int32)), (.int (122 : Int32)), (.int (192 : Int32)), (.int (214 : Int32)), (.int (216 : Int32)), (.int (246 : Int32)), (.int (248 : Int32)), (.int (767 : Int32)), (.int (880 : Int32)), (.int (0 : Int32)), (.int (0 : Int32)), (.int (0 : Int32)), (.int (0 : Int32)), (.int (0 : Int32)), (.int (0 : Int32)), (.int (0 : Int32)), (.int (0 : Int32)), (.int (0 : Int32)), (.int (0 : Int32)), (.int (0 : Int32)), (.int (0 : Int32)), (.int (0 : Int32)), (.int (0 : Int32)), (.int (0 : Int32)), (.int (0 : Int32)), (.int (0 : Int32))] (.int (0 : Int32)) := Arv.set Ar12 q12 S12 M12 H12 G12 rfl W12 10 rfl (Nat.le_of_ble_eq_true rfl)
    have N12 := Fr.snoc X12 N11 g_b1
    have Z12 : n0 ≤ h12.size := Nat.le_trans Z11 (Keep.of_wr W12).1
    refine own_step (T' := T12) (g' := (mkF m 71 #[.val (.int x0), .val (.int x1), .val (.int x2), .unset, .unset, .unset, .unset] [(.ref b1)])) (fun _ k => st12 _ k) ?_
    refine own_step (T' := T12) (g' := (mkF m 72 #[.val (.int x0), .val (.int x1), .val (.int x2), .unset, .unset, .unset, .unset] [(.ref b1), (.ref b1)])) (fun _ k => XS.dup X12.here hx rfl (hb hby at_71) rfl rfl k) ?_
    refine own_step (T' := T12) (g' := (mkF m 74 #[.val (.int x0), .val (.int x1), .val (.int x2), .unset, .unset, .unset, .unset] [(.int (11 : Int32)), (.ref b1), (.ref b1)])) (fun _ k => XS.bipush X12.here hx rfl (hb hby at_72) k) ?_
    refine own_step (T' := T12) (g' := (mkF m 77 #[.val (.int x0), .val (.int x1), .val (.int x2), .unset, .unset, .unset, .unset] [(.int (893 : Int32)), (.int (11 : Int32)), (.ref b1), (.ref b1)])) (fun _ k => XS.sipush X12.here hx rfl (hb hby at_74) k) ?_
    obtain ⟨cl13, Ar13, q13, S13, M13, H13, G13⟩ := V12
    obtain ⟨T13, h13, X13, e13, W13, st13⟩ := stI X12 hx hZ e12 Ar13 (j := (11 : Int32)) (inb_of S13 ⟨by decide, by decide⟩) (g := (mkF m 77 #[.val (.int x0), .val (.int x1), .val (.int x2), .unset, .unset, .unset, .unset] [(.int (893 : Int32)), (.int (11 : Int32)), (.ref b1), (.ref b1)])) rfl rfl (hb hby at_77)
    have V13 : Arv Z h13 b1 k1 .int (28 : Int32) [(.int (65 : Int32)), (.int (90 : Int32)), (.int (97 : Int32)), (.int (122 : Int32)), (.int (192 : Int32)), (.int (214 : Int32)), (.int (216 : Int32)), (.int (246 : Int32)), (.int (248 : Int32)), (.int (767 : Int32)), (.int (880 : Int32)), (.int (893 : Int32)), (.int (0 : Int32)), (.int (0 : Int32)), (.int (0 : Int32)), (.int (0 : Int32)), (.int (0 : Int32)), (.int (0 : Int32)), (.int (0 : Int32)), (.int (0 : Int32)), (.int (0 : Int32)), (.int (0 : Int32)), (.int (0 : Int32)), (.int (0 : Int32)), (.int (0 : Int32)), (.int (0 : Int32)), (.int (0 : Int32)), (.int (0 : Int32))] (.int (0 : Int32)) := Arv.set Ar13 q13 S13 M13 H13 G13 rfl W13 11 rfl (Nat.le_of_ble_eq_true rfl)
    have N13 := Fr.snoc X13 N12 g_b1
    have Z13 : n0 ≤ h13.size := Nat.le_trans Z12 (Keep.of_wr W13).1
    refine own_step (T' := T13) (g' := (mkF m 78 #[.val (.int x0), .val (.int x1), .val (.int x2), .unset, .unset, .unset, .unset] [(.ref b1)])) (fun _ k => st13 _ k) ?_
    refine own_step (T' := T13) (g' := (mkF m 79 #[.val (.int x0), .val (.int x1), .val (.int x2), .unset, .unset, .unset, .unset] [(.ref b1), (.ref b1)])) (fun _ k => XS.dup X13.here hx rfl (hb hby at_78) rfl rfl k) ?_
    refine own_step (T' := T13) (g' := (mkF m 81 #[.val (.int x0), .val (.int x1), .val (.int x2), .unset, .unset, .unset, .unset] [(.int (12 : Int32)), (.ref b1), (.ref b1)])) (fun _ k => XS.bipush X13.here hx rfl (hb hby at_79) k) ?_
    refine own_step (T' := T13) (g' := (mkF m 84 #[.val (.int x0), .val (.int x1), .val (.int x2), .unset, .unset, .unset, .unset] [(.int (895 : Int32)), (.int (12 : Int32)), (.ref b1), (.ref b1)])) (fun _ k => XS.sipush X13.here hx rfl (hb hby at_81) k) ?_
    obtain ⟨cl14, Ar14, q14, S14, M14, H14, G14⟩ := V13
    obtain ⟨T14, h14, X14, e14, W14, st14⟩ := stI X13 hx hZ e13 Ar14 (j := (12 : Int32)) (inb_of S14 ⟨by decide, by decide⟩) (g := (mkF m 84 #[.val (.int x0), .val (.int x1), .val (.int x2), .unset, .unset, .unset, .unset] [(.int (895 : Int32)), (.int (12 : Int32)), (.ref b1), (.ref b1)])) rfl rfl (hb hby at_84)
    have V14 : Arv Z h14 b1 k1 .int (28 : Int32) [(.int (65 : Int32)), (.int (90 : Int32)), (.int (97 : Int32)), (.int (122 : Int32)), (.int (192 : Int32)), (.int (214 : Int32)), (.int (216 : Int32)), (.int (246 : Int32)), (.int (248 : Int32)), (.int (767 : Int32)), (.int (880 : Int32)), (.int (893 : Int32)), (.int (895 : Int32)), (.int (0 : Int32)), (.int (0 : Int32)), (.int (0 : Int32)), (.int (0 : Int32)), (.int (0 : Int32)), (.int (0 : Int32)), (.int (0 : Int32)), (.int (0 : Int32)), (.int (0 : Int32)), (.int (0 : Int32)), (.int (0 : Int32)), (.int (0 : Int32)), (.int (0 : Int32)), (.int (0 : Int32)), (.int (0 : Int32))] (.int (0 : Int32)) := Arv.set Ar14 q14 S14 M14 H14 G14 rfl W14 12 rfl (Nat.le_of_ble_eq_true rfl)
    have N14 := Fr.snoc X14 N13 g_b1
    have Z14 : n0 ≤ h14.size := Nat.le_trans Z13 (Keep.of_wr W14).1
    refine own_step (T' := T14) (g' := (mkF m 85 #[.val (.int x0), .val (.int x1), .val (.int x2), .unset, .unset, .unset, .unset] [(.ref b1)])) (fun _ k => st14 _ k) ?_
    refine own_step (T' := T14) (g' := (mkF m 86 #[.val (.int x0), .val (.int x1), .val (.int x2), .unset, .unset, .unset, .unset] [(.ref b1), (.ref b1)])) (fun _ k => XS.dup X14.here hx rfl (hb hby at_85) rfl rfl k) ?_
    refine own_step (T' := T14) (g' := (mkF m 88 #[.val (.int x0), .val (.int x1), .val (.int x2), .unset, .unset, .unset, .unset] [(.int (13 : Int32)), (.ref b1), (.ref b1)])) (fun _ k => XS.bipush X14.here hx rfl (hb hby at_86) k) ?_
    refine own_step (T' := T14) (g' := (mkF m 91 #[.val (.int x0), .val (.int x1), .val (.int x2), .unset, .unset, .unset, .unset] [(.int (8191 : Int32)), (.int (13 : Int32)), (.ref b1), (.ref b1)])) (fun _ k => XS.sipush X14.here hx rfl (hb hby at_88) k) ?_
    obtain ⟨cl15, Ar15, q15, S15, M15, H15, G15⟩ := V14
    obtain ⟨T15, h15, X15, e15, W15, st15⟩ := stI X14 hx hZ e14 Ar15 (j := (13 : Int32)) (inb_of S15 ⟨by decide, by decide⟩) (g := (mkF m 91 #[.val (.int x0), .val (.int x1), .val (.int x2), .unset, .unset, .unset, .unset] [(.int (8191 : Int32)), (.int (13 : Int32)), (.ref b1), (.ref b1)])) rfl rfl (hb hby at_91)
    have V15 : Arv Z h15 b1 k1 .int (28 : Int32) [(.int (65 : Int32)), (.int (90 : Int32)), (.int (97 : Int32)), (.int (122 : Int32)), (.int (192 : Int32)), (.int (214 : Int32)), (.int (216 : Int32)), (.int (246 : Int32)), (.int (248 : Int32)), (.int (767 : Int32)), (.int (880 : Int32)), (.int (893 : Int32)), (.int (895 : Int32)), (.int (8191 : Int32)), (.int (0 : Int32)), (.int (0 : Int32)), (.int (0 : Int32)), (.int (0 : Int32)), (.int (0 : Int32)), (.int (0 : Int32)), (.int (0 : Int32)), (.int (0 : Int32)), (.int (0 : Int32)), (.int (0 : Int32)), (.int (0 : Int32)), (.int (0 : Int32)), (.int (0 : Int32)), (.int (0 : Int32))] (.int (0 : Int32)) := Arv.set Ar15 q15 S15 M15 H15 G15 rfl W15 13 rfl (Nat.le_of_ble_eq_true rfl)
    have N15 := Fr.snoc X15 N14 g_b1
    have Z15 : n0 ≤ h15.size := Nat.le_trans Z14 (Keep.of_wr W15).1
    refine own_step (T' := T15) (g' := (mkF m 92 #[.val (.int x0), .val (.int x1), .val (.int x2), .unset, .unset, .unset, .unset] [(.ref b1)])) (fun _ k => st15 _ k) ?_
    refine own_step (T' := T15) (g' := (mkF m 93 #[.val (.int x0), .val (.int x1), .val (.int x2), .unset, .unset, .unset, .unset] [(.ref b1), (.ref b1)])) (fun _ k => XS.dup X15.here hx rfl (hb hby at_92) rfl rfl k) ?_
    refine own_step (T' := T15) (g' := (mkF m 95 #[.val (.int x0), .val (.int x1), .val (.int x2), .unset, .unset, .unset, .unset] [(.int (14 : Int32)), (.ref b1), (.ref b1)])) (fun _ k => XS.bipush X15.here hx rfl (hb hby at_93) k) ?_
    refine own_step (T' := T15) (g' := (mkF m 98 #[.val (.int x0), .val (.int x1), .val (.int x2), .unset, .unset, .unset, .unset] [(.int (8204 : Int32)), (.int (14 : Int32)), (.ref b1), (.ref b1)])) (fun _ k => XS.sipush X15.here hx rfl (hb hby at_95) k) ?_
    obtain ⟨cl16, Ar16, q16, S16, M16, H16, G16⟩ := V15
    obtain ⟨T16, h16, X16, e16, W16, st16⟩ := stI X15 hx hZ e15 Ar16 (j := (14 : Int32)) (inb_of S16 ⟨by decide, by decide⟩) (g := (mkF m 98 #[.val (.int x0), .val (.int x1), .val (.int x2), .unset, .unset, .unset, .unset] [(.int (8204 : Int32)), (.int (14 : Int32)), (.ref b1), (.ref b1)])) rfl rfl (hb hby at_98)
    have V16 : Arv Z h16 b1 k1 .int (28 : Int32) [(.int (65 : Int32)), (.int (90 : Int32)), (.int (97 : Int32)), (.int (122 : Int32)), (.int (192 : Int32)), (.int (214 : Int32)), (.int (216 : Int32)), (.int (246 : Int32)), (.int (248 : Int32)), (.int (767 : Int32)), (.int (880 : Int32)), (.int (893 : Int32)), (.int (895 : Int32)), (.int (8191 : Int32)), (.int (8204 : Int32)), (.int (0 : Int32)), (.int (0 : Int32)), (.int (0 : Int32)), (.int (0 : Int32)), (.int (0 : Int32)), (.int (0 : Int32)), (.int (0 : Int32)), (.int (0 : Int32)), (.int (0 : Int32)), (.int (0 : Int32)), (.int (0 : Int32)), (.int (0 : Int32)), (.int (0 : Int32))] (.int (0 : Int32)) := Arv.set Ar16 q16 S16 M16 H16 G16 rfl W16 14 rfl (Nat.le_of_ble_eq_true rfl)
    have N16 := Fr.snoc X16 N15 g_b1
    have Z16 : n0 ≤ h16.size := Nat.le_trans Z15 (Keep.of_wr W16).1
    refine own_step (T' := T16) (g' := (mkF m 99 #[.val (.int x0), .val (.int x1), .val (.int x2), .unset, .unset, .unset, .unset] [(.ref b1)])) (fun _ k => st16 _ k) ?_
    refine own_step (T' := T16) (g' := (mkF m 100 #[.val (.int x0), .val (.int x1), .val (.int x2), .unset, .unset, .unset, .unset] [(.ref b1), (.ref b1)])) (fun _ k => XS.dup X16.here hx rfl (hb hby at_99) rfl rfl k) ?_
    refine own_step (T' := T16) (g' := (mkF m 102 #[.val (.int x0), .val (.int x1), .val (.int x2), .unset, .unset, .unset, .unset] [(.int (15 : Int32)), (.ref b1), (.ref b1)])) (fun _ k => XS.bipush X16.here hx rfl (hb hby at_100) k) ?_
    refine own_step (T' := T16) (g' := (mkF m 105 #[.val (.int x0), .val (.int x1), .val (.int x2), .unset, .unset, .unset, .unset] [(.int (8205 : Int32)), (.int (15 : Int32)), (.ref b1), (.ref b1)])) (fun _ k => XS.sipush X16.here hx rfl (hb hby at_102) k) ?_
    obtain ⟨cl17, Ar17, q17, S17, M17, H17, G17⟩ := V16
    obtain ⟨T17, h17, X17, e17, W17, st17⟩ := stI X16 hx hZ e16 Ar17 (j := (15 : Int32)) (inb_of S17 ⟨by decide, by decide⟩) (g := (mkF m 105 #[.val (.int x0), .val (.int x1), .val (.int x2), .unset, .unset, .unset, .unset] [(.int (8205 : Int32)), (.int (15 : Int32)), (.ref b1), (.ref b1)])) rfl rfl (hb hby at_105)
    have V17 : Arv Z h17 b1 k1 .int (28 : Int32) [(.int (65 : Int32)), (.int (90 : Int32)), (.int (97 : Int32)), (.int (122 : Int32)), (.int (192 : Int32)), (.int (214 : Int32)), (.int (216 : Int32)), (.int (246 : Int32)), (.int (248 : Int32)), (.int (767 : Int32)), (.int (880 : Int32)), (.int (893 : Int32)), (.int (895 : Int32)), (.int (8191 : Int32)), (.int (8204 : Int32)), (.int (8205 : Int32)), (.int (0 : Int32)), (.int (0 : Int32)), (.int (0 : Int32)), (.int (0 : Int32)), (.int (0 : Int32)), (.int (0 : Int32)), (.int (0 : Int32)), (.int (0 : Int32)), (.int (0 : Int32)), (.int (0 : Int32)), (.int (0 : Int32)), (.int (0 : Int32))] (.int (0 : Int32)) := Arv.set Ar17 q17 S17 M17 H17 G17 rfl W17 15 rfl (Nat.le_of_ble_eq_true rfl)
    have N17 := Fr.snoc X17 N16 g_b1
    have Z17 : n0 ≤ h17.size := Nat.le_trans Z16 (Keep.of_wr W17).1
    refine own_step (T' := T17) (g' := (mkF m 106 #[.val (.int x0), .val (.int x1), .val (.int x2), .unset, .unset, .unset, .unset] [(.ref b1)])) (fun _ k => st17 _ k) ?_
    refine own_step (T' := T17) (g' := (mkF m 107 #[.val (.int x0), .val (.int x1), .val (.int x2), .unset, .unset, .unset, .unset] [(.ref b1), (.ref b1)])) (fun _ k => XS.dup X17.here hx rfl (hb hby at_106) rfl rfl k) ?_
    refine own_step (T' := T17) (g' := (mkF m 109 #[.val (.int x0), .val (.int x1), .val (.int x2), .unset, .unset, .unset, .unset] [(.int (16 : Int32)), (.ref b1), (.ref b1)])) (fun _ k => XS.bipush X17.here hx rfl (hb hby at_107) k) ?_
    refine own_step (T' := T17) (g' := (mkF m 112 #[.val (.int x0), .val (.int x1), .val (.int x2), .unset, .unset, .unset, .unset] [(.int (8304 : Int32)), (.int (16 : Int32)), (.ref b1), (.ref b1)])) (fun _ k => XS.sipush X17.here hx rfl (hb hby at_109) k) ?_
    obtain ⟨cl18, Ar18, q18, S18, M18, H18, G18⟩ := V17
    obtain ⟨T18, h18, X18, e18, W18, st18⟩ := stI X17 hx hZ e17 Ar18 (j := (16 : Int32)) (inb_of S18 ⟨by decide, by decide⟩) (g := (mkF m 112 #[.val (.int x0), .val (.int x1), .val (.int x2), .unset, .unset, .unset, .unset] [(.int (8304 : Int32)), (.int (16 : Int32)), (.ref b1), (.ref b1)])) rfl rfl (hb hby at_112)
    have V18 : Arv Z h18 b1 k1 .int (28 : Int32) [(.int (65 : Int32)), (.int (90 : Int32)), (.int (97 : Int32)), (.int (122 : Int32)), (.int (192 : Int32)), (.int (214 : Int32)), (.int (216 : Int32)), (.int (246 : Int32)), (.int (248 : Int32)), (.int (767 : Int32)), (.int (880 : Int32)), (.int (893 : Int32)), (.int (895 : Int32)), (.int (8191 : Int32)), (.int (8204 : Int32)), (.int (8205 : Int32)), (.int (8304 : Int32)), (.int (0 : Int32)), (.int (0 : Int32)), (.int (0 : Int32)), (.int (0 : Int32)), (.int (0 : Int32)), (.int (0 : Int32)), (.int (0 : Int32)), (.int (0 : Int32)), (.int (0 : Int32)), (.int (0 : Int32)), (.int (0 : Int32))] (.int (0 : Int32)) := Arv.set Ar18 q18 S18 M18 H18 G18 rfl W18 16 rfl (Nat.le_of_ble_eq_true rfl)
    have N18 := Fr.snoc X18 N17 g_b1
    have Z18 : n0 ≤ h18.size := Nat.le_trans Z17 (Keep.of_wr W18).1
    refine own_step (T' := T18) (g' := (mkF m 113 #[.val (.int x0), .val (.int x1), .val (.int x2), .unset, .unset, .unset, .unset] [(.ref b1)])) (fun _ k => st18 _ k) ?_
    refine own_step (T' := T18) (g' := (mkF m 114 #[.val (.int x0), .val (.int x1), .val (.int x2), .unset, .unset, .unset, .unset] [(.ref b1), (.ref b1)])) (fun _ k => XS.dup X18.here hx rfl (hb hby at_113) rfl rfl k) ?_
    refine own_step (T' := T18) (g' := (mkF m 116 #[.val (.int x0), .val (.int x1), .val (.int x2), .unset, .unset, .unset, .unset] [(.int (17 : Int32)), (.ref b1), (.ref b1)])) (fun _ k => XS.bipush X18.here hx rfl (hb hby at_114) k) ?_
    refine own_step (T' := T18) (g' := (mkF m 119 #[.val (.int x0), .val (.int x1), .val (.int x2), .unset, .unset, .unset, .unset] [(.int (8591 : Int32)), (.int (17 : Int32)), (.ref b1), (.ref b1)])) (fun _ k => XS.sipush X18.here hx rfl (hb hby at_116) k) ?_
    obtain ⟨cl19, Ar19, q19, S19, M19, H19, G19⟩ := V18
    obtain ⟨T19, h19, X19, e19, W19, st19⟩ := stI X18 hx hZ e18 Ar19 (j := (17 : Int32)) (inb_of S19 ⟨by decide, by decide⟩) (g := (mkF m 119 #[.val (.int x0), .val (.int x1), .val (.int x2), .unset, .unset, .unset, .unset] [(.int (8591 : Int32)), (.int (17 : Int32)), (.ref b1), (.ref b1)])) rfl rfl (hb hby at_119)
    have V19 : Arv Z h19 b1 k1 .int (28 : Int32) [(.int (65 : Int32)), (.int (90 : Int32)), (.int (97 : Int32)), (.int (122 : Int32)), (.int (192 : Int32)), (.int (214 : Int32)), (.int (216 : Int32)), (.int (246 : Int32)), (.int (248 : Int32)), (.int (767 : Int32)), (.int (880 : Int32)), (.int (893 : Int32)), (.int (895 : Int32)), (.int (8191 : Int32)), (.int (8204 : Int32)), (.int (8205 : Int32)), (.int (8304 : Int32)), (.int (8591 : Int32)), (.int (0 : Int32)), (.int (0 : Int32)), (.int (0 : Int32)), (.int (0 : Int32)), (.int (0 : Int32)), (.int (0 : Int32)), (.int (0 : Int32)), (.int (0 : Int32)), (.int (0 : Int32)), (.int (0 : Int32))] (.int (0 : Int32)) := Arv.set Ar19 q19 S19 M19 H19 G19 rfl W19 17 rfl (Nat.le_of_ble_eq_true rfl)
    have N19 := Fr.snoc X19 N18 g_b1
    have Z19 : n0 ≤ h19.size := Nat.le_trans Z18 (Keep.of_wr W19).1
    refine own_step (T' := T19) (g' := (mkF m 120 #[.val (.int x0), .val (.int x1), .val (.int x2), .unset, .unset, .unset, .unset] [(.ref b1)])) (fun _ k => st19 _ k) ?_
    refine own_step (T' := T19) (g' := (mkF m 121 #[.val (.int x0), .val (.int x1), .val (.int x2), .unset, .unset, .unset, .unset] [(.ref b1), (.ref b1)])) (fun _ k => XS.dup X19.here hx rfl (hb hby at_120) rfl rfl k) ?_
    refine own_step (T' := T19) (g' := (mkF m 123 #[.val (.int x0), .val (.int x1), .val (.int x2), .unset, .unset, .unset, .unset] [(.int (18 : Int32)), (.ref b1), (.ref b1)])) (fun _ k => XS.bipush X19.here hx rfl (hb hby at_121) k) ?_
    refine own_step (T' := T19) (g' := (mkF m 126 #[.val (.int x0), .val (.int x1), .val (.int x2), .unset, .unset, .unset, .unset] [(.int (11264 : Int32)), (.int (18 : Int32)), (.ref b1), (.ref b1)])) (fun _ k => XS.sipush X19.here hx rfl (hb hby at_123) k) ?_
    obtain ⟨cl20, Ar20, q20, S20, M20, H20, G20⟩ := V19
    obtain ⟨T20, h20, X20, e20, W20, st20⟩ := stI X19 hx hZ e19 Ar20 (j := (18 : Int32)) (inb_of S20 ⟨by decide, by decide⟩) (g := (mkF m 126 #[.val (.int x0), .val (.int x1), .val (.int x2), .unset, .unset, .unset, .unset] [(.int (11264 : Int32)), (.int (18 : Int32)), (.ref b1), (.ref b1)])) rfl rfl (hb hby at_126)
    have V20 : Arv Z h20 b1 k1 .int (28 : Int32) [(.int (65 : Int32)), (.int (90 : Int32)), (.int (97 : Int32)), (.int (122 : Int32)), (.int (192 : Int32)), (.int (214 : Int32)), (.int (216 : Int32)), (.int (246 : Int32)), (.int (248 : Int32)), (.int (767 : Int32)), (.int (880 : Int32)), (.int (893 : Int32)), (.int (895 : Int32)), (.int (8191 : Int32)), (.int (8204 : Int32)), (.int (8205 : Int32)), (.int (8304 : Int32)), (.int (8591 : Int32)), (.int (11264 : Int32)), (.int (0 : Int32)), (.int (0 : Int32)), (.int (0 : Int32)), (.int (0 : Int32)), (.int (0 : Int32)), (.int (0 : Int32)), (.int (0 : Int32)), (.int (0 : Int32)), (.int (0 : Int32))] (.int (0 : Int32)) := Arv.set Ar20 q20 S20 M20 H20 G20 rfl W20 18 rfl (Nat.le_of_ble_eq_true rfl)
    have N20 := Fr.snoc X20 N19 g_b1
    have Z20 : n0 ≤ h20.size := Nat.le_trans Z19 (Keep.of_wr W20).1
    refine own_step (T' := T20) (g' := (mkF m 127 #[.val (.int x0), .val (.int x1), .val (.int x2), .unset, .unset, .unset, .unset] [(.ref b1)])) (fun _ k => st20 _ k) ?_
    refine own_step (T' := T20) (g' := (mkF m 128 #[.val (.int x0), .val (.int x1), .val (.int x2), .unset, .unset, .unset, .unset] [(.ref b1), (.ref b1)])) (fun _ k => XS.dup X20.here hx rfl (hb hby at_127) rfl rfl k) ?_
    refine own_step (T' := T20) (g' := (mkF m 130 #[.val (.int x0), .val (.int x1), .val (.int x2), .unset, .unset, .unset, .unset] [(.int (19 : Int32)), (.ref b1), (.ref b1)])) (fun _ k => XS.bipush X20.here hx rfl (hb hby at_128) k) ?_
    refine own_step (T' := T20) (g' := (mkF m 133 #[.val (.int x0), .val (.int x1), .val (.int x2), .unset, .unset, .unset, .unset] [(.int (12271 : Int32)), (.int (19 : Int32)), (.ref b1), (.ref b1)])) (fun _ k => XS.sipush X20.here hx rfl (hb hby at_130) k) ?_
    obtain ⟨cl21, Ar21, q21, S21, M21, H21, G21⟩ := V20
    obtain ⟨T21, h21, X21, e21, W21, st21⟩ := stI X20 hx hZ e20 Ar21 (j := (19 : Int32)) (inb_of S21 ⟨by decide, by decide⟩) (g := (mkF m 133 #[.val (.int x0), .val (.int x1), .val (.int x2), .unset, .unset, .unset, .unset] [(.int (12271 : Int32)), (.int (19 : Int32)), (.ref b1), (.ref b1)])) rfl rfl (hb hby at_133)
    have V21 : Arv Z h21 b1 k1 .int (28 : Int32) [(.int (65 : Int32)), (.int (90 : Int32)), (.int (97 : Int32)), (.int (122 : Int32)), (.int (192 : Int32)), (.int (214 : Int32)), (.int (216 : Int32)), (.int (246 : Int32)), (.int (248 : Int32)), (.int (767 : Int32)), (.int (880 : Int32)), (.int (893 : Int32)), (.int (895 : Int32)), (.int (8191 : Int32)), (.int (8204 : Int32)), (.int (8205 : Int32)), (.int (8304 : Int32)), (.int (8591 : Int32)), (.int (11264 : Int32)), (.int (12271 : Int32)), (.int (0 : Int32)), (.int (0 : Int32)), (.int (0 : Int32)), (.int (0 : Int32)), (.int (0 : Int32)), (.int (0 : Int32)), (.int (0 : Int32)), (.int (0 : Int32))] (.int (0 : Int32)) := Arv.set Ar21 q21 S21 M21 H21 G21 rfl W21 19 rfl (Nat.le_of_ble_eq_true rfl)
    have N21 := Fr.snoc X21 N20 g_b1
    have Z21 : n0 ≤ h21.size := Nat.le_trans Z20 (Keep.of_wr W21).1
    refine own_step (T' := T21) (g' := (mkF m 134 #[.val (.int x0), .val (.int x1), .val (.int x2), .unset, .unset, .unset, .unset] [(.ref b1)])) (fun _ k => st21 _ k) ?_
    refine own_step (T' := T21) (g' := (mkF m 135 #[.val (.int x0), .val (.int x1), .val (.int x2), .unset, .unset, .unset, .unset] [(.ref b1), (.ref b1)])) (fun _ k => XS.dup X21.here hx rfl (hb hby at_134) rfl rfl k) ?_
    refine own_step (T' := T21) (g' := (mkF m 137 #[.val (.int x0), .val (.int x1), .val (.int x2), .unset, .unset, .unset, .unset] [(.int (20 : Int32)), (.ref b1), (.ref b1)])) (fun _ k => XS.bipush X21.here hx rfl (hb hby at_135) k) ?_
    refine own_step (T' := T21) (g' := (mkF m 140 #[.val (.int x0), .val (.int x1), .val (.int x2), .unset, .unset, .unset, .unset] [(.int (12289 : Int32)), (.int (20 : Int32)), (.ref b1), (.ref b1)])) (fun _ k => XS.sipush X21.here hx rfl (hb hby at_137) k) ?_
    obtain ⟨cl22, Ar22, q22, S22, M22, H22, G22⟩ := V21
    obtain ⟨T22, h22, X22, e22, W22, st22⟩ := stI X21 hx hZ e21 Ar22 (j := (20 : Int32)) (inb_of S22 ⟨by decide, by decide⟩) (g := (mkF m 140 #[.val (.int x0), .val (.int x1), .val (.int x2), .unset, .unset, .unset, .unset] [(.int (12289 : Int32)), (.int (20 : Int32)), (.ref b1), (.ref b1)])) rfl rfl (hb hby at_140)
    have V22 : Arv Z h22 b1 k1 .int (28 : Int32) [(.int (65 : Int32)), (.int (90 : Int32)), (.int (97 : Int32)), (.int (122 : Int32)), (.int (192 : Int32)), (.int (214 : Int32)), (.int (216 : Int32)), (.int (246 : Int32)), (.int (248 : Int32)), (.int (767 : Int32)), (.int (880 : Int32)), (.int (893 : Int32)), (.int (895 : Int32)), (.int (8191 : Int32)), (.int (8204 : Int32)), (.int (8205 : Int32)), (.int (8304 : Int32)), (.int (8591 : Int32)), (.int (11264 : Int32)), (.int (12271 : Int32)), (.int (12289 : Int32)), (.int (0 : Int32)), (.int (0 : Int32)), (.int (0 : Int32)), (.int (0 : Int32)), (.int (0 : Int32)), (.int (0 : Int32)), (.int (0 : Int32))] (.int (0 : Int32)) := Arv.set Ar22 q22 S22 M22 H22 G22 rfl W22 20 rfl (Nat.le_of_ble_eq_true rfl)
    have N22 := Fr.snoc X22 N21 g_b1
    have Z22 : n0 ≤ h22.size := Nat.le_trans Z21 (Keep.of_wr W22).1
    refine own_step (T' := T22) (g' := (mkF m 141 #[.val (.int x0), .val (.int x1), .val (.int x2), .unset, .unset, .unset, .unset] [(.ref b1)])) (fun _ k => st22 _ k) ?_
    refine own_step (T' := T22) (g' := (mkF m 142 #[.val (.int x0), .val (.int x1), .val (.int x2), .unset, .unset, .unset, .unset] [(.ref b1), (.ref b1)])) (fun _ k => XS.dup X22.here hx rfl (hb hby at_141) rfl rfl k) ?_
    refine own_step (T' := T22) (g' := (mkF m 144 #[.val (.int x0), .val (.int x1), .val (.int x2), .unset, .unset, .unset, .unset] [(.int (21 : Int32)), (.ref b1), (.ref b1)])) (fun _ k => XS.bipush X22.here hx rfl (hb hby at_142) k) ?_
    refine own_step (T' := T22) (g' := (mkF m 146 #[.val (.int x0), .val (.int x1), .val (.int x2), .unset, .unset, .unset, .unset] [(.int (55295 : Int32)), (.int (21 : Int32)), (.ref b1), (.ref b1)])) (fun _ k => X22.ldcInt hx hown (mvT hZ (hw _ (List.mem_of_getElem? (i := 1) rfl))) (g := (mkF m 144 #[.val (.int x0), .val (.int x1), .val (.int x2), .unset, .unset, .unset, .unset] [(.int (21 : Int32)), (.ref b1), (.ref b1)])) rfl (hb hby at_144) _ k) ?_
    obtain ⟨cl23, Ar23, q23, S23, M23, H23, G23⟩ := V22
    obtain ⟨T23, h23, X23, e23, W23, st23⟩ := stI X22 hx hZ e22 Ar23 (j := (21 : Int32)) (inb_of S23 ⟨by decide, by decide⟩) (g := (mkF m 146 #[.val (.int x0), .val (.int x1), .val (.int x2), .unset, .unset, .unset, .unset] [(.int (55295 : Int32)), (.int (21 : Int32)), (.ref b1), (.ref b1)])) rfl rfl (hb hby at_146)
    have V23 : Arv Z h23 b1 k1 .int (28 : Int32) [(.int (65 : Int32)), (.int (90 : Int32)), (.int (97 : Int32)), (.int (122 : Int32)), (.int (192 : Int32)), (.int (214 : Int32)), (.int (216 : Int32)), (.int (246 : Int32)), (.int (248 : Int32)), (.int (767 : Int32)), (.int (880 : Int32)), (.int (893 : Int32)), (.int (895 : Int32)), (.int (8191 : Int32)), (.int (8204 : Int32)), (.int (8205 : Int32)), (.int (8304 : Int32)), (.int (8591 : Int32)), (.int (11264 : Int32)), (.int (12271 : Int32)), (.int (12289 : Int32)), (.int (55295 : Int32)), (.int (0 : Int32)), (.int (0 : Int32)), (.int (0 : Int32)), (.int (0 : Int32)), (.int (0 : Int32)), (.int (0 : Int32))] (.int (0 : Int32)) := Arv.set Ar23 q23 S23 M23 H23 G23 rfl W23 21 rfl (Nat.le_of_ble_eq_true rfl)
    have N23 := Fr.snoc X23 N22 g_b1
    have Z23 : n0 ≤ h23.size := Nat.le_trans Z22 (Keep.of_wr W23).1
    refine own_step (T' := T23) (g' := (mkF m 147 #[.val (.int x0), .val (.int x1), .val (.int x2), .unset, .unset, .unset, .unset] [(.ref b1)])) (fun _ k => st23 _ k) ?_
    refine own_step (T' := T23) (g' := (mkF m 148 #[.val (.int x0), .val (.int x1), .val (.int x2), .unset, .unset, .unset, .unset] [(.ref b1), (.ref b1)])) (fun _ k => XS.dup X23.here hx rfl (hb hby at_147) rfl rfl k) ?_
    refine own_step (T' := T23) (g' := (mkF m 150 #[.val (.int x0), .val (.int x1), .val (.int x2), .unset, .unset, .unset, .unset] [(.int (22 : Int32)), (.ref b1), (.ref b1)])) (fun _ k => XS.bipush X23.here hx rfl (hb hby at_148) k) ?_
    refine own_step (T' := T23) (g' := (mkF m 152 #[.val (.int x0), .val (.int x1), .val (.int x2), .unset, .unset, .unset, .unset] [(.int (63744 : Int32)), (.int (22 : Int32)), (.ref b1), (.ref b1)])) (fun _ k => X23.ldcInt hx hown (mvT hZ (hw _ (List.mem_of_getElem? (i := 2) rfl))) (g := (mkF m 150 #[.val (.int x0), .val (.int x1), .val (.int x2), .unset, .unset, .unset, .unset] [(.int (22 : Int32)), (.ref b1), (.ref b1)])) rfl (hb hby at_150) _ k) ?_
    obtain ⟨cl24, Ar24, q24, S24, M24, H24, G24⟩ := V23
    obtain ⟨T24, h24, X24, e24, W24, st24⟩ := stI X23 hx hZ e23 Ar24 (j := (22 : Int32)) (inb_of S24 ⟨by decide, by decide⟩) (g := (mkF m 152 #[.val (.int x0), .val (.int x1), .val (.int x2), .unset, .unset, .unset, .unset] [(.int (63744 : Int32)), (.int (22 : Int32)), (.ref b1), (.ref b1)])) rfl rfl (hb hby at_152)
    have V24 : Arv Z h24 b1 k1 .int (28 : Int32) [(.int (65 : Int32)), (.int (90 : Int32)), (.int (97 : Int32)), (.int (122 : Int32)), (.int (192 : Int32)), (.int (214 : Int32)), (.int (216 : Int32)), (.int (246 : Int32)), (.int (248 : Int32)), (.int (767 : Int32)), (.int (880 : Int32)), (.int (893 : Int32)), (.int (895 : Int32)), (.int (8191 : Int32)), (.int (8204 : Int32)), (.int (8205 : Int32)), (.int (8304 : Int32)), (.int (8591 : Int32)), (.int (11264 : Int32)), (.int (12271 : Int32)), (.int (12289 : Int32)), (.int (55295 : Int32)), (.int (63744 : Int32)), (.int (0 : Int32)), (.int (0 : Int32)), (.int (0 : Int32)), (.int (0 : Int32)), (.int (0 : Int32))] (.int (0 : Int32)) := Arv.set Ar24 q24 S24 M24 H24 G24 rfl W24 22 rfl (Nat.le_of_ble_eq_true rfl)
    have N24 := Fr.snoc X24 N23 g_b1
    have Z24 : n0 ≤ h24.size := Nat.le_trans Z23 (Keep.of_wr W24).1
    refine own_step (T' := T24) (g' := (mkF m 153 #[.val (.int x0), .val (.int x1), .val (.int x2), .unset, .unset, .unset, .unset] [(.ref b1)])) (fun _ k => st24 _ k) ?_
    refine own_step (T' := T24) (g' := (mkF m 154 #[.val (.int x0), .val (.int x1), .val (.int x2), .unset, .unset, .unset, .unset] [(.ref b1), (.ref b1)])) (fun _ k => XS.dup X24.here hx rfl (hb hby at_153) rfl rfl k) ?_
    refine own_step (T' := T24) (g' := (mkF m 156 #[.val (.int x0), .val (.int x1), .val (.int x2), .unset, .unset, .unset, .unset] [(.int (23 : Int32)), (.ref b1), (.ref b1)])) (fun _ k => XS.bipush X24.here hx rfl (hb hby at_154) k) ?_
    refine own_step (T' := T24) (g' := (mkF m 158 #[.val (.int x0), .val (.int x1), .val (.int x2), .unset, .unset, .unset, .unset] [(.int (64975 : Int32)), (.int (23 : Int32)), (.ref b1), (.ref b1)])) (fun _ k => X24.ldcInt hx hown (mvT hZ (hw _ (List.mem_of_getElem? (i := 3) rfl))) (g := (mkF m 156 #[.val (.int x0), .val (.int x1), .val (.int x2), .unset, .unset, .unset, .unset] [(.int (23 : Int32)), (.ref b1), (.ref b1)])) rfl (hb hby at_156) _ k) ?_
    obtain ⟨cl25, Ar25, q25, S25, M25, H25, G25⟩ := V24
    obtain ⟨T25, h25, X25, e25, W25, st25⟩ := stI X24 hx hZ e24 Ar25 (j := (23 : Int32)) (inb_of S25 ⟨by decide, by decide⟩) (g := (mkF m 158 #[.val (.int x0), .val (.int x1), .val (.int x2), .unset, .unset, .unset, .unset] [(.int (64975 : Int32)), (.int (23 : Int32)), (.ref b1), (.ref b1)])) rfl rfl (hb hby at_158)
    have V25 : Arv Z h25 b1 k1 .int (28 : Int32) [(.int (65 : Int32)), (.int (90 : Int32)), (.int (97 : Int32)), (.int (122 : Int32)), (.int (192 : Int32)), (.int (214 : Int32)), (.int (216 : Int32)), (.int (246 : Int32)), (.int (248 : Int32)), (.int (767 : Int32)), (.int (880 : Int32)), (.int (893 : Int32)), (.int (895 : Int32)), (.int (8191 : Int32)), (.int (8204 : Int32)), (.int (8205 : Int32)), (.int (8304 : Int32)), (.int (8591 : Int32)), (.int (11264 : Int32)), (.int (12271 : Int32)), (.int (12289 : Int32)), (.int (55295 : Int32)), (.int (63744 : Int32)), (.int (64975 : Int32)), (.int (0 : Int32)), (.int (0 : Int32)), (.int (0 : Int32)), (.int (0 : Int32))] (.int (0 : Int32)) := Arv.set Ar25 q25 S25 M25 H25 G25 rfl W25 23 rfl (Nat.le_of_ble_eq_true rfl)
    have N25 := Fr.snoc X25 N24 g_b1
    have Z25 : n0 ≤ h25.size := Nat.le_trans Z24 (Keep.of_wr W25).1
    refine own_step (T' := T25) (g' := (mkF m 159 #[.val (.int x0), .val (.int x1), .val (.int x2), .unset, .unset, .unset, .unset] [(.ref b1)])) (fun _ k => st25 _ k) ?_
    refine own_step (T' := T25) (g' := (mkF m 160 #[.val (.int x0), .val (.int x1), .val (.int x2), .unset, .unset, .unset, .unset] [(.ref b1), (.ref b1)])) (fun _ k => XS.dup X25.here hx rfl (hb hby at_159) rfl rfl k) ?_
    refine own_step (T' := T25) (g' := (mkF m 162 #[.val (.int x0), .val (.int x1), .val (.int x2), .unset, .unset, .unset, .unset] [(.int (24 : Int32)), (.ref b1), (.ref b1)])) (fun _ k => XS.bipush X25.here hx rfl (hb hby at_160) k) ?_
    refine own_step (T' := T25) (g' := (mkF m 164 #[.val (.int x0), .val (.int x1), .val (.int x2), .unset, .unset, .unset, .unset] [(.int (65008 : Int32)), (.int (24 : Int32)), (.ref b1), (.ref b1)])) (fun _ k => X25.ldcInt hx hown (mvT hZ (hw _ (List.mem_of_getElem? (i := 4) rfl))) (g := (mkF m 162 #[.val (.int x0), .val (.int x1), .val (.int x2), .unset, .unset, .unset, .unset] [(.int (24 : Int32)), (.ref b1), (.ref b1)])) rfl (hb hby at_162) _ k) ?_
    obtain ⟨cl26, Ar26, q26, S26, M26, H26, G26⟩ := V25
    obtain ⟨T26, h26, X26, e26, W26, st26⟩ := stI X25 hx hZ e25 Ar26 (j := (24 : Int32)) (inb_of S26 ⟨by decide, by decide⟩) (g := (mkF m 164 #[.val (.int x0), .val (.int x1), .val (.int x2), .unset, .unset, .unset, .unset] [(.int (65008 : Int32)), (.int (24 : Int32)), (.ref b1), (.ref b1)])) rfl rfl (hb hby at_164)
    have V26 : Arv Z h26 b1 k1 .int (28 : Int32) [(.int (65 : Int32)), (.int (90 : Int32)), (.int (97 : Int32)), (.int (122 : Int32)), (.int (192 : Int32)), (.int (214 : Int32)), (.int (216 : Int32)), (.int (246 : Int32)), (.int (248 : Int32)), (.int (767 : Int32)), (.int (880 : Int32)), (.int (893 : Int32)), (.int (895 : Int32)), (.int (8191 : Int32)), (.int (8204 : Int32)), (.int (8205 : Int32)), (.int (8304 : Int32)), (.int (8591 : Int32)), (.int (11264 : Int32)), (.int (12271 : Int32)), (.int (12289 : Int32)), (.int (55295 : Int32)), (.int (63744 : Int32)), (.int (64975 : Int32)), (.int (65008 : Int32)), (.int (0 : Int32)), (.int (0 : Int32)), (.int (0 : Int32))] (.int (0 : Int32)) := Arv.set Ar26 q26 S26 M26 H26 G26 rfl W26 24 rfl (Nat.le_of_ble_eq_true rfl)
    have N26 := Fr.snoc X26 N25 g_b1
    have Z26 : n0 ≤ h26.size := Nat.le_trans Z25 (Keep.of_wr W26).1
    refine own_step (T' := T26) (g' := (mkF m 165 #[.val (.int x0), .val (.int x1), .val (.int x2), .unset, .unset, .unset, .unset] [(.ref b1)])) (fun _ k => st26 _ k) ?_
    refine own_step (T' := T26) (g' := (mkF m 166 #[.val (.int x0), .val (.int x1), .val (.int x2), .unset, .unset, .unset, .unset] [(.ref b1), (.ref b1)])) (fun _ k => XS.dup X26.here hx rfl (hb hby at_165) rfl rfl k) ?_
    refine own_step (T' := T26) (g' := (mkF m 168 #[.val (.int x0), .val (.int x1), .val (.int x2), .unset, .unset, .unset, .unset] [(.int (25 : Int32)), (.ref b1), (.ref b1)])) (fun _ k => XS.bipush X26.here hx rfl (hb hby at_166) k) ?_
    refine own_step (T' := T26) (g' := (mkF m 170 #[.val (.int x0), .val (.int x1), .val (.int x2), .unset, .unset, .unset, .unset] [(.int (65533 : Int32)), (.int (25 : Int32)), (.ref b1), (.ref b1)])) (fun _ k => X26.ldcInt hx hown (mvT hZ (hw _ (List.mem_of_getElem? (i := 5) rfl))) (g := (mkF m 168 #[.val (.int x0), .val (.int x1), .val (.int x2), .unset, .unset, .unset, .unset] [(.int (25 : Int32)), (.ref b1), (.ref b1)])) rfl (hb hby at_168) _ k) ?_
    obtain ⟨cl27, Ar27, q27, S27, M27, H27, G27⟩ := V26
    obtain ⟨T27, h27, X27, e27, W27, st27⟩ := stI X26 hx hZ e26 Ar27 (j := (25 : Int32)) (inb_of S27 ⟨by decide, by decide⟩) (g := (mkF m 170 #[.val (.int x0), .val (.int x1), .val (.int x2), .unset, .unset, .unset, .unset] [(.int (65533 : Int32)), (.int (25 : Int32)), (.ref b1), (.ref b1)])) rfl rfl (hb hby at_170)
    have V27 : Arv Z h27 b1 k1 .int (28 : Int32) [(.int (65 : Int32)), (.int (90 : Int32)), (.int (97 : Int32)), (.int (122 : Int32)), (.int (192 : Int32)), (.int (214 : Int32)), (.int (216 : Int32)), (.int (246 : Int32)), (.int (248 : Int32)), (.int (767 : Int32)), (.int (880 : Int32)), (.int (893 : Int32)), (.int (895 : Int32)), (.int (8191 : Int32)), (.int (8204 : Int32)), (.int (8205 : Int32)), (.int (8304 : Int32)), (.int (8591 : Int32)), (.int (11264 : Int32)), (.int (12271 : Int32)), (.int (12289 : Int32)), (.int (55295 : Int32)), (.int (63744 : Int32)), (.int (64975 : Int32)), (.int (65008 : Int32)), (.int (65533 : Int32)), (.int (0 : Int32)), (.int (0 : Int32))] (.int (0 : Int32)) := Arv.set Ar27 q27 S27 M27 H27 G27 rfl W27 25 rfl (Nat.le_of_ble_eq_true rfl)
    have N27 := Fr.snoc X27 N26 g_b1
    have Z27 : n0 ≤ h27.size := Nat.le_trans Z26 (Keep.of_wr W27).1
    refine own_step (T' := T27) (g' := (mkF m 171 #[.val (.int x0), .val (.int x1), .val (.int x2), .unset, .unset, .unset, .unset] [(.ref b1)])) (fun _ k => st27 _ k) ?_
    refine own_step (T' := T27) (g' := (mkF m 172 #[.val (.int x0), .val (.int x1), .val (.int x2), .unset, .unset, .unset, .unset] [(.ref b1), (.ref b1)])) (fun _ k => XS.dup X27.here hx rfl (hb hby at_171) rfl rfl k) ?_
    refine own_step (T' := T27) (g' := (mkF m 174 #[.val (.int x0), .val (.int x1), .val (.int x2), .unset, .unset, .unset, .unset] [(.int (26 : Int32)), (.ref b1), (.ref b1)])) (fun _ k => XS.bipush X27.here hx rfl (hb hby at_172) k) ?_
    refine own_step (T' := T27) (g' := (mkF m 176 #[.val (.int x0), .val (.int x1), .val (.int x2), .unset, .unset, .unset, .unset] [(.int (65536 : Int32)), (.int (26 : Int32)), (.ref b1), (.ref b1)])) (fun _ k => X27.ldcInt hx hown (mvT hZ (hw _ (List.mem_of_getElem? (i := 6) rfl))) (g := (mkF m 174 #[.val (.int x0), .val (.int x1), .val (.int x2), .unset, .unset, .unset, .unset] [(.int (26 : Int32)), (.ref b1), (.ref b1)])) rfl (hb hby at_174) _ k) ?_
    obtain ⟨cl28, Ar28, q28, S28, M28, H28, G28⟩ := V27
    obtain ⟨T28, h28, X28, e28, W28, st28⟩ := stI X27 hx hZ e27 Ar28 (j := (26 : Int32)) (inb_of S28 ⟨by decide, by decide⟩) (g := (mkF m 176 #[.val (.int x0), .val (.int x1), .val (.int x2), .unset, .unset, .unset, .unset] [(.int (65536 : Int32)), (.int (26 : Int32)), (.ref b1), (.ref b1)])) rfl rfl (hb hby at_176)
    have V28 : Arv Z h28 b1 k1 .int (28 : Int32) [(.int (65 : Int32)), (.int (90 : Int32)), (.int (97 : Int32)), (.int (122 : Int32)), (.int (192 : Int32)), (.int (214 : Int32)), (.int (216 : Int32)), (.int (246 : Int32)), (.int (248 : Int32)), (.int (767 : Int32)), (.int (880 : Int32)), (.int (893 : Int32)), (.int (895 : Int32)), (.int (8191 : Int32)), (.int (8204 : Int32)), (.int (8205 : Int32)), (.int (8304 : Int32)), (.int (8591 : Int32)), (.int (11264 : Int32)), (.int (12271 : Int32)), (.int (12289 : Int32)), (.int (55295 : Int32)), (.int (63744 : Int32)), (.int (64975 : Int32)), (.int (65008 : Int32)), (.int (65533 : Int32)), (.int (65536 : Int32)), (.int (0 : Int32))] (.int (0 : Int32)) := Arv.set Ar28 q28 S28 M28 H28 G28 rfl W28 26 rfl (Nat.le_of_ble_eq_true rfl)
    have N28 := Fr.snoc X28 N27 g_b1
    have Z28 : n0 ≤ h28.size := Nat.le_trans Z27 (Keep.of_wr W28).1
    refine own_step (T' := T28) (g' := (mkF m 177 #[.val (.int x0), .val (.int x1), .val (.int x2), .unset, .unset, .unset, .unset] [(.ref b1)])) (fun _ k => st28 _ k) ?_
    refine own_step (T' := T28) (g' := (mkF m 178 #[.val (.int x0), .val (.int x1), .val (.int x2), .unset, .unset, .unset, .unset] [(.ref b1), (.ref b1)])) (fun _ k => XS.dup X28.here hx rfl (hb hby at_177) rfl rfl k) ?_
    refine own_step (T' := T28) (g' := (mkF m 180 #[.val (.int x0), .val (.int x1), .val (.int x2), .unset, .unset, .unset, .unset] [(.int (27 : Int32)), (.ref b1), (.ref b1)])) (fun _ k => XS.bipush X28.here hx rfl (hb hby at_178) k) ?_
    refine own_step (T' := T28) (g' := (mkF m 182 #[.val (.int x0), .val (.int x1), .val (.int x2), .unset, .unset, .unset, .unset] [(.int (983039 : Int32)), (.int (27 : Int32)), (.ref b1), (.ref b1)])) (fun _ k => X28.ldcInt hx hown (mvT hZ (hw _ (List.mem_of_getElem? (i := 7) rfl))) (g := (mkF m 180 #[.val (.int x0), .val (.int x1), .val (.int x2), .unset, .unset, .unset, .unset] [(.int (27 : Int32)), (.ref b1), (.ref b1)])) rfl (hb hby at_180) _ k) ?_
    obtain ⟨cl29, Ar29, q29, S29, M29, H29, G29⟩ := V28
    obtain ⟨T29, h29, X29, e29, W29, st29⟩ := stI X28 hx hZ e28 Ar29 (j := (27 : Int32)) (inb_of S29 ⟨by decide, by decide⟩) (g := (mkF m 182 #[.val (.int x0), .val (.int x1), .val (.int x2), .unset, .unset, .unset, .unset] [(.int (983039 : Int32)), (.int (27 : Int32)), (.ref b1), (.ref b1)])) rfl rfl (hb hby at_182)
    have V29 : Arv Z h29 b1 k1 .int (28 : Int32) [(.int (65 : Int32)), (.int (90 : Int32)), (.int (97 : Int32)), (.int (122 : Int32)), (.int (192 : Int32)), (.int (214 : Int32)), (.int (216 : Int32)), (.int (246 : Int32)), (.int (248 : Int32)), (.int (767 : Int32)), (.int (880 : Int32)), (.int (893 : Int32)), (.int (895 : Int32)), (.int (8191 : Int32)), (.int (8204 : Int32)), (.int (8205 : Int32)), (.int (8304 : Int32)), (.int (8591 : Int32)), (.int (11264 : Int32)), (.int (12271 : Int32)), (.int (12289 : Int32)), (.int (55295 : Int32)), (.int (63744 : Int32)), (.int (64975 : Int32)), (.int (65008 : Int32)), (.int (65533 : Int32)), (.int (65536 : Int32)), (.int (983039 : Int32))] (.int (0 : Int32)) := Arv.set Ar29 q29 S29 M29 H29 G29 rfl W29 27 rfl (Nat.le_of_ble_eq_true rfl)
    have N29 := Fr.snoc X29 N28 g_b1
    have Z29 : n0 ≤ h29.size := Nat.le_trans Z28 (Keep.of_wr W29).1
    refine own_step (T' := T29) (g' := (mkF m 183 #[.val (.int x0), .val (.int x1), .val (.int x2), .unset, .unset, .unset, .unset] [(.ref b1)])) (fun _ k => st29 _ k) ?_
    refine own_step (T' := T29) (g' := (mkF m 184 #[.val (.int x0), .val (.int x1), .val (.int x2), .val (.ref b1), .unset, .unset, .unset] [])) (fun _ k => XS.astoreN X29.here hx rfl (hb hby at_183) rfl rfl (l' := #[.val (.int x0), .val (.int x1), .val (.int x2), .val (.ref b1), .unset, .unset, .unset]) rfl k) ?_
    refine own_step (T' := T29) (g' := (mkF m 185 #[.val (.int x0), .val (.int x1), .val (.int x2), .val (.ref b1), .unset, .unset, .unset] [(.int x1)])) (fun _ k => XS.iloadN X29.here hx rfl (hb hby at_184) rfl k) ?_
    refine own_step (T' := T29) (g' := (mkF m 186 #[.val (.int x0), .val (.int x1), .val (.int x2), .val (.ref b1), .unset, .unset, .unset] [(.int (1 : Int32)), (.int x1)])) (fun _ k => XS.iconst X29.here hx rfl (hb hby at_185) k) ?_
    refine own_step (T' := T29) (g' := (mkF m 187 #[.val (.int x0), .val (.int x1), .val (.int x2), .val (.ref b1), .unset, .unset, .unset] [(.int (x1 &&& (1 : Int32)))])) (fun _ k => XS.iand X29.here hx rfl (hb hby at_186) rfl k) ?_
    by_cases hc : (x1 &&& (1 : Int32)) = (0 : Int32)
    · refine own_step (T' := T29) (g' := (mkF m 190 #[.val (.int x0), .val (.int x1), .val (.int x2), .val (.ref b1), .unset, .unset, .unset] [])) (fun _ k => XS.ifNo X29.here hx rfl (hb hby at_187) rfl ((if0 _ _).trans (teq hc).2) k) ?_
      exact B190 T29 _ x0 x1 x2 b1 h29 Z29 k1 V29 X29 e29 N29 ((if_pos hc).symm.trans hf)
    · refine own_step (T' := T29) (g' := (mkF m 196 #[.val (.int x0), .val (.int x1), .val (.int x2), .val (.ref b1), .unset, .unset, .unset] [])) (fun _ k => XS.ifYes X29.here hx rfl (pc0 := 187) (pc' := 196) rfl (hb hby at_187) rfl ((if0 _ _).trans (feq hc).2) (by decide) (by decide) k) ?_
      exact B196 T29 _ x0 x1 x2 b1 h29 Z29 k1 V29 X29 e29 N29 ((if_neg hc).symm.trans hf)
  have hB := B0 s₁ [] p0 p1 p2 h0 Z0 X00 e00 (Fr.nil n0) hlaw
  obtain ⟨s₂, o, q1, q2, q3, v, L, q4, q5, q6⟩ := hB
  exact ⟨s₂, o, castTop (ef_0 m p0 p1 p2) q1, q2, q3, v, L, q4, q5, q6⟩
set_option maxRecDepth 65536 in
set_option maxHeartbeats 40000000 in
theorem comes_1 {Post : Tables → Env → Array Value → State → Outcome → State → Prop} (hpost : ∀ tb e args s v u, (limb_1_1.after args s (.returned v) u = true ∧ limb_1_2.after args s (.returned v) u = true ∧ True) → FrameEnd s (.returned v) u (Jvm.fieldLocs frame_1_writes args s ++ Jvm.arrayLocs frame_1_arrays args s ++ Jvm.staticLocs frame_1_statics s) 16 128 → Post tb e args s (.returned v) u) :
    ArmFor flags0 classFile x code maxLocals ret World_1 tables_1 room_1 Calls_1 rest_1 Pre_1 Post := by
  intro l hfl _ _ p e ha hc hk s m args below hf hA hF happ hP
  obtain ⟨hcalls, hrest, hpre⟩ := hP
  obtain ⟨-, -, -, hnamed, -, -, -, hat⟩ := (Spec.applies_iff hf).mp happ
  obtain ⟨hg, hn⟩ := and_e (Cond.before_iff.mp (show (Jvm.Cond.and given_1 narrow_1).before args s = true from hpre))
  obtain ⟨hcnt, g0⟩ := and_e hg
  obtain ⟨a0, g1⟩ := and_e g0
  obtain ⟨a1, g2⟩ := and_e g1
  obtain ⟨w0, w1, w2, rfl⟩ : ∃ w0 w1 w2 : Value, args = #[w0, w1, w2] := by
    have hs : args.size = 3 := by simpa [Cond.value, given_1] using hcnt
    obtain ⟨L⟩ := args
    match L, hs with
    | [w0, w1, w2], _ => exact ⟨w0, w1, w2, rfl⟩
  have hw := fun d (hd : d ∈ tables_1) => atoms_spec (ws := Jvm.Cond.code x code maxLocals ret :: tables_1) hat d (List.mem_cons_of_mem _ hd)
  obtain ⟨i0, ei0⟩ := is_v a0
  obtain rfl : w0 = (.int i0) := Option.some.inj ei0
  obtain ⟨i1, ei1⟩ := is_v a1
  obtain rfl : w1 = (.int i1) := Option.some.inj ei1
  obtain ⟨i2, ei2⟩ := is_v g2
  obtain rfl : w2 = (.int i2) := Option.some.inj ei2
  obtain ⟨n, o, h1, h2, h3, _, L, rfl, ⟨rfl, N⟩, hq⟩ := rm0 l s _ hw tables_1 i0 i1 i2 s.heap s.heap.size (Nat.le_refl _) (own_law i0 i1 i2) p e ha hc hk s m _ below hf ((Spec.applies_iff_loose hf).mp happ).1 ⟨rfl, State.Warmed39.refl s, rfl⟩ trivial
  refine ⟨n, _, h1, h2, h3, hpost _ _ _ _ _ _ ⟨Cond.after_iff.mpr rfl, Cond.after_iff.mpr (eq_i res_at (Term.int_eval (1)) rfl), trivial⟩ ⟨hq.1, hq.2.1, (hq.2.2.sift fun y hy => Or.inr (N y hy)).mono (by decide) (by decide)⟩⟩
theorem main_1_1 : Claimed_1_1 := comes_1 fun _ _ _ _ _ _ h hF => ⟨h.1, hF⟩
theorem main_1_2 : Claimed_1_2 := comes_1 fun _ _ _ _ _ _ h hF => ⟨h.2.1, hF⟩
end Jvm.Pilot.@@N@@
namespace Jvm.Pilot.@@N@@
open Jvm Jvm.ClassFile Sem Op Lib Jvm.Free Jvm.Stand Jvm.Pilot.@@N@@.Jvm.D
/-! MADE BY PROGRAM (witnessworld.py) out of the Statement's table words and the real class files: 9 classes; the members and pool entries that the words name. The judged class is class 1, her method 1. -/
namespace start1
open Jvm.ClassFile
def u (s : String) : CpInfo := .utf8 (stringToUtf16 s)
/-- a pool by its gaps: so many unusable entries, then the entry; so many at the end -/
def gap : Nat → List CpInfo → List CpInfo
  | 0, r => r
  | n + 1, r => .unusable :: gap n r
def poolList (es : List (Nat × CpInfo)) (last : Nat) : List CpInfo := es.foldr (fun e r => gap e.1 (e.2 :: r)) (gap last [])
def pool (es : List (Nat × CpInfo)) (last : Nat) : Array CpInfo := ⟨poolList es last⟩
def fileOf (pool : Array CpInfo) (this : Nat) (attrs : Array Attribute := #[]) (ms : Array MethodInfo := #[]) (fl : Nat := 33) (sup : Nat := 0) (ifs : Array Nat := #[]) (fds : Array FieldInfo := #[]) : ClassFile where
  minorVersion := 0
  majorVersion := 65
  constantPool := pool
  accessFlags := fl
  thisClass := this
  superClass := sup
  interfaces := ifs
  fields := fds
  methods := ms
  attributes := attrs
def plain (name : String) (sup : Option ClassId) : Class where
  name := name
  kind := .ordinary
  loader := none
  accessFlags := 33
  super := sup
  interfaces := #[]
  cf := none
  fields := #[]
  methods := #[]
  instanceTypes := #[]
  staticTypes := #[]
  resolved := #[]
  callSites := []
  init := .initialized
  statics := none
  mirror := none

def pool0 : Array CpInfo := pool [(5, u "<init>"), (0, u "()V"), (1, .class_ 10), (1, u "java/lang/Object")] 113

def k0m0 : Method := { name := "<init>", desc := "()V", sig := { parameters := [], returnType := none }, accessFlags := 1, code := none }
/-- java/lang/Object -/
def k0 : Class := { plain "java/lang/Object" none with
  accessFlags := 33
  interfaces := #[]
  cf := some (fileOf pool0 8 #[] #[{ accessFlags := 1, nameIndex := 5, descriptorIndex := 6, attributes := #[] }] 33 0 #[] #[])
  fields := #[]
  methods := #[k0m0]
  instanceTypes := #[]
  staticTypes := #[]
  resolved := Array.replicate 124 none
  statics := none }

def pool1 : Array CpInfo := pool [(2, .class_ 4), (1, u "java/lang/Object"), (0, u "<init>"), (0, u "()V"), (0, .integer 55295), (0, .integer 63744), (0, .integer 64975), (0, .integer 65008), (0, .integer 65533), (0, .integer 65536), (0, .integer 983039), (0, .integer 1073741823), (0, .methodref 16 17), (0, .class_ 18), (0, .nameAndType 19 20), (0, u "com/example/graphwright/graphwright/model/Terminals"), (0, u "isPnCharsBase"), (0, u "(I)Z"), (0, .methodref 22 23), (0, .class_ 24), (0, .nameAndType 25 20), (0, u "com/example/graphwright/graphwright/model/TerminalsIsPnCharsBasePinLaw"), (0, u "inGap"), (0, .integer 55296), (0, .integer 63743), (0, .integer 64976), (0, .integer 65007), (0, .integer 65534), (0, .integer 65535), (2, u "law"), (0, u "(III)Z")] 5

def k1m0 : Method := { name := "<init>", desc := "()V", sig := { parameters := [], returnType := none }, accessFlags := 2, code := none }
def k1c1 : Code := { maxStack := 4, maxLocals := 7, code := code, exceptionTable := #[], attributes := #[] }
def k1m1 : Method := { name := "law", desc := "(III)Z", sig := { parameters := [.int, .int, .int], returnType := some .boolean }, accessFlags := 9, code := some k1c1 }
def k1c2 : Code := { maxStack := 2, maxLocals := 1, code := method_3_code, exceptionTable := #[], attributes := #[] }
def k1m2 : Method := { name := "inGap", desc := "(I)Z", sig := { parameters := [.int], returnType := some .boolean }, accessFlags := 10, code := some k1c2 }
/-- com/example/graphwright/graphwright/model/TerminalsIsPnCharsBasePinLaw -/
def k1 : Class := { plain "com/example/graphwright/graphwright/model/TerminalsIsPnCharsBasePinLaw" (some 0) with
  accessFlags := 49
  interfaces := #[]
  cf := some (fileOf pool1 22 #[] #[{ accessFlags := 2, nameIndex := 5, descriptorIndex := 6, attributes := #[] }, { accessFlags := 9, nameIndex := 34, descriptorIndex := 35, attributes := #[] }, { accessFlags := 10, nameIndex := 25, descriptorIndex := 20, attributes := #[] }] 49 2 #[] #[])
  fields := #[]
  methods := #[k1m0, k1m1, k1m2]
  instanceTypes := #[]
  staticTypes := #[]
  resolved := Array.replicate 41 none
  statics := none }

def pool2 : Array CpInfo := pool [(2, .class_ 4), (1, u "java/lang/Object"), (0, u "<init>"), (0, u "()V"), (0, .integer 55295), (0, .integer 63744), (0, .integer 64975), (0, .integer 65008), (0, .integer 65533), (0, .integer 65536), (0, .integer 983039), (1, .class_ 17), (1, u "com/example/graphwright/graphwright/model/Terminals"), (0, u "isPnCharsBase"), (0, u "(I)Z"), (72, .class_ 93), (0, u "com/example/graphwright/graphwright/model/Terminals$Escape")] 28

def k2m0 : Method := { name := "<init>", desc := "()V", sig := { parameters := [], returnType := none }, accessFlags := 2, code := none }
def k2c1 : Code := { maxStack := 2, maxLocals := 1, code := prog_146_method_2_code, exceptionTable := #[], attributes := #[] }
def k2m1 : Method := { name := "isPnCharsBase", desc := "(I)Z", sig := { parameters := [.int], returnType := some .boolean }, accessFlags := 9, code := some k2c1 }
/-- com/example/graphwright/graphwright/model/Terminals -/
def k2 : Class := { plain "com/example/graphwright/graphwright/model/Terminals" (some 0) with
  accessFlags := 49
  interfaces := #[]
  cf := some (fileOf pool2 15 #[.nestMembers #[92]] #[{ accessFlags := 2, nameIndex := 5, descriptorIndex := 6, attributes := #[] }, { accessFlags := 9, nameIndex := 18, descriptorIndex := 19, attributes := #[] }] 49 2 #[] #[])
  fields := #[]
  methods := #[k2m0, k2m1]
  instanceTypes := #[]
  staticTypes := #[]
  resolved := Array.replicate 122 none
  statics := none }

def pool3 : Array CpInfo := pool [(1, u "java/lang/Cloneable"), (0, .class_ 1), (0, u "java/lang/Object"), (0, .class_ 3)] 3

/-- java/lang/Cloneable -/
def k3 : Class := { plain "java/lang/Cloneable" (some 0) with
  accessFlags := 1537
  interfaces := #[]
  cf := some (fileOf pool3 2 #[] #[] 1537 4 #[] #[])
  fields := #[]
  methods := #[]
  instanceTypes := #[]
  staticTypes := #[]
  resolved := Array.replicate 8 none
  statics := none }

def pool4 : Array CpInfo := pool [(1, u "java/io/Serializable"), (0, .class_ 1), (0, u "java/lang/Object"), (0, .class_ 3)] 3

/-- java/io/Serializable -/
def k4 : Class := { plain "java/io/Serializable" (some 0) with
  accessFlags := 1537
  interfaces := #[]
  cf := some (fileOf pool4 2 #[] #[] 1537 4 #[] #[])
  fields := #[]
  methods := #[]
  instanceTypes := #[]
  staticTypes := #[]
  resolved := Array.replicate 8 none
  statics := none }

/-- the primitive byte -/
def k5 : Class := { plain "byte" none with kind := .primitive 'B', accessFlags := 0x411 }
/-- [B -/
def k6 : Class := { plain "[B" (some 0) with kind := .array 5 .byte, interfaces := #[3, 4], accessFlags := 1041 }

/-- the primitive int -/
def k7 : Class := { plain "int" none with kind := .primitive 'I', accessFlags := 0x411 }
/-- [I -/
def k8 : Class := { plain "[I" (some 0) with kind := .array 7 .int, interfaces := #[3, 4], accessFlags := 1041 }

def heap : Heap := #[]
def classes : Array Class := #[k0, k1, k2, k3, k4, k5, k6, k7, k8]
def interned : List (Array UInt16 × Addr) := []
def slotsUsed : Nat := 0
def theMethod : MethodId := ⟨1, 1⟩
def args0 : Array Value := #[.int 5, .int 6, .int 7]
def aboutOver (below : List Frame) : State where
  vm := { classes := classes, interned := interned.toArray }
  heap := heap
  slotsUsed := slotsUsed
  threads := #[{ frames := .invoking theMethod args0 :: below }]
def below0 : List Frame := [.native { method := ⟨0, 0⟩, args := #[] }]
def about1 : State := aboutOver below0
def p0 : Program := .bare "" "" ""
def e0 : Env := launch0.env 0 0 0
theorem w_frames : about1.frames = Frame.invoking theMethod args0 :: below0 := rfl
set_option maxRecDepth 65536 in
theorem w_args : argsFit about1.vm theMethod args0 = true := by decide +kernel
set_option maxRecDepth 65536 in
theorem w_heap : heapFits about1 = true := by decide +kernel
set_option maxRecDepth 65536 in
theorem w_runnable : about1.curStatus? = some .runnable := by decide +kernel
set_option maxRecDepth 65536 in
theorem w_alone : about1.alone = true := by decide +kernel
set_option maxRecDepth 65536 in
theorem w_named : about1.methodNamed? x = some theMethod := by decide +kernel
set_option maxRecDepth 65536 in
theorem w_hears : about1.hears theMethod below0 = true := by decide +kernel
set_option maxRecDepth 65536 in
theorem w_ripe : about1.ripe theMethod args0 below0 = true := by decide +kernel
theorem w_running : about1.status = .running := rfl
set_option maxRecDepth 65536 in
theorem w_room : about1.hasRoom e0.platform room_1 = true :=
  launch0.hasRoom_least _ room_1 (by decide +kernel) (by decide +kernel) (by decide +kernel) (by decide +kernel) (by decide +kernel) (by decide +kernel)
theorem allAtoms_all (ts : List Jvm.Cond) (a : Array Jvm.Value) (st : Jvm.State) : (allAtoms ts).before a st = ts.all (fun c => c.before a st) := by
  induction ts with
  | nil => rfl
  | cons c t ih =>
    show (Jvm.Cond.and c (allAtoms t)).before a st = _
    rw [Jvm.Cond.before_and, ih, List.all_cons]
def words1 : List Jvm.Cond := Jvm.Cond.code x code maxLocals ret :: tables_1
/-- a 'code' word, met by the world's own term for the bytes: nothing is compared byte by byte -/
theorem code_word {y : MethodName} {bytes : ByteArray} {mx : Nat} {rt : Option FieldType} {a : Array Value} {s : State} {m : MethodId} {meth : Method} {c : Code} (h1 : s.methodNamed? y = some m) (h2 : s.vm.method? m = some meth) (h3 : meth.code = some c) (h4 : c.code = bytes)
    (h5 : (c.maxLocals == mx && c.exceptionTable.isEmpty && decide (c.maxStack ≤ mostOperands) && decide (meth.sig.returnType = rt) && !meth.locks && decide (parseMethodDescriptor y.desc = some meth.sig)) = true) : (Jvm.Cond.code y bytes mx rt).before a s = true := by
  simp only [Bool.and_eq_true, beq_iff_eq, Bool.not_eq_true', decide_eq_true_eq] at h5
  obtain ⟨⟨⟨⟨⟨g1, g2⟩, g3⟩, g4⟩, g5⟩, g6⟩ := h5
  simp [Cond.before, Cond.holds, Cond.value, h1, h2, h3, h4, g1, g2, g3, g4, g5, g6]
def isCode : Jvm.Cond → Bool
  | .code _ _ _ _ => true
  | _ => false
theorem all_split {L : List Jvm.Cond} {P : Jvm.Cond → Bool} (h1 : L.all (fun c => isCode c || P c) = true) (h2 : ∀ c ∈ L.filter isCode, P c = true) : L.all P = true := by
  refine List.all_eq_true.mpr fun c hc => ?_
  have h := List.all_eq_true.mp h1 c hc
  rcases Bool.eq_false_or_eq_true (isCode c) with hi | hi
  · exact h2 c (List.mem_filter.mpr ⟨hc, hi⟩)
  · simpa [hi] using h
set_option maxRecDepth 65536 in
theorem w_c0 : (Jvm.Cond.code x code maxLocals ret).before args0 about1 = true := code_word (m := ⟨1, 1⟩) (meth := k1m1) (c := k1c1) (by decide +kernel) rfl rfl rfl (by decide +kernel)
set_option maxRecDepth 65536 in
theorem w_c1 : (Jvm.Cond.code ({ cls := "com/example/graphwright/graphwright/model/Terminals", name := "isPnCharsBase", desc := "(I)Z" } : Jvm.MethodName) prog_146_method_2_code (1 : Nat) (Option.some Jvm.ClassFile.FieldType.boolean)).before args0 about1 = true := code_word (m := ⟨2, 1⟩) (meth := k2m1) (c := k2c1) (by decide +kernel) rfl rfl rfl (by decide +kernel)
set_option maxRecDepth 65536 in
theorem w_c2 : (Jvm.Cond.code ({ cls := "com/example/graphwright/graphwright/model/TerminalsIsPnCharsBasePinLaw", name := "inGap", desc := "(I)Z" } : Jvm.MethodName) method_3_code (1 : Nat) (Option.some Jvm.ClassFile.FieldType.boolean)).before args0 about1 = true := code_word (m := ⟨1, 2⟩) (meth := k1m2) (c := k1c2) (by decide +kernel) rfl rfl rfl (by decide +kernel)
def codes1 : List Jvm.Cond := [Jvm.Cond.code x code maxLocals ret, Jvm.Cond.code ({ cls := "com/example/graphwright/graphwright/model/Terminals", name := "isPnCharsBase", desc := "(I)Z" } : Jvm.MethodName) prog_146_method_2_code (1 : Nat) (Option.some Jvm.ClassFile.FieldType.boolean), Jvm.Cond.code ({ cls := "com/example/graphwright/graphwright/model/TerminalsIsPnCharsBasePinLaw", name := "inGap", desc := "(I)Z" } : Jvm.MethodName) method_3_code (1 : Nat) (Option.some Jvm.ClassFile.FieldType.boolean)]
set_option maxRecDepth 65536 in
theorem codes_eq : words1.filter isCode = codes1 := rfl
theorem w_codes : ∀ c ∈ words1.filter isCode, c.before args0 about1 = true := by
  rw [codes_eq]
  intro c hc
  simp only [codes1, List.mem_cons, List.not_mem_nil, or_false] at hc
  rcases hc with rfl | rfl | rfl
  · exact w_c0
  · exact w_c1
  · exact w_c2
set_option maxRecDepth 65536 in
theorem w_t1 : (words1.take 24).all (fun c => isCode c || c.before args0 about1) = true := by decide +kernel
set_option maxRecDepth 65536 in
theorem w_t2 : (words1.drop 24).all (fun c => isCode c || c.before args0 about1) = true := by decide +kernel
theorem w_tables : (allAtoms (Jvm.Cond.code x code maxLocals ret :: tables_1)).before args0 about1 = true := by
  rw [allAtoms_all]
  show words1.all (fun c => c.before args0 about1) = true
  refine all_split ?_ w_codes
  rw [← List.take_append_drop 24 words1, List.all_append, w_t1, w_t2]
  rfl
set_option maxRecDepth 65536 in
theorem w_case : (Jvm.Cond.and given_1 narrow_1).before args0 about1 = true := by decide +kernel
theorem w_applies : (headSpec (Jvm.Cond.code x code maxLocals ret :: tables_1) room_1).applies x e0.platform about1 = true :=
  (Spec.applies_iff w_frames).mpr ⟨w_running, w_runnable, w_alone, w_named, w_hears, w_ripe, w_room, w_tables⟩
theorem atStart : AtStart classFile x code maxLocals ret World_1 tables_1 room_1 Calls_1 rest_1 Pre_1 launch0 p0 e0 about1 theMethod args0 below0 :=
  ⟨lists_1, trivial, launch0.admits_env _ _ _, launch0.least_env, fairChoices_fair.cas, fairChoices_fair.clock, w_frames, w_args, w_heap, w_applies, trivial, trivial, w_case⟩
end start1
theorem witness_1 : WitnessClaimed_1 := ⟨start1.p0, start1.e0, start1.about1, start1.theMethod, start1.args0, start1.below0, start1.atStart⟩
end Jvm.Pilot.@@N@@
