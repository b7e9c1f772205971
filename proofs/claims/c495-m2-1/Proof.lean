import JvmDerived
import JvmDerived.Pilot.@@N@@Statement
import JvmDerived.Pilot.@@N@@Code
set_option linter.unusedVariables false
set_option linter.unusedSimpArgs false
namespace Jvm.RoadKit
open Sem ClassFile Op Lib Jvm.Stand Jvm.Free Jvm.LawKit
section New
variable {p : Program} {l : Launch} {e : Env} {R : Room} {s : State} {m : MethodId} {args : Array Value} {below : List Frame} {meth : Method} {c : Code} {T : State} {locs : List Loc} {cells slots : Nat}
theorem retI (X : Stand p l e R s m args below meth c T locs cells slots) (hx : p.tables.exec = Jvm.exec) {pc : Nat} {Ls : Array Slot} {z : Int32} {rest : List Value} (hret : meth.sig.returnType = some .int) (hd : decode c.code pc = .ok (.ireturn, 1)) {fs : List Frame}
    (hl : ∀ (f : JFrame) (acts : List Action), f.method = m → f.locked = none → f.entered = [] → (doReturn e (T.setTop f) acts (some (.int z))).1 = T.setFrames fs) : Steps p.tables e below (T.setTop (mkF m pc Ls (.int z :: rest))) (T.setFrames fs) := by
  have hm' : T.vm.method? m = some meth := X.method'
  have hn : narrow .int (.int z) = .int z := rfl
  show Steps p.tables e below (T.setTop { method := m, pc := pc, locals := Ls, stack := _ :: rest, locked := none }) _
  jvm_step X.here [X.here.top, hx, hd, hm', hret, hn]
  first | (intro acts; rw [hl _ acts rfl rfl rfl]) | rw [hl _ _ rfl rfl rfl]
  exact Steps.refl _
theorem own_retL (X : Stand p l e R s m args below meth c T locs cells slots) (hx : p.tables.exec = Jvm.exec) {pc : Nat} {Ls : Array Slot} {z : Int64} {rest : List Value} (hret : meth.sig.returnType = some .long) (hd : decode c.code pc = .ok (.lreturn, 1)) {fs : List Frame}
    (hl : ∀ (f : JFrame) (acts : List Action), f.method = m → f.locked = none → f.entered = [] → (doReturn e (T.setTop f) acts (some (.long z))).1 = T.setFrames fs) : Steps p.tables e below (T.setTop (mkF m pc Ls (.long z :: rest))) (T.setFrames fs) :=
  retOut X hx hret rfl (Or.inr (Or.inl ⟨rfl, rfl, z, rfl⟩)) hd hl
/-- from the state T with the frame g on top the run comes to the invocation's end, returns v, and Q and the frame's bounds hold there -/
def own_Goes (p : Program) (e : Env) (below : List Frame) (s : State) (Q : Option Value → Heap → List Loc → Prop) (k n : Nat) (T : State) (g : JFrame) : Prop :=
  ∃ s₂ o, Steps p.tables e below (T.setTop g) s₂ ∧ s₂.status = .running ∧ Ended s₂ below o ∧ ∃ v L, o = .returned v ∧ Q v s₂.heap L ∧ FrameEnd s o s₂ L k n
theorem own_step {Q : Option Value → Heap → List Loc → Prop} {k n : Nat} {T T' : State} {g g' : JFrame} (h : ∀ t, Steps p.tables e below (T'.setTop g') t → Steps p.tables e below (T.setTop g) t) (w : own_Goes p e below s Q k n T' g') : own_Goes p e below s Q k n T g := by
  obtain ⟨s₂, o, h1, r⟩ := w
  exact ⟨s₂, o, h _ h1, r⟩
theorem own_ret {x : MethodName} {S : Spec} {code : ByteArray} {maxLocals : Nat} {ret : Option FieldType} {s₁ : State} (X : Stand p l e R s m args below meth c T locs cells slots) (Bd : BodyLoose p l x S code maxLocals ret e s m args below meth c s₁) {v : Option Value} (hv : meth.sig.returnType = none → v = none) {g : JFrame}
    (hst : ∀ fs, (∀ (f : JFrame) (acts : List Action), f.method = m → f.locked = none → f.entered = [] → (doReturn e (T.setTop f) acts v).1 = T.setFrames fs) → Steps p.tables e below (T.setTop g) (T.setFrames fs)) {Q : Option Value → Heap → List Loc → Prop} (hQ : Q v T.heap locs) {k n : Nat} (hk : cells ≤ k) (hn : slots ≤ n) : own_Goes p e below s Q k n T g := by
  obtain ⟨fs, hr, hrun, hended, hW, hsame⟩ := X.leave (v := v) hv
  exact ⟨_, _, hst fs hr, hrun, hended, _, _, rfl, hQ, ⟨_, rfl⟩, hW, hsame.mono hk hn⟩
/-- what a body leaves that writes nothing: the value r, the heap as it was -/
def own_Pure (r : Value) (h0 : Heap) (n0 : Nat) (v : Option Value) (h : Heap) (L : List Loc) : Prop := v = some r ∧ Fr n0 L ∧ h = h0
/-- what the law leaves -/
def own_Law (n0 : Nat) (v : Option Value) (_ : Heap) (L : List Loc) : Prop := v = some (.int 1) ∧ Fr n0 L
end New
theorem own_getD (ws : List Int32) (i : Nat) : (ws.map Value.int).getD i (.int (0 : Int32)) = .int (ws.getD i (0 : Int32)) := by
  induction ws generalizing i with
  | nil => rfl
  | cons a r ih => cases i with
    | zero => rfl
    | succ j => exact ih j
end Jvm.RoadKit
namespace Jvm.Pilot.@@N@@
open Jvm Jvm.ClassFile Sem Op Lib Jvm.Free Jvm.Stand Jvm.LawKit Jvm.RoadKit Bundle Jvm.Pilot.@@N@@.Jvm.D
theorem pd_0 : parseMethodDescriptor "(Ljava/lang/Object;Ljava/lang/String;)Ljava/lang/Object;" = some ⟨[(.object "java/lang/Object"), (.object "java/lang/String")], some (.object "java/lang/Object")⟩ := by decide +kernel
theorem pd_1 : parseMethodDescriptor "()J" = some ⟨[], some .long⟩ := by decide +kernel
theorem pd_2 : parseMethodDescriptor "(J)I" = some ⟨[.long], some .int⟩ := by decide +kernel
theorem pd_3 : parseMethodDescriptor "([I[J[JI)V" = some ⟨[(.array .int), (.array .long), (.array .long), .int], none⟩ := by decide +kernel
theorem pd_4 : parseMethodDescriptor "(J)V" = some ⟨[.long], none⟩ := by decide +kernel
theorem pd_5 : parseMethodDescriptor "(JJ)J" = some ⟨[.long, .long], some .long⟩ := by decide +kernel
theorem pd_6 : parseMethodDescriptor "()I" = some ⟨[], some .int⟩ := by decide +kernel
theorem pd_7 : parseMethodDescriptor "()V" = some ⟨[], none⟩ := by decide +kernel
theorem pd_8 : parseMethodDescriptor "(Lcom/example/impatiens/impatiens/statespace/StateWriter;)V" = some ⟨[(.object "com/example/impatiens/impatiens/statespace/StateWriter")], none⟩ := by decide +kernel
theorem pd_9 : parseMethodDescriptor "()[B" = some ⟨[], some (.array .byte)⟩ := by decide +kernel
theorem pd_10 : parseMethodDescriptor "([B)V" = some ⟨[(.array .byte)], none⟩ := by decide +kernel
theorem pd_11 : parseMethodDescriptor "(Lcom/example/impatiens/impatiens/statespace/StateReader;)Lcom/example/impatiens/impatiens/itpn/Instances;" = some ⟨[(.object "com/example/impatiens/impatiens/statespace/StateReader")], some (.object "com/example/impatiens/impatiens/itpn/Instances")⟩ := by decide +kernel
theorem d5_0 : decode prog_77_method_2_code 0 = .ok (.aload_n 0, 1) := by decide +kernel
theorem d5_1 : decode prog_77_method_2_code 1 = .ok (.getfield 7, 3) := by decide +kernel
theorem d5_4 : decode prog_77_method_2_code 4 = .ok (.areturn, 1) := by decide +kernel
theorem pn_5 : plainName "com/example/impatiens/impatiens/statespace/StateWriter" = true := by first | (simp [plainName, overriddenIn]; done) | decide +kernel
theorem ef_5 (m : MethodId) (x0 : Addr) : entryFrame m #[(.ref x0)] 1 = mkF m 0 #[.val (.ref x0)] [] := by first | (simp [entryFrame, mkF, argsToLocals, Value.category]; done) | rfl
theorem d15_0 : decode prog_77_method_3_code 0 = .ok (.aload_n 0, 1) := by decide +kernel
theorem d15_1 : decode prog_77_method_3_code 1 = .ok (.getfield 13, 3) := by decide +kernel
theorem d15_4 : decode prog_77_method_3_code 4 = .ok (.ireturn, 1) := by decide +kernel
theorem pn_15 : plainName "com/example/impatiens/impatiens/statespace/StateWriter" = true := by first | (simp [plainName, overriddenIn]; done) | decide +kernel
theorem ef_15 (m : MethodId) (x0 : Addr) : entryFrame m #[(.ref x0)] 1 = mkF m 0 #[.val (.ref x0)] [] := by first | (simp [entryFrame, mkF, argsToLocals, Value.category]; done) | rfl
theorem d14_0 : decode prog_75_method_2_code 0 = .ok (.aload_n 0, 1) := by decide +kernel
theorem d14_1 : decode prog_75_method_2_code 1 = .ok (.getfield 22, 3) := by decide +kernel
theorem d14_4 : decode prog_75_method_2_code 4 = .ok (.ireturn, 1) := by decide +kernel
theorem pn_14 : plainName "com/example/impatiens/impatiens/statespace/StateReader" = true := by first | (simp [plainName, overriddenIn]; done) | decide +kernel
theorem ef_14 (m : MethodId) (x0 : Addr) : entryFrame m #[(.ref x0)] 1 = mkF m 0 #[.val (.ref x0)] [] := by first | (simp [entryFrame, mkF, argsToLocals, Value.category]; done) | rfl
theorem d2_0 : decode prog_77_method_1_code 0 = .ok (.aload_n 0, 1) := by decide +kernel
theorem d2_1 : decode prog_77_method_1_code 1 = .ok (.invokespecial 1, 3) := by decide +kernel
theorem d2_4 : decode prog_77_method_1_code 4 = .ok (.aload_n 0, 1) := by decide +kernel
theorem d2_5 : decode prog_77_method_1_code 5 = .ok (.bipush 64, 2) := by decide +kernel
theorem d2_7 : decode prog_77_method_1_code 7 = .ok (.newarray .byte, 2) := by decide +kernel
theorem d2_9 : decode prog_77_method_1_code 9 = .ok (.putfield 7, 3) := by decide +kernel
theorem d2_12 : decode prog_77_method_1_code 12 = .ok (.return_, 1) := by decide +kernel
theorem pn_2 : plainName "com/example/impatiens/impatiens/statespace/StateWriter" = true := by first | (simp [plainName, overriddenIn]; done) | decide +kernel
theorem ef_2 (m : MethodId) (x0 : Addr) : entryFrame m #[(.ref x0)] 1 = mkF m 0 #[.val (.ref x0)] [] := by first | (simp [entryFrame, mkF, argsToLocals, Value.category]; done) | rfl
theorem d4_0 : decode prog_77_method_6_code 0 = .ok (.lload_n 1, 1) := by decide +kernel
theorem d4_1 : decode prog_77_method_6_code 1 = .ok (.lconst 0, 1) := by decide +kernel
theorem d4_2 : decode prog_77_method_6_code 2 = .ok (.lcmp, 1) := by decide +kernel
theorem d4_3 : decode prog_77_method_6_code 3 = .ok (.ifCond .ge 17, 3) := by decide +kernel
theorem d4_20 : decode prog_77_method_6_code 20 = .ok (.aload_n 0, 1) := by decide +kernel
theorem d4_21 : decode prog_77_method_6_code 21 = .ok (.getfield 13, 3) := by decide +kernel
theorem d4_24 : decode prog_77_method_6_code 24 = .ok (.bipush 10, 2) := by decide +kernel
theorem d4_26 : decode prog_77_method_6_code 26 = .ok (.iadd, 1) := by decide +kernel
theorem d4_27 : decode prog_77_method_6_code 27 = .ok (.aload_n 0, 1) := by decide +kernel
theorem d4_28 : decode prog_77_method_6_code 28 = .ok (.getfield 7, 3) := by decide +kernel
theorem d4_31 : decode prog_77_method_6_code 31 = .ok (.arraylength, 1) := by decide +kernel
theorem d4_32 : decode prog_77_method_6_code 32 = .ok (.if_icmp .le 31, 3) := by decide +kernel
theorem d4_63 : decode prog_77_method_6_code 63 = .ok (.lload_n 1, 1) := by decide +kernel
theorem d4_64 : decode prog_77_method_6_code 64 = .ok (.lstore_n 3, 1) := by decide +kernel
theorem d4_65 : decode prog_77_method_6_code 65 = .ok (.lload_n 3, 1) := by decide +kernel
theorem d4_66 : decode prog_77_method_6_code 66 = .ok (.ldc2_w 41, 3) := by decide +kernel
theorem d4_69 : decode prog_77_method_6_code 69 = .ok (.lcmp, 1) := by decide +kernel
theorem d4_70 : decode prog_77_method_6_code 70 = .ok (.ifCond .lt 38, 3) := by decide +kernel
theorem d4_73 : decode prog_77_method_6_code 73 = .ok (.aload_n 0, 1) := by decide +kernel
theorem d4_74 : decode prog_77_method_6_code 74 = .ok (.getfield 7, 3) := by decide +kernel
theorem d4_77 : decode prog_77_method_6_code 77 = .ok (.aload_n 0, 1) := by decide +kernel
theorem d4_78 : decode prog_77_method_6_code 78 = .ok (.dup, 1) := by decide +kernel
theorem d4_79 : decode prog_77_method_6_code 79 = .ok (.getfield 13, 3) := by decide +kernel
theorem d4_82 : decode prog_77_method_6_code 82 = .ok (.dup_x1, 1) := by decide +kernel
theorem d4_83 : decode prog_77_method_6_code 83 = .ok (.iconst 1, 1) := by decide +kernel
theorem d4_84 : decode prog_77_method_6_code 84 = .ok (.iadd, 1) := by decide +kernel
theorem d4_85 : decode prog_77_method_6_code 85 = .ok (.putfield 13, 3) := by decide +kernel
theorem d4_88 : decode prog_77_method_6_code 88 = .ok (.lload_n 3, 1) := by decide +kernel
theorem d4_89 : decode prog_77_method_6_code 89 = .ok (.ldc2_w 43, 3) := by decide +kernel
theorem d4_92 : decode prog_77_method_6_code 92 = .ok (.land, 1) := by decide +kernel
theorem d4_93 : decode prog_77_method_6_code 93 = .ok (.ldc2_w 41, 3) := by decide +kernel
theorem d4_96 : decode prog_77_method_6_code 96 = .ok (.lor, 1) := by decide +kernel
theorem d4_97 : decode prog_77_method_6_code 97 = .ok (.l2i, 1) := by decide +kernel
theorem d4_98 : decode prog_77_method_6_code 98 = .ok (.i2b, 1) := by decide +kernel
theorem d4_99 : decode prog_77_method_6_code 99 = .ok (.bastore, 1) := by decide +kernel
theorem d4_100 : decode prog_77_method_6_code 100 = .ok (.lload_n 3, 1) := by decide +kernel
theorem d4_101 : decode prog_77_method_6_code 101 = .ok (.bipush 7, 2) := by decide +kernel
theorem d4_103 : decode prog_77_method_6_code 103 = .ok (.lushr, 1) := by decide +kernel
theorem d4_104 : decode prog_77_method_6_code 104 = .ok (.lstore_n 3, 1) := by decide +kernel
theorem d4_105 : decode prog_77_method_6_code 105 = .ok (.goto (-40), 3) := by decide +kernel
theorem d4_108 : decode prog_77_method_6_code 108 = .ok (.aload_n 0, 1) := by decide +kernel
theorem d4_109 : decode prog_77_method_6_code 109 = .ok (.getfield 7, 3) := by decide +kernel
theorem d4_112 : decode prog_77_method_6_code 112 = .ok (.aload_n 0, 1) := by decide +kernel
theorem d4_113 : decode prog_77_method_6_code 113 = .ok (.dup, 1) := by decide +kernel
theorem d4_114 : decode prog_77_method_6_code 114 = .ok (.getfield 13, 3) := by decide +kernel
theorem d4_117 : decode prog_77_method_6_code 117 = .ok (.dup_x1, 1) := by decide +kernel
theorem d4_118 : decode prog_77_method_6_code 118 = .ok (.iconst 1, 1) := by decide +kernel
theorem d4_119 : decode prog_77_method_6_code 119 = .ok (.iadd, 1) := by decide +kernel
theorem d4_120 : decode prog_77_method_6_code 120 = .ok (.putfield 13, 3) := by decide +kernel
theorem d4_123 : decode prog_77_method_6_code 123 = .ok (.lload_n 3, 1) := by decide +kernel
theorem d4_124 : decode prog_77_method_6_code 124 = .ok (.l2i, 1) := by decide +kernel
theorem d4_125 : decode prog_77_method_6_code 125 = .ok (.i2b, 1) := by decide +kernel
theorem d4_126 : decode prog_77_method_6_code 126 = .ok (.bastore, 1) := by decide +kernel
theorem d4_127 : decode prog_77_method_6_code 127 = .ok (.return_, 1) := by decide +kernel
theorem pn_4 : plainName "com/example/impatiens/impatiens/statespace/StateWriter" = true := by first | (simp [plainName, overriddenIn]; done) | decide +kernel
theorem ef_4 (m : MethodId) (x0 : Addr) (x1 : Int64) : entryFrame m #[(.ref x0), (.long x1)] 5 = mkF m 0 #[.val (.ref x0), .val (.long x1), .second, .unset, .unset] [] := by first | (simp [entryFrame, mkF, argsToLocals, Value.category]; done) | rfl
theorem d7_0 : decode jdk_31_method_11_code 0 = .ok (.aload_n 0, 1) := by decide +kernel
theorem d7_1 : decode jdk_31_method_11_code 1 = .ok (.ifnonnull 12, 3) := by decide +kernel
theorem d7_13 : decode jdk_31_method_11_code 13 = .ok (.aload_n 0, 1) := by decide +kernel
theorem d7_14 : decode jdk_31_method_11_code 14 = .ok (.areturn, 1) := by decide +kernel
theorem pn_7 : plainName "java/util/Objects" = true := by first | (simp [plainName, overriddenIn]; done) | decide +kernel
theorem ef_7 (m : MethodId) (x0 : Addr) (x1 : Addr) : entryFrame m #[(.ref x0), (.ref x1)] 2 = mkF m 0 #[.val (.ref x0), .val (.ref x1)] [] := by first | (simp [entryFrame, mkF, argsToLocals, Value.category]; done) | rfl
theorem d6_0 : decode prog_75_method_1_code 0 = .ok (.aload_n 0, 1) := by decide +kernel
theorem d6_1 : decode prog_75_method_1_code 1 = .ok (.invokespecial 1, 3) := by decide +kernel
theorem d6_4 : decode prog_75_method_1_code 4 = .ok (.aload_n 0, 1) := by decide +kernel
theorem d6_5 : decode prog_75_method_1_code 5 = .ok (.aload_n 1, 1) := by decide +kernel
theorem d6_6 : decode prog_75_method_1_code 6 = .ok (.ldc 7, 2) := by decide +kernel
theorem d6_8 : decode prog_75_method_1_code 8 = .ok (.invokestatic 9, 3) := by decide +kernel
theorem d6_11 : decode prog_75_method_1_code 11 = .ok (.checkcast 15, 3) := by decide +kernel
theorem d6_14 : decode prog_75_method_1_code 14 = .ok (.putfield 17, 3) := by decide +kernel
theorem d6_17 : decode prog_75_method_1_code 17 = .ok (.return_, 1) := by decide +kernel
theorem pn_6 : plainName "com/example/impatiens/impatiens/statespace/StateReader" = true := by first | (simp [plainName, overriddenIn]; done) | decide +kernel
theorem ef_6 (m : MethodId) (x0 : Addr) (x1 : Addr) : entryFrame m #[(.ref x0), (.ref x1)] 2 = mkF m 0 #[.val (.ref x0), .val (.ref x1)] [] := by first | (simp [entryFrame, mkF, argsToLocals, Value.category]; done) | rfl
theorem d9_0 : decode prog_75_method_3_code 0 = .ok (.lconst 0, 1) := by decide +kernel
theorem d9_1 : decode prog_75_method_3_code 1 = .ok (.lstore_n 1, 1) := by decide +kernel
theorem d9_2 : decode prog_75_method_3_code 2 = .ok (.iconst 0, 1) := by decide +kernel
theorem d9_3 : decode prog_75_method_3_code 3 = .ok (.istore_n 3, 1) := by decide +kernel
theorem d9_4 : decode prog_75_method_3_code 4 = .ok (.aload_n 0, 1) := by decide +kernel
theorem d9_5 : decode prog_75_method_3_code 5 = .ok (.getfield 22, 3) := by decide +kernel
theorem d9_8 : decode prog_75_method_3_code 8 = .ok (.aload_n 0, 1) := by decide +kernel
theorem d9_9 : decode prog_75_method_3_code 9 = .ok (.getfield 17, 3) := by decide +kernel
theorem d9_12 : decode prog_75_method_3_code 12 = .ok (.arraylength, 1) := by decide +kernel
theorem d9_13 : decode prog_75_method_3_code 13 = .ok (.if_icmp .ne 13, 3) := by decide +kernel
theorem d9_26 : decode prog_75_method_3_code 26 = .ok (.aload_n 0, 1) := by decide +kernel
theorem d9_27 : decode prog_75_method_3_code 27 = .ok (.getfield 17, 3) := by decide +kernel
theorem d9_30 : decode prog_75_method_3_code 30 = .ok (.aload_n 0, 1) := by decide +kernel
theorem d9_31 : decode prog_75_method_3_code 31 = .ok (.dup, 1) := by decide +kernel
theorem d9_32 : decode prog_75_method_3_code 32 = .ok (.getfield 22, 3) := by decide +kernel
theorem d9_35 : decode prog_75_method_3_code 35 = .ok (.dup_x1, 1) := by decide +kernel
theorem d9_36 : decode prog_75_method_3_code 36 = .ok (.iconst 1, 1) := by decide +kernel
theorem d9_37 : decode prog_75_method_3_code 37 = .ok (.iadd, 1) := by decide +kernel
theorem d9_38 : decode prog_75_method_3_code 38 = .ok (.putfield 22, 3) := by decide +kernel
theorem d9_41 : decode prog_75_method_3_code 41 = .ok (.baload, 1) := by decide +kernel
theorem d9_42 : decode prog_75_method_3_code 42 = .ok (.istore 4, 2) := by decide +kernel
theorem d9_44 : decode prog_75_method_3_code 44 = .ok (.lload_n 1, 1) := by decide +kernel
theorem d9_45 : decode prog_75_method_3_code 45 = .ok (.iload 4, 2) := by decide +kernel
theorem d9_47 : decode prog_75_method_3_code 47 = .ok (.bipush 127, 2) := by decide +kernel
theorem d9_49 : decode prog_75_method_3_code 49 = .ok (.iand, 1) := by decide +kernel
theorem d9_50 : decode prog_75_method_3_code 50 = .ok (.i2l, 1) := by decide +kernel
theorem d9_51 : decode prog_75_method_3_code 51 = .ok (.iload_n 3, 1) := by decide +kernel
theorem d9_52 : decode prog_75_method_3_code 52 = .ok (.lshl, 1) := by decide +kernel
theorem d9_53 : decode prog_75_method_3_code 53 = .ok (.lor, 1) := by decide +kernel
theorem d9_54 : decode prog_75_method_3_code 54 = .ok (.lstore_n 1, 1) := by decide +kernel
theorem d9_55 : decode prog_75_method_3_code 55 = .ok (.iinc 3 7, 3) := by decide +kernel
theorem d9_58 : decode prog_75_method_3_code 58 = .ok (.iload 4, 2) := by decide +kernel
theorem d9_60 : decode prog_75_method_3_code 60 = .ok (.ifCond .lt (-56), 3) := by decide +kernel
theorem d9_63 : decode prog_75_method_3_code 63 = .ok (.lload_n 1, 1) := by decide +kernel
theorem d9_64 : decode prog_75_method_3_code 64 = .ok (.lreturn, 1) := by decide +kernel
theorem pn_9 : plainName "com/example/impatiens/impatiens/statespace/StateReader" = true := by first | (simp [plainName, overriddenIn]; done) | decide +kernel
theorem ef_9 (m : MethodId) (x0 : Addr) : entryFrame m #[(.ref x0)] 5 = mkF m 0 #[.val (.ref x0), .unset, .unset, .unset, .unset] [] := by first | (simp [entryFrame, mkF, argsToLocals, Value.category]; done) | rfl
theorem d10_0 : decode jdk_29_method_43_code 0 = .ok (.lload_n 0, 1) := by decide +kernel
theorem d10_1 : decode jdk_29_method_43_code 1 = .ok (.l2i, 1) := by decide +kernel
theorem d10_2 : decode jdk_29_method_43_code 2 = .ok (.i2l, 1) := by decide +kernel
theorem d10_3 : decode jdk_29_method_43_code 3 = .ok (.lload_n 0, 1) := by decide +kernel
theorem d10_4 : decode jdk_29_method_43_code 4 = .ok (.lcmp, 1) := by decide +kernel
theorem d10_5 : decode jdk_29_method_43_code 5 = .ok (.ifCond .eq 13, 3) := by decide +kernel
theorem d10_18 : decode jdk_29_method_43_code 18 = .ok (.lload_n 0, 1) := by decide +kernel
theorem d10_19 : decode jdk_29_method_43_code 19 = .ok (.l2i, 1) := by decide +kernel
theorem d10_20 : decode jdk_29_method_43_code 20 = .ok (.ireturn, 1) := by decide +kernel
theorem ef_10 (m : MethodId) (x0 : Int64) : entryFrame m #[(.long x0)] 2 = mkF m 0 #[.val (.long x0), .second] [] := by first | (simp [entryFrame, mkF, argsToLocals, Value.category]; done) | rfl
theorem d11_0 : decode prog_14_method_2_code 0 = .ok (.aload_n 0, 1) := by decide +kernel
theorem d11_1 : decode prog_14_method_2_code 1 = .ok (.invokespecial 7, 3) := by decide +kernel
theorem d11_4 : decode prog_14_method_2_code 4 = .ok (.aload_n 0, 1) := by decide +kernel
theorem d11_5 : decode prog_14_method_2_code 5 = .ok (.aload_n 1, 1) := by decide +kernel
theorem d11_6 : decode prog_14_method_2_code 6 = .ok (.putfield 12, 3) := by decide +kernel
theorem d11_9 : decode prog_14_method_2_code 9 = .ok (.aload_n 0, 1) := by decide +kernel
theorem d11_10 : decode prog_14_method_2_code 10 = .ok (.aload_n 2, 1) := by decide +kernel
theorem d11_11 : decode prog_14_method_2_code 11 = .ok (.putfield 16, 3) := by decide +kernel
theorem d11_14 : decode prog_14_method_2_code 14 = .ok (.aload_n 0, 1) := by decide +kernel
theorem d11_15 : decode prog_14_method_2_code 15 = .ok (.aload_n 3, 1) := by decide +kernel
theorem d11_16 : decode prog_14_method_2_code 16 = .ok (.putfield 20, 3) := by decide +kernel
theorem d11_19 : decode prog_14_method_2_code 19 = .ok (.aload_n 0, 1) := by decide +kernel
theorem d11_20 : decode prog_14_method_2_code 20 = .ok (.iload 4, 2) := by decide +kernel
theorem d11_22 : decode prog_14_method_2_code 22 = .ok (.putfield 23, 3) := by decide +kernel
theorem d11_25 : decode prog_14_method_2_code 25 = .ok (.return_, 1) := by decide +kernel
theorem pn_11 : plainName "com/example/impatiens/impatiens/itpn/Instances" = true := by first | (simp [plainName, overriddenIn]; done) | decide +kernel
theorem ef_11 (m : MethodId) (x0 : Addr) (x1 : Addr) (x2 : Addr) (x3 : Addr) (x4 : Int32) : entryFrame m #[(.ref x0), (.ref x1), (.ref x2), (.ref x3), (.int x4)] 5 = mkF m 0 #[.val (.ref x0), .val (.ref x1), .val (.ref x2), .val (.ref x3), .val (.int x4)] [] := by first | (simp [entryFrame, mkF, argsToLocals, Value.category]; done) | rfl
theorem d8_0 : decode prog_14_method_3_code 0 = .ok (.aload_n 0, 1) := by decide +kernel
theorem d8_1 : decode prog_14_method_3_code 1 = .ok (.invokevirtual 27, 3) := by decide +kernel
theorem d8_4 : decode prog_14_method_3_code 4 = .ok (.invokestatic 33, 3) := by decide +kernel
theorem d8_7 : decode prog_14_method_3_code 7 = .ok (.istore_n 1, 1) := by decide +kernel
theorem d8_8 : decode prog_14_method_3_code 8 = .ok (.new 2, 3) := by decide +kernel
theorem d8_11 : decode prog_14_method_3_code 11 = .ok (.dup, 1) := by decide +kernel
theorem d8_12 : decode prog_14_method_3_code 12 = .ok (.iload_n 1, 1) := by decide +kernel
theorem d8_13 : decode prog_14_method_3_code 13 = .ok (.newarray .int, 2) := by decide +kernel
theorem d8_15 : decode prog_14_method_3_code 15 = .ok (.iload_n 1, 1) := by decide +kernel
theorem d8_16 : decode prog_14_method_3_code 16 = .ok (.newarray .long, 2) := by decide +kernel
theorem d8_18 : decode prog_14_method_3_code 18 = .ok (.iload_n 1, 1) := by decide +kernel
theorem d8_19 : decode prog_14_method_3_code 19 = .ok (.newarray .long, 2) := by decide +kernel
theorem d8_21 : decode prog_14_method_3_code 21 = .ok (.iload_n 1, 1) := by decide +kernel
theorem d8_22 : decode prog_14_method_3_code 22 = .ok (.invokespecial 1, 3) := by decide +kernel
theorem d8_25 : decode prog_14_method_3_code 25 = .ok (.astore_n 2, 1) := by decide +kernel
theorem d8_26 : decode prog_14_method_3_code 26 = .ok (.iconst 0, 1) := by decide +kernel
theorem d8_27 : decode prog_14_method_3_code 27 = .ok (.istore_n 3, 1) := by decide +kernel
theorem d8_28 : decode prog_14_method_3_code 28 = .ok (.iconst 0, 1) := by decide +kernel
theorem d8_29 : decode prog_14_method_3_code 29 = .ok (.istore 4, 2) := by decide +kernel
theorem d8_31 : decode prog_14_method_3_code 31 = .ok (.iload 4, 2) := by decide +kernel
theorem d8_33 : decode prog_14_method_3_code 33 = .ok (.iload_n 1, 1) := by decide +kernel
theorem d8_34 : decode prog_14_method_3_code 34 = .ok (.if_icmp .ge 49, 3) := by decide +kernel
theorem d8_37 : decode prog_14_method_3_code 37 = .ok (.iload_n 3, 1) := by decide +kernel
theorem d8_38 : decode prog_14_method_3_code 38 = .ok (.aload_n 0, 1) := by decide +kernel
theorem d8_39 : decode prog_14_method_3_code 39 = .ok (.invokevirtual 27, 3) := by decide +kernel
theorem d8_42 : decode prog_14_method_3_code 42 = .ok (.invokestatic 33, 3) := by decide +kernel
theorem d8_45 : decode prog_14_method_3_code 45 = .ok (.iadd, 1) := by decide +kernel
theorem d8_46 : decode prog_14_method_3_code 46 = .ok (.istore_n 3, 1) := by decide +kernel
theorem d8_47 : decode prog_14_method_3_code 47 = .ok (.aload_n 2, 1) := by decide +kernel
theorem d8_48 : decode prog_14_method_3_code 48 = .ok (.getfield 12, 3) := by decide +kernel
theorem d8_51 : decode prog_14_method_3_code 51 = .ok (.iload 4, 2) := by decide +kernel
theorem d8_53 : decode prog_14_method_3_code 53 = .ok (.iload_n 3, 1) := by decide +kernel
theorem d8_54 : decode prog_14_method_3_code 54 = .ok (.iastore, 1) := by decide +kernel
theorem d8_55 : decode prog_14_method_3_code 55 = .ok (.aload_n 2, 1) := by decide +kernel
theorem d8_56 : decode prog_14_method_3_code 56 = .ok (.getfield 16, 3) := by decide +kernel
theorem d8_59 : decode prog_14_method_3_code 59 = .ok (.iload 4, 2) := by decide +kernel
theorem d8_61 : decode prog_14_method_3_code 61 = .ok (.aload_n 0, 1) := by decide +kernel
theorem d8_62 : decode prog_14_method_3_code 62 = .ok (.invokevirtual 27, 3) := by decide +kernel
theorem d8_65 : decode prog_14_method_3_code 65 = .ok (.lastore, 1) := by decide +kernel
theorem d8_66 : decode prog_14_method_3_code 66 = .ok (.aload_n 2, 1) := by decide +kernel
theorem d8_67 : decode prog_14_method_3_code 67 = .ok (.getfield 20, 3) := by decide +kernel
theorem d8_70 : decode prog_14_method_3_code 70 = .ok (.iload 4, 2) := by decide +kernel
theorem d8_72 : decode prog_14_method_3_code 72 = .ok (.aload_n 0, 1) := by decide +kernel
theorem d8_73 : decode prog_14_method_3_code 73 = .ok (.invokevirtual 27, 3) := by decide +kernel
theorem d8_76 : decode prog_14_method_3_code 76 = .ok (.lastore, 1) := by decide +kernel
theorem d8_77 : decode prog_14_method_3_code 77 = .ok (.iinc 4 1, 3) := by decide +kernel
theorem d8_80 : decode prog_14_method_3_code 80 = .ok (.goto (-49), 3) := by decide +kernel
theorem d8_83 : decode prog_14_method_3_code 83 = .ok (.aload_n 2, 1) := by decide +kernel
theorem d8_84 : decode prog_14_method_3_code 84 = .ok (.areturn, 1) := by decide +kernel
theorem pn_8 : plainName "com/example/impatiens/impatiens/itpn/Instances" = true := by first | (simp [plainName, overriddenIn]; done) | decide +kernel
theorem ef_8 (m : MethodId) (x0 : Addr) : entryFrame m #[(.ref x0)] 5 = mkF m 0 #[.val (.ref x0), .unset, .unset, .unset, .unset] [] := by first | (simp [entryFrame, mkF, argsToLocals, Value.category]; done) | rfl
theorem d12_0 : decode prog_14_method_7_code 0 = .ok (.iconst 0, 1) := by decide +kernel
theorem d12_1 : decode prog_14_method_7_code 1 = .ok (.istore_n 1, 1) := by decide +kernel
theorem d12_2 : decode prog_14_method_7_code 2 = .ok (.iload_n 1, 1) := by decide +kernel
theorem d12_3 : decode prog_14_method_7_code 3 = .ok (.aload_n 0, 1) := by decide +kernel
theorem d12_4 : decode prog_14_method_7_code 4 = .ok (.getfield 23, 3) := by decide +kernel
theorem d12_7 : decode prog_14_method_7_code 7 = .ok (.if_icmp .ge 19, 3) := by decide +kernel
theorem d12_10 : decode prog_14_method_7_code 10 = .ok (.aload_n 0, 1) := by decide +kernel
theorem d12_11 : decode prog_14_method_7_code 11 = .ok (.getfield 16, 3) := by decide +kernel
theorem d12_14 : decode prog_14_method_7_code 14 = .ok (.iload_n 1, 1) := by decide +kernel
theorem d12_15 : decode prog_14_method_7_code 15 = .ok (.dup2, 1) := by decide +kernel
theorem d12_16 : decode prog_14_method_7_code 16 = .ok (.laload, 1) := by decide +kernel
theorem d12_17 : decode prog_14_method_7_code 17 = .ok (.lconst 1, 1) := by decide +kernel
theorem d12_18 : decode prog_14_method_7_code 18 = .ok (.ladd, 1) := by decide +kernel
theorem d12_19 : decode prog_14_method_7_code 19 = .ok (.lastore, 1) := by decide +kernel
theorem d12_20 : decode prog_14_method_7_code 20 = .ok (.iinc 1 1, 3) := by decide +kernel
theorem d12_23 : decode prog_14_method_7_code 23 = .ok (.goto (-21), 3) := by decide +kernel
theorem d12_26 : decode prog_14_method_7_code 26 = .ok (.return_, 1) := by decide +kernel
theorem pn_12 : plainName "com/example/impatiens/impatiens/itpn/Instances" = true := by first | (simp [plainName, overriddenIn]; done) | decide +kernel
theorem ef_12 (m : MethodId) (x0 : Addr) : entryFrame m #[(.ref x0)] 2 = mkF m 0 #[.val (.ref x0), .unset] [] := by first | (simp [entryFrame, mkF, argsToLocals, Value.category]; done) | rfl
theorem d13_0 : decode prog_14_method_4_code 0 = .ok (.aload_n 1, 1) := by decide +kernel
theorem d13_1 : decode prog_14_method_4_code 1 = .ok (.aload_n 0, 1) := by decide +kernel
theorem d13_2 : decode prog_14_method_4_code 2 = .ok (.getfield 23, 3) := by decide +kernel
theorem d13_5 : decode prog_14_method_4_code 5 = .ok (.i2l, 1) := by decide +kernel
theorem d13_6 : decode prog_14_method_4_code 6 = .ok (.invokevirtual 39, 3) := by decide +kernel
theorem d13_9 : decode prog_14_method_4_code 9 = .ok (.iconst 0, 1) := by decide +kernel
theorem d13_10 : decode prog_14_method_4_code 10 = .ok (.istore_n 2, 1) := by decide +kernel
theorem d13_11 : decode prog_14_method_4_code 11 = .ok (.iconst 0, 1) := by decide +kernel
theorem d13_12 : decode prog_14_method_4_code 12 = .ok (.istore_n 3, 1) := by decide +kernel
theorem d13_13 : decode prog_14_method_4_code 13 = .ok (.iload_n 3, 1) := by decide +kernel
theorem d13_14 : decode prog_14_method_4_code 14 = .ok (.aload_n 0, 1) := by decide +kernel
theorem d13_15 : decode prog_14_method_4_code 15 = .ok (.getfield 23, 3) := by decide +kernel
theorem d13_18 : decode prog_14_method_4_code 18 = .ok (.if_icmp .ge 49, 3) := by decide +kernel
theorem d13_21 : decode prog_14_method_4_code 21 = .ok (.aload_n 1, 1) := by decide +kernel
theorem d13_22 : decode prog_14_method_4_code 22 = .ok (.aload_n 0, 1) := by decide +kernel
theorem d13_23 : decode prog_14_method_4_code 23 = .ok (.getfield 12, 3) := by decide +kernel
theorem d13_26 : decode prog_14_method_4_code 26 = .ok (.iload_n 3, 1) := by decide +kernel
theorem d13_27 : decode prog_14_method_4_code 27 = .ok (.iaload, 1) := by decide +kernel
theorem d13_28 : decode prog_14_method_4_code 28 = .ok (.iload_n 2, 1) := by decide +kernel
theorem d13_29 : decode prog_14_method_4_code 29 = .ok (.isub, 1) := by decide +kernel
theorem d13_30 : decode prog_14_method_4_code 30 = .ok (.i2l, 1) := by decide +kernel
theorem d13_31 : decode prog_14_method_4_code 31 = .ok (.invokevirtual 39, 3) := by decide +kernel
theorem d13_34 : decode prog_14_method_4_code 34 = .ok (.aload_n 1, 1) := by decide +kernel
theorem d13_35 : decode prog_14_method_4_code 35 = .ok (.aload_n 0, 1) := by decide +kernel
theorem d13_36 : decode prog_14_method_4_code 36 = .ok (.getfield 16, 3) := by decide +kernel
theorem d13_39 : decode prog_14_method_4_code 39 = .ok (.iload_n 3, 1) := by decide +kernel
theorem d13_40 : decode prog_14_method_4_code 40 = .ok (.laload, 1) := by decide +kernel
theorem d13_41 : decode prog_14_method_4_code 41 = .ok (.invokevirtual 39, 3) := by decide +kernel
theorem d13_44 : decode prog_14_method_4_code 44 = .ok (.aload_n 1, 1) := by decide +kernel
theorem d13_45 : decode prog_14_method_4_code 45 = .ok (.aload_n 0, 1) := by decide +kernel
theorem d13_46 : decode prog_14_method_4_code 46 = .ok (.getfield 20, 3) := by decide +kernel
theorem d13_49 : decode prog_14_method_4_code 49 = .ok (.iload_n 3, 1) := by decide +kernel
theorem d13_50 : decode prog_14_method_4_code 50 = .ok (.laload, 1) := by decide +kernel
theorem d13_51 : decode prog_14_method_4_code 51 = .ok (.invokevirtual 39, 3) := by decide +kernel
theorem d13_54 : decode prog_14_method_4_code 54 = .ok (.aload_n 0, 1) := by decide +kernel
theorem d13_55 : decode prog_14_method_4_code 55 = .ok (.getfield 12, 3) := by decide +kernel
theorem d13_58 : decode prog_14_method_4_code 58 = .ok (.iload_n 3, 1) := by decide +kernel
theorem d13_59 : decode prog_14_method_4_code 59 = .ok (.iaload, 1) := by decide +kernel
theorem d13_60 : decode prog_14_method_4_code 60 = .ok (.istore_n 2, 1) := by decide +kernel
theorem d13_61 : decode prog_14_method_4_code 61 = .ok (.iinc 3 1, 3) := by decide +kernel
theorem d13_64 : decode prog_14_method_4_code 64 = .ok (.goto (-51), 3) := by decide +kernel
theorem d13_67 : decode prog_14_method_4_code 67 = .ok (.return_, 1) := by decide +kernel
theorem pn_13 : plainName "com/example/impatiens/impatiens/itpn/Instances" = true := by first | (simp [plainName, overriddenIn]; done) | decide +kernel
theorem ef_13 (m : MethodId) (x0 : Addr) (x1 : Addr) : entryFrame m #[(.ref x0), (.ref x1)] 4 = mkF m 0 #[.val (.ref x0), .val (.ref x1), .unset, .unset] [] := by first | (simp [entryFrame, mkF, argsToLocals, Value.category]; done) | rfl
theorem d1_0 : decode jdk_29_method_66_code 0 = .ok (.lload_n 0, 1) := by decide +kernel
theorem d1_1 : decode jdk_29_method_66_code 1 = .ok (.lload_n 2, 1) := by decide +kernel
theorem d1_2 : decode jdk_29_method_66_code 2 = .ok (.lcmp, 1) := by decide +kernel
theorem d1_3 : decode jdk_29_method_66_code 3 = .ok (.ifCond .lt 7, 3) := by decide +kernel
theorem d1_6 : decode jdk_29_method_66_code 6 = .ok (.lload_n 0, 1) := by decide +kernel
theorem d1_7 : decode jdk_29_method_66_code 7 = .ok (.goto 4, 3) := by decide +kernel
theorem d1_10 : decode jdk_29_method_66_code 10 = .ok (.lload_n 2, 1) := by decide +kernel
theorem d1_11 : decode jdk_29_method_66_code 11 = .ok (.lreturn, 1) := by decide +kernel
theorem ef_1 (m : MethodId) (x0 : Int64) (x2 : Int64) : entryFrame m #[(.long x0), (.long x2)] 4 = mkF m 0 #[.val (.long x0), .second, .val (.long x2), .second] [] := by first | (simp [entryFrame, mkF, argsToLocals, Value.category]; done) | rfl
def f1_11 (t0 : Int64) : Int64 := t0
def f1_10 (x2 : Int64) : Int64 := f1_11 x2
def f1_6 (x0 : Int64) : Int64 := f1_11 x0
def f1_0 (x0 : Int64) (x2 : Int64) : Int64 := if (lcmpW x0 x2) < (0 : Int32) then f1_10 x2 else f1_6 x0
theorem ef_0 (m : MethodId) (x0 : Int32) (x1 : Int32) (x2 : Int64) (x4 : Int64) (x6 : Int64) (x8 : Int64) : entryFrame m #[(.int x0), (.int x1), (.long x2), (.long x4), (.long x6), (.long x8)] maxLocals = mkF m 0 #[.val (.int x0), .val (.int x1), .val (.long x2), .second, .val (.long x4), .second, .val (.long x6), .second, .val (.long x8), .second, .unset, .unset, .unset, .unset, .unset, .unset, .unset, .unset, .unset, .unset, .unset, .unset, .unset, .unset, .unset, .unset] [] := by first | (simp [entryFrame, mkF, argsToLocals, Value.category, maxLocals]; done) | rfl
theorem pn_0 : plainName "com/example/impatiens/impatiens/itpn/InstancesTickPinLaw" = true := by first | (simp [plainName, overriddenIn]; done) | decide +kernel
/-- the bytes of a number, seven bits a byte, the last one plain -/
def own_enc : Nat → Nat → List Int32
  | 0, v => [Int32.ofNat v]
  | k + 1, v => if v < 128 then [Int32.ofNat v] else Int32.ofInt ((v % 128 : Nat) - 128 : Int) :: own_enc k (v / 128)
theorem own_enc_len (k v : Nat) : (own_enc k v).length ≤ k + 1 := by
  induction k generalizing v with
  | zero => simp [own_enc]
  | succ k ih =>
    unfold own_enc
    split
    · simp
    · have := ih (v / 128); simp; omega
theorem own_ofNat_toInt (v : Nat) (h : v < 2 ^ 63) : (Int64.ofNat v).toInt = v := by
  rw [Int64.toInt_ofNat_of_lt h]
theorem own_lt128 (v : Nat) (h : v < 2 ^ 63) : Int64.ofNat v < 128 ↔ v < 128 := by
  rw [Int64.lt_iff_toInt_lt, own_ofNat_toInt v h]
  have : (128 : Int64).toInt = 128 := rfl
  rw [this]; omega
theorem own_low (v : Nat) : Int64.ofNat v &&& (127 : Int64) = Int64.ofNat (v % 128) := by
  apply Int64.toBitVec_inj.mp
  apply BitVec.eq_of_toNat_eq
  show (BitVec.ofNat 64 v &&& 127#64).toNat = (BitVec.ofNat 64 (v % 128)).toNat
  rw [BitVec.toNat_and]
  simp only [BitVec.toNat_ofNat]
  have e : (127 % 2 ^ 64) = 2 ^ 7 - 1 := by decide
  rw [e, Nat.and_two_pow_sub_one_eq_mod]
  omega
theorem own_cont_small : ∀ m : Fin 128, ((((Int64.ofNat m.val) ||| (128 : Int64)).toInt32).toInt8.toInt32).toInt8.toInt32 = Int32.ofInt ((m.val : Int) - 128) := by decide +kernel
theorem own_cont (v : Nat) : ((((Int64.ofNat v &&& (127 : Int64)) ||| (128 : Int64)).toInt32).toInt8.toInt32).toInt8.toInt32 = Int32.ofInt ((v % 128 : Nat) - 128 : Int) := by
  rw [own_low]; exact own_cont_small ⟨v % 128, Nat.mod_lt _ (by decide)⟩
theorem own_last_small : ∀ m : Fin 128, (((Int64.ofNat m.val).toInt32).toInt8.toInt32).toInt8.toInt32 = Int32.ofNat m.val := by decide +kernel
theorem own_last (v : Nat) (h : v < 128) : (((Int64.ofNat v).toInt32).toInt8.toInt32).toInt8.toInt32 = Int32.ofNat v := own_last_small ⟨v, h⟩
theorem own_shr (v : Nat) (h : v < 2 ^ 63) : ((Int64.ofNat v).toUInt64 >>> ((7 : Int32) &&& 0x3f).toInt64.toUInt64).toInt64 = Int64.ofNat (v / 128) := by
  have e : ((7 : Int32) &&& 0x3f).toInt64.toUInt64 = 7 := by decide
  rw [e]
  apply Int64.toBitVec_inj.mp
  apply BitVec.eq_of_toNat_eq
  show ((BitVec.ofNat 64 v) >>> (7#64 % 64#64)).toNat = (BitVec.ofNat 64 (v / 128)).toNat
  have e2 : (7#64 % 64#64) = 7#64 := by decide
  rw [e2]
  simp only [BitVec.toNat_ushiftRight, BitVec.ushiftRight_eq', BitVec.toNat_ofNat]
  have e3 : (7 % 2 ^ 64) = 7 := by decide
  rw [e3, Nat.shiftRight_eq_div_pow]
  have : v / 128 < 2 ^ 64 := by omega
  rw [Nat.mod_eq_of_lt (by omega : v < 2 ^ 64), Nat.mod_eq_of_lt this]
theorem own_cmp128 (v : Nat) (h : v < 2 ^ 63) : (lcmpW (Int64.ofNat v) (128 : Int64)) < (0 : Int32) ↔ v < 128 := by
  rw [← own_lt128 v h]
  unfold lcmpW
  by_cases q : Int64.ofNat v < 128
  · have q1 : ¬ Int64.ofNat v > 128 := by rw [gt_iff_lt, Int64.lt_iff_toInt_lt]; rw [Int64.lt_iff_toInt_lt] at q; omega
    have q2 : ¬ Int64.ofNat v = 128 := by intro e; rw [e] at q; exact absurd q (by decide)
    rw [if_neg q1, if_neg q2]; simp [q]
  · by_cases q1 : Int64.ofNat v > 128
    · rw [if_pos q1]; simp [q]
    · have q2 : Int64.ofNat v = 128 := by
        apply Int64.toInt_inj.mp
        rw [Int64.lt_iff_toInt_lt] at q; rw [gt_iff_lt, Int64.lt_iff_toInt_lt] at q1; omega
      rw [if_neg q1, if_pos q2]; simp [q]
-- reading
theorem own_sh : ∀ s : Fin 64, (Int32.ofNat s.val &&& 0x3f).toInt64 = Int64.ofNat s.val := by decide +kernel
theorem own_and_cont : ∀ m : Fin 128, (Int32.ofInt ((m.val : Int) - 128) &&& (127 : Int32)).toInt64 = Int64.ofNat m.val := by decide +kernel
theorem own_and_last : ∀ m : Fin 128, (Int32.ofNat m.val &&& (127 : Int32)).toInt64 = Int64.ofNat m.val := by decide +kernel
theorem own_neg_cont : ∀ m : Fin 128, Int32.ofInt ((m.val : Int) - 128) < (0 : Int32) := by decide +kernel
theorem own_neg_last : ∀ m : Fin 128, ¬ Int32.ofNat m.val < (0 : Int32) := by decide +kernel
theorem own_smod : ∀ s : Fin 64, (BitVec.ofNat 64 s.val).smod 64#64 = BitVec.ofNat 64 s.val := by decide +kernel
theorem own_or (a m s : Nat) (hs : s < 57) (ha : a < 2 ^ s) (hm : m < 128) : Int64.ofNat a ||| (Int64.ofNat m <<< Int64.ofNat s) = Int64.ofNat (a + m * 2 ^ s) := by
  have h1 : 2 ^ s ≤ 2 ^ 56 := Nat.pow_le_pow_right (by decide) (by omega)
  have h2 : m * 2 ^ s ≤ 127 * 2 ^ 56 := Nat.mul_le_mul (by omega) h1
  apply Int64.toBitVec_inj.mp
  apply BitVec.eq_of_toNat_eq
  show (BitVec.ofNat 64 a ||| (BitVec.ofNat 64 m <<< ((BitVec.ofNat 64 s).smod 64#64))).toNat = (BitVec.ofNat 64 (a + m * 2 ^ s)).toNat
  have e2 : (BitVec.ofNat 64 s).smod 64#64 = BitVec.ofNat 64 s := own_smod ⟨s, by omega⟩
  rw [e2]
  simp only [BitVec.toNat_or, BitVec.shiftLeft_eq', BitVec.toNat_shiftLeft, BitVec.toNat_ofNat]
  rw [Nat.mod_eq_of_lt (by omega : a < 2 ^ 64), Nat.mod_eq_of_lt (by omega : m < 2 ^ 64), Nat.mod_eq_of_lt (by omega : s < 2 ^ 64), Nat.shiftLeft_eq, Nat.mod_eq_of_lt (by omega : m * 2 ^ s < 2 ^ 64), Nat.mod_eq_of_lt (by omega : a + m * 2 ^ s < 2 ^ 64)]
  have := Nat.shiftLeft_add_eq_or_of_lt ha m
  rw [Nat.shiftLeft_eq] at this
  rw [Nat.or_comm, ← this, Nat.add_comm]

theorem own_val (a v s : Nat) : (a + v % 128 * 2 ^ s) + v / 128 * 2 ^ (s + 7) = a + v * 2 ^ s := by
  have h : v = v % 128 + 128 * (v / 128) := (Nat.mod_add_div v 128).symm
  rw [Nat.pow_add]
  have : v * 2 ^ s = (v % 128 + 128 * (v / 128)) * 2 ^ s := by rw [← h]
  rw [this, Nat.add_mul, Nat.mul_assoc 128, ← Nat.add_assoc, Nat.add_right_inj, Nat.mul_comm (2 ^ s) (2 ^ 7), ← Nat.mul_assoc, Nat.mul_comm (v / 128) (2 ^ 7), Nat.mul_assoc]
theorem own_acc (a v s : Nat) (ha : a < 2 ^ s) : a + v % 128 * 2 ^ s < 2 ^ (s + 7) := by
  have h : v % 128 < 128 := Nat.mod_lt _ (by decide)
  have : v % 128 * 2 ^ s ≤ 127 * 2 ^ s := Nat.mul_le_mul_right _ (by omega)
  rw [Nat.pow_add]
  omega
theorem own_ofNat_succ (n : Nat) : Int32.ofNat n + (1 : Int32) = Int32.ofNat (n + 1) := by
  rw [Int32.ofNat_add]; rfl
theorem own_i32 (n : Nat) (h : n < 2 ^ 31) : (Int32.ofNat n).toInt = n := Int32.toInt_ofNat_of_lt h
theorem own_clamp (n : Nat) (h : n < 2 ^ 31) : (Int32.ofNat n).toNatClampNeg = n := by
  simp only [Int32.toNatClampNeg, own_i32 n h]; omega
theorem own_inb (i n : Nat) (h : i < n) (hn : n < 2 ^ 31) : ¬ Int32.ofNat i < 0 ∧ Int32.ofNat i < Int32.ofNat n := by
  simp only [Int32.lt_iff_toInt_lt, own_i32 i (by omega), own_i32 n hn, Int32.reduceToInt]; omega
theorem own_i2l (n : Nat) (h : n < 2 ^ 31) : (Int32.ofNat n).toInt64 = Int64.ofNat n := by
  apply Int64.toInt_inj.mp
  rw [Int32.toInt_toInt64, own_i32 n h, own_ofNat_toInt n (by omega)]
theorem own_l2i (n : Nat) : (Int64.ofNat n).toInt32 = Int32.ofNat n := by
  apply Int32.toBitVec_inj.mp
  apply BitVec.eq_of_toNat_eq
  show ((BitVec.ofNat 64 n).signExtend 32).toNat = (BitVec.ofNat 32 n).toNat
  rw [BitVec.signExtend_eq_setWidth_of_le _ (by decide)]
  simp only [BitVec.toNat_setWidth, BitVec.toNat_ofNat]
  omega
theorem own_succ64 (n : Nat) : Int64.ofNat n + (1 : Int64) = Int64.ofNat (n + 1) := by
  rw [Int64.ofNat_add]; rfl
theorem own_enc_small (k v : Nat) (h : v < 128) : own_enc (k + 1) v = [Int32.ofNat v] := by simp only [own_enc, if_pos h]
theorem own_enc_more (k v : Nat) (h : ¬ v < 128) : own_enc (k + 1) v = Int32.ofInt ((v % 128 : Nat) - 128 : Int) :: own_enc k (v / 128) := by simp only [own_enc, if_neg h]
theorem own_nonneg (v : Nat) (h : v < 2 ^ 63) : ¬ (lcmpW (Int64.ofNat v) (0 : Int64)) < (0 : Int32) := by
  rw [lcW, lc_lt, Int64.lt_iff_toInt_lt, own_ofNat_toInt v h]
  have e : (0 : Int64).toInt = 0 := rfl
  rw [e]; omega
theorem own_fits (n : Nat) (h : n + 10 ≤ 64) : ¬ ((64 : Int32) < (Int32.ofNat n) + (10 : Int32)) := by
  have e : Int32.ofNat n + (10 : Int32) = Int32.ofNat (n + 10) := by rw [Int32.ofNat_add]; rfl
  have e64 : (64 : Int32).toInt = 64 := rfl
  rw [e, Int32.lt_iff_toInt_lt, own_i32 _ (by omega), e64]; omega
theorem own_head {VS r : List Int32} {x : Int32} {p : Nat} (h : VS.drop p = x :: r) : VS.getD p (0 : Int32) = x ∧ p < VS.length ∧ VS.drop (p + 1) = r := by
  have hp : p < VS.length := by
    apply Nat.lt_of_not_le; intro q
    rw [List.drop_eq_nil_of_le q] at h; cases h
  rw [List.drop_eq_getElem_cons hp] at h
  injection h with h1 h2
  exact ⟨by simp [List.getD, hp, h1], hp, h2⟩
theorem own_drop {VS xs post : List Int32} {p : Nat} (h : VS.drop p = xs ++ post) : VS.drop (p + xs.length) = post := by
  rw [← List.drop_drop, h, List.drop_left]
theorem own_at (VS : List Int32) (p : Nat) (x : Int32) (hp : p < 2 ^ 31) (h : VS.getD p (0 : Int32) = x) : (VS.map Value.int).getD (Int32.ofNat p).toNatClampNeg (.int (0 : Int32)) = .int x := by
  rw [own_clamp p hp, own_getD, h]
theorem own_ne64 (p : Nat) (h : p < 64) : ¬ Int32.ofNat p = (64 : Int32) := fun q => by
  have e := congrArg Int32.toInt q
  rw [own_i32 p (by omega)] at e
  have e64 : (64 : Int32).toInt = 64 := rfl
  omega
theorem own_os {a1 : Int64} {s4 : Slot} {a0 : Addr} {a3 v : Int32} (h : One s4) : storeLocals #[.val (.ref a0), .val (.long a1), .second, .val (.int a3), s4] 4 (.int v) = some #[.val (.ref a0), .val (.long a1), .second, .val (.int a3), .val (.int v)] := by
  rcases h with rfl | ⟨w, rfl, hw⟩
  · rfl
  · cases w <;> first | rfl | (simp [Value.category] at hw)
theorem own_put (a m s : Nat) (hs : s < 57) (ha : a < 2 ^ s) (hm : m < 128) {bt : Int32} (hb : (bt &&& (127 : Int32)).toInt64 = Int64.ofNat m) : ((Int64.ofNat a) ||| (((bt &&& (127 : Int32)).toInt64) <<< ((Int32.ofNat s) &&& 0x3f).toInt64)) = Int64.ofNat (a + m * 2 ^ s) := by
  rw [hb, own_sh ⟨s, by omega⟩]; exact own_or a m s hs ha hm
theorem own_add7 (s : Nat) : (Int32.ofNat s) + (7 : Int32) = Int32.ofNat (s + 7) := by rw [Int32.ofNat_add]; rfl
theorem own_back (v : Nat) (h : v < 2 ^ 31) : (lcmpW (((Int64.ofNat v).toInt32).toInt64) (Int64.ofNat v)) = (0 : Int32) := by
  rw [own_l2i, own_i2l v h, lcW]; exact (lc_eq _ _).mpr rfl
/-- a StateWriter: its class, its buffer of 64 bytes that holds what was written, its length; both new -/
def own_WR (Z : State) (n0 : Nat) (h : Heap) (w b : Addr) (k : ClassId) (vs : List Int32) : Prop := Exa Z h w "com/example/impatiens/impatiens/statespace/StateWriter" ∧ Fld Z h w "com/example/impatiens/impatiens/statespace/StateWriter" "bytes" "[B" (.ref b) ∧ Fld Z h w "com/example/impatiens/impatiens/statespace/StateWriter" "length" "I" (.int (Int32.ofNat vs.length)) ∧ Exa Z h b "[B" ∧ Arv Z h b k .byte (64 : Int32) (vs.map Value.int) (.int (0 : Int32)) ∧ n0 ≤ w ∧ n0 ≤ b
/-- a StateReader: its class, the buffer that it reads, its position -/
def own_RD (Z : State) (n0 : Nat) (h : Heap) (r b : Addr) (k : ClassId) (pos : Nat) (vs : List Int32) : Prop := Exa Z h r "com/example/impatiens/impatiens/statespace/StateReader" ∧ Fld Z h r "com/example/impatiens/impatiens/statespace/StateReader" "bytes" "[B" (.ref b) ∧ Fld Z h r "com/example/impatiens/impatiens/statespace/StateReader" "position" "I" (.int (Int32.ofNat pos)) ∧ Arv Z h b k .byte (64 : Int32) (vs.map Value.int) (.int (0 : Int32)) ∧ n0 ≤ r
/-- a group: its transition's gap, its age, its count -/
def own_ts : Nat → List (Nat × Nat × Nat) → List Nat
  | _, [] => []
  | t, g :: r => (t + g.1) :: own_ts (t + g.1) r
def own_sum : List (Nat × Nat × Nat) → Nat
  | [] => 0
  | g :: r => g.1 + own_sum r
def own_encs : List (Nat × Nat × Nat) → List Int32
  | [] => []
  | g :: r => own_enc 8 g.1 ++ (own_enc 8 g.2.1 ++ (own_enc 8 g.2.2 ++ own_encs r))
/-- an Instances: three arrays of n places, the groups gs in their first places -/
def own_IS (Z : State) (n0 : Nat) (h : Heap) (i ta aa ca : Addr) (kt ka kc : ClassId) (n : Nat) (ts : List Int32) (as cs : List Int64) : Prop :=
  Exa Z h i "com/example/impatiens/impatiens/itpn/Instances" ∧ Fld Z h i "com/example/impatiens/impatiens/itpn/Instances" "transitions" "[I" (.ref ta) ∧ Fld Z h i "com/example/impatiens/impatiens/itpn/Instances" "ages" "[J" (.ref aa) ∧ Fld Z h i "com/example/impatiens/impatiens/itpn/Instances" "counts" "[J" (.ref ca) ∧ Fld Z h i "com/example/impatiens/impatiens/itpn/Instances" "size" "I" (.int (Int32.ofNat n)) ∧
    Arv Z h ta kt .int (Int32.ofNat n) (ts.map Value.int) (.int (0 : Int32)) ∧ Arv Z h aa ka .long (Int32.ofNat n) (as.map Value.long) (.long (0 : Int64)) ∧ Arv Z h ca kc .long (Int32.ofNat n) (cs.map Value.long) (.long (0 : Int64)) ∧
    (ta ≠ aa ∧ ta ≠ ca ∧ aa ≠ ca) ∧ n0 ≤ i ∧ n0 ≤ ta ∧ n0 ≤ aa ∧ n0 ≤ ca
def own_Void (h0 : Heap) (n0 : Nat) (v : Option Value) (h : Heap) (L : List Loc) : Prop := v = none ∧ Fr n0 L ∧ h = h0
def own_QWini (Z : State) (w : Addr) (h0 : Heap) (n0 : Nat) (v : Option Value) (h : Heap) (L : List Loc) : Prop := v = none ∧ Fr n0 L ∧ Keep h0 h [w] ∧ ∃ (b : Addr) (k : ClassId), h0.size ≤ b ∧ own_WR Z n0 h w b k []
def own_QW (Z : State) (w b : Addr) (k : ClassId) (vs : List Int32) (h0 : Heap) (n0 : Nat) (v : Option Value) (h : Heap) (L : List Loc) : Prop := v = none ∧ Fr n0 L ∧ Keep h0 h [w, b] ∧ own_WR Z n0 h w b k vs
def own_QR (Z : State) (x : Int64) (r b : Addr) (k : ClassId) (pos : Nat) (vs : List Int32) (h0 : Heap) (n0 : Nat) (v : Option Value) (h : Heap) (L : List Loc) : Prop := v = some (.long x) ∧ Fr n0 L ∧ Keep h0 h [r] ∧ own_RD Z n0 h r b k pos vs
section Kit
variable {Z : State} {h : Heap} {a : Addr} {k : ClassId} {ty : FieldType} {z j : Int32} {us us' : List Value} {dv v : Value}
theorem own_vs (V : Arv Z h a k ty z us dv) (q : us = us') : Arv Z h a k ty z us' dv := q ▸ V
theorem own_get (V : Arv Z h a k ty z us dv) (hj : ¬ j < 0 ∧ j < z) (hv : us.getD j.toNatClampNeg dv = v) : ∃ cl : Cell, Arr Z h a cl ty ∧ ¬ (j < 0 ∨ cl.slots.size ≤ j.toNatClampNeg) ∧ cl.slots[j.toNatClampNeg]? = some v := by
  obtain ⟨c, A, q, S, M, H, G⟩ := V
  have hin := inb_of S hj
  exact ⟨c, A, hin, H.at hin hv⟩
theorem own_apd (V : Arv Z h a k ty z us dv) (hj : ¬ j < 0 ∧ j < z) (hi : j.toNatClampNeg = us.length) (hv : fits ty v = true) : ∃ cl : Cell, Arr Z h a cl ty ∧ ¬ (j < 0 ∨ cl.slots.size ≤ j.toNatClampNeg) ∧ ∀ h', Wr h h' a j.toNatClampNeg v → Arv Z h' a k ty z (us ++ [v]) dv := by
  obtain ⟨c, A, q, S, M, H, G⟩ := V.pad (pad_rep us dv 1)
  refine ⟨c, A, inb_of S hj, fun h' W => ?_⟩
  have r := Arv.set A q S M H G hv W us.length hi (by simp)
  rwa [show (us ++ List.replicate 1 dv).set us.length v = us ++ [v] from by simp] at r
theorem own_upd (V : Arv Z h a k ty z us dv) (hj : ¬ j < 0 ∧ j < z) {i : Nat} (hi : j.toNatClampNeg = i ∧ i < us.length) (hv : fits ty v = true) : ∃ cl : Cell, Arr Z h a cl ty ∧ ¬ (j < 0 ∨ cl.slots.size ≤ j.toNatClampNeg) ∧ ∀ h', Wr h h' a j.toNatClampNeg v → Arv Z h' a k ty z (us.set i v) dv := by
  obtain ⟨c, A, q, S, M, H, G⟩ := V
  exact ⟨c, A, inb_of S hj, fun h' W => Arv.set A q S M H G hv W i hi.1 hi.2⟩
end Kit
def own_QRini (Z : State) (r b : Addr) (k : ClassId) (vs : List Int32) (h0 : Heap) (n0 : Nat) (v : Option Value) (h : Heap) (L : List Loc) : Prop := v = none ∧ Fr n0 L ∧ Keep h0 h [r] ∧ own_RD Z n0 h r b k 0 vs
def own_QIini (Z : State) (i ta aa ca : Addr) (n : Int32) (h0 : Heap) (n0 : Nat) (v : Option Value) (h : Heap) (L : List Loc) : Prop := v = none ∧ Fr n0 L ∧ Keep h0 h [i] ∧ Exa Z h i "com/example/impatiens/impatiens/itpn/Instances" ∧ Fld Z h i "com/example/impatiens/impatiens/itpn/Instances" "transitions" "[I" (.ref ta) ∧ Fld Z h i "com/example/impatiens/impatiens/itpn/Instances" "ages" "[J" (.ref aa) ∧ Fld Z h i "com/example/impatiens/impatiens/itpn/Instances" "counts" "[J" (.ref ca) ∧ Fld Z h i "com/example/impatiens/impatiens/itpn/Instances" "size" "I" (.int n)
section GoesW
variable {p : Program} {l : Launch} {e : Env} {R : Room} {s : State} {m : MethodId} {args : Array Value} {below : List Frame} {meth : Method} {c : Code} {T : State} {locs : List Loc} {cells slots : Nat}
/-- as own_Goes; String constants may have been interned -/
def own_GoesW (p : Program) (e : Env) (below : List Frame) (s : State) (Q : Option Value → Heap → List Loc → Prop) (k n : Nat) (T : State) (g : JFrame) : Prop :=
  ∃ s₂ o, Steps p.tables e below (T.setTop g) s₂ ∧ s₂.status = .running ∧ Ended s₂ below o ∧ ∃ v L, o = .returned v ∧ Q v s₂.heap L ∧ ReturnedEndW s o s₂ L k n
theorem own_stepW {Q : Option Value → Heap → List Loc → Prop} {k n : Nat} {T T' : State} {g g' : JFrame} (h : ∀ t, Steps p.tables e below (T'.setTop g') t → Steps p.tables e below (T.setTop g) t) (w : own_GoesW p e below s Q k n T' g') : own_GoesW p e below s Q k n T g := by
  obtain ⟨s₂, o, h1, r⟩ := w
  exact ⟨s₂, o, h _ h1, r⟩
theorem own_retW {x : MethodName} {S : Spec} {code : ByteArray} {maxLocals : Nat} {ret : Option FieldType} {s₁ : State} {vm₁ : Vm} {n' : Nat} (X : Stand p l e R (s.setVm vm₁) m args below meth c T locs cells slots) (Bd : BodyLoose p l x S code maxLocals ret e s m args below meth c s₁) (hS : s.Since vm₁ n') (hn' : n' ≤ T.heap.size) {v : Option Value} (hv : meth.sig.returnType = none → v = none) {g : JFrame}
    (hst : ∀ fs, (∀ (f : JFrame) (acts : List Action), f.method = m → f.locked = none → f.entered = [] → (doReturn e (T.setTop f) acts v).1 = T.setFrames fs) → Steps p.tables e below (T.setTop g) (T.setFrames fs)) {Q : Option Value → Heap → List Loc → Prop} (hQ : Q v T.heap locs) {k n : Nat} (hk : cells ≤ k) (hn : slots ≤ n) : own_GoesW p e below s Q k n T g := by
  obtain ⟨fs, hr, hrun, hended, h1, h2, h3, h4⟩ := X.leaveW hS hn' (v := v) hv
  exact ⟨_, _, hst fs hr, hrun, hended, _, _, rfl, hQ, h1, h2, h3, h4.mono hk hn⟩
end GoesW
def own_QRead (Z : State) (r : Addr) (gs : List (Nat × Nat × Nat)) (h0 : Heap) (n0 : Nat) (v : Option Value) (h : Heap) (L : List Loc) : Prop := ∃ (i ta aa ca : Addr) (kt ka kc : ClassId), v = some (.ref i) ∧ Fr n0 L ∧ Keep h0 h [r] ∧ own_IS Z n0 h i ta aa ca kt ka kc gs.length ((own_ts 0 gs).map Int32.ofNat) (gs.map (fun g => Int64.ofNat g.2.1)) (gs.map (fun g => Int64.ofNat g.2.2))
def own_QTick (Z : State) (i ta aa ca : Addr) (kt ka kc : ClassId) (n : Nat) (ts : List Int32) (as cs : List Int64) (h0 : Heap) (n0 : Nat) (v : Option Value) (h : Heap) (L : List Loc) : Prop := v = none ∧ Fr n0 L ∧ Keep h0 h [aa] ∧ own_IS Z n0 h i ta aa ca kt ka kc n ts as cs
theorem own_wrc {Z : State} {n0 : Nat} {hp : Heap} {w b : Addr} {k : ClassId} {vs vs' : List Int32} (h : own_WR Z n0 hp w b k vs) (e : vs = vs') : own_WR Z n0 hp w b k vs' := e ▸ h
theorem own_ts_snoc (t : Nat) (ds : List (Nat × Nat × Nat)) (g : Nat × Nat × Nat) : own_ts t (ds ++ [g]) = own_ts t ds ++ [t + (own_sum ds + g.1)] := by
  induction ds generalizing t with
  | nil => simp [own_ts, own_sum]
  | cons a r ih => simp only [List.cons_append, own_ts, own_sum, ih]; simp only [Nat.add_assoc]
theorem own_ts_len (t : Nat) (ds : List (Nat × Nat × Nat)) : (own_ts t ds).length = ds.length := by
  induction ds generalizing t with
  | nil => rfl
  | cons a r ih => simp only [own_ts, List.length_cons, ih]
theorem own_sum_snoc (ds : List (Nat × Nat × Nat)) (g : Nat × Nat × Nat) : own_sum (ds ++ [g]) = own_sum ds + g.1 := by
  induction ds with
  | nil => simp [own_sum]
  | cons a r ih => simp only [List.cons_append, own_sum, ih, Nat.add_assoc]
theorem own_encs_snoc (ds : List (Nat × Nat × Nat)) (g : Nat × Nat × Nat) : own_encs (ds ++ [g]) = own_encs ds ++ (own_enc 8 g.1 ++ (own_enc 8 g.2.1 ++ own_enc 8 g.2.2)) := by
  induction ds with
  | nil => simp [own_encs]
  | cons a r ih => simp only [List.cons_append, own_encs, ih, List.append_assoc]
theorem own_addN (a b : Nat) : (Int32.ofNat a) + (Int32.ofNat b) = Int32.ofNat (a + b) := by rw [Int32.ofNat_add]
theorem own_notneg (n : Nat) (h : n ≤ 2) : ¬ Int32.ofNat n < 0 := by
  rw [Int32.lt_iff_toInt_lt, own_i32 n (by omega)]
  have e : (0 : Int32).toInt = 0 := rfl
  omega
theorem own_cap2 (n : Nat) (h : n ≤ 2) : (Int32.ofNat n).toNatClampNeg ≤ 2 := by rw [own_clamp n (by omega)]; exact h
theorem own_ltN (a b : Nat) (hb : b < 2 ^ 31) (h : a < b) : Int32.ofNat a < Int32.ofNat b := (own_inb a b h hb).2
theorem own_nltN (a b : Nat) (ha : a < 2 ^ 31) (h : b ≤ a) : ¬ Int32.ofNat a < Int32.ofNat b := by
  rw [Int32.lt_iff_toInt_lt, own_i32 a ha, own_i32 b (by omega)]; omega
theorem own_subN (a b : Nat) : (Int32.ofNat (a + b)) - (Int32.ofNat a) = Int32.ofNat b := by
  rw [Int32.ofNat_add, Int32.add_comm, Int32.add_sub_cancel]
theorem own_enc_one (v : Nat) (h : v < 128) : (own_enc 8 v).length = 1 := by rw [own_enc_small 7 v h]; rfl
theorem own_enc_three (v : Nat) (h : v < 2097152) : (own_enc 8 v).length ≤ 3 := by
  by_cases h1 : v < 128
  · rw [own_enc_small 7 v h1]; simp
  · rw [own_enc_more 7 v h1]
    by_cases h2 : v / 128 < 128
    · rw [own_enc_small 6 _ h2]; simp
    · rw [own_enc_more 6 _ h2, own_enc_small 5 _ (by omega)]; simp
theorem own_encs_len (gs : List (Nat × Nat × Nat)) (h : ∀ g ∈ gs, g.1 < 32768 ∧ g.2.1 < 2 ^ 63 ∧ g.2.2 < 2 ^ 63) : (own_encs gs).length ≤ 21 * gs.length := by
  induction gs with
  | nil => simp [own_encs]
  | cons g r ih =>
    have h1 := ih fun x hx => h x (List.mem_cons_of_mem _ hx)
    have h2 := own_enc_three g.1 (by have := (h g (List.mem_cons_self ..)).1; omega)
    have h3 := own_enc_len 8 g.2.1
    have h4 := own_enc_len 8 g.2.2
    simp only [own_encs, List.length_append, List.length_cons]; omega
theorem own_getL (ds rs : List Int64) (x : Int64) (i : Nat) (h : i = ds.length) : ((ds ++ x :: rs).map Value.long).getD i (.long (0 : Int64)) = .long x := by
  subst h; simp [List.getD]
theorem own_getI (ds rs : List Int32) (x : Int32) (i : Nat) (h : i = ds.length) : ((ds ++ x :: rs).map Value.int).getD i (.int (0 : Int32)) = .int x := by
  subst h; simp [List.getD]
theorem own_ts_app (t : Nat) (ds rs : List (Nat × Nat × Nat)) : own_ts t (ds ++ rs) = own_ts t ds ++ own_ts (t + own_sum ds) rs := by
  induction ds generalizing t with
  | nil => simp [own_ts, own_sum]
  | cons a r ih => simp only [List.cons_append, own_ts, own_sum, ih, Nat.add_assoc]
theorem own_cmpeq {a b : Int64} (h : a = b) : (lcmpW a b) = (0 : Int32) := by rw [lcW]; exact (lc_eq _ _).mpr h
theorem own_and32 (x : Int32) (k : Nat) (hk : k < 2 ^ 31) : ∃ n : Nat, n ≤ k ∧ x &&& Int32.ofNat k = Int32.ofNat n := by
  have h3 : (BitVec.ofNat 32 k).toNat = k := by rw [BitVec.toNat_ofNat, Nat.mod_eq_of_lt (by omega)]
  have h2 : (x.toBitVec.toNat &&& k) ≤ k := Nat.and_le_right
  refine ⟨x.toBitVec.toNat &&& k, h2, ?_⟩
  apply Int32.toBitVec_inj.mp
  apply BitVec.eq_of_toNat_eq
  show (x.toBitVec &&& BitVec.ofNat 32 k).toNat = (BitVec.ofNat 32 (x.toBitVec.toNat &&& k)).toNat
  rw [BitVec.toNat_and, h3, BitVec.toNat_ofNat, Nat.mod_eq_of_lt (by omega)]
theorem own_and64 (x : Int64) : ∃ n : Nat, n < 2 ^ 63 ∧ x &&& (9223372036854775807 : Int64) = Int64.ofNat n := by
  have h2 : (x.toBitVec.toNat &&& 9223372036854775807) ≤ 9223372036854775807 := Nat.and_le_right
  refine ⟨x.toBitVec.toNat &&& 9223372036854775807, by omega, ?_⟩
  apply Int64.toBitVec_inj.mp
  apply BitVec.eq_of_toNat_eq
  show (x.toBitVec &&& 9223372036854775807#64).toNat = (BitVec.ofNat 64 (x.toBitVec.toNat &&& 9223372036854775807)).toNat
  rw [BitVec.toNat_and, BitVec.toNat_ofNat, BitVec.toNat_ofNat]
  have e : 9223372036854775807 % 2 ^ 64 = 9223372036854775807 := by decide
  rw [e, Nat.mod_eq_of_lt (by omega)]
theorem own_three (x : Int32) : ∃ n : Nat, n ≤ 2 ∧ (x &&& (2147483647 : Int32)) % (3 : Int32) = Int32.ofNat n := by
  obtain ⟨m, hm, e⟩ := own_and32 x 2147483647 (by decide)
  have e' : x &&& (2147483647 : Int32) = Int32.ofNat m := e
  refine ⟨m % 3, by omega, ?_⟩
  rw [e']
  apply Int32.toInt_inj.mp
  have e3 : (Int32.ofNat m % (3 : Int32)).toInt = (Int32.ofNat m).toInt.tmod 3 := Int32.toInt_mod ..
  rw [e3, own_i32 m (by omega), own_i32 _ (by omega)]
  rfl
theorem own_rem (x : Int64) : ∃ n : Nat, n < 2 ^ 63 - 1 ∧ ((x &&& (9223372036854775807 : Int64)) - ((x &&& (9223372036854775807 : Int64)) / (9223372036854775807 : Int64)) * (9223372036854775807 : Int64)) = Int64.ofNat n := by
  obtain ⟨m, hm, e⟩ := own_and64 x
  rw [e]
  by_cases h : m = 9223372036854775807
  · subst h; exact ⟨0, by decide, by decide⟩
  · refine ⟨m, by omega, ?_⟩
    have e0 : Int64.ofNat m / (9223372036854775807 : Int64) = 0 := by
      apply Int64.toInt_inj.mp
      rw [Int64.toInt_div_of_ne_right _ _ (by decide), own_ofNat_toInt m hm]
      have e1 : (9223372036854775807 : Int64).toInt = 9223372036854775807 := rfl
      have e2 : (0 : Int64).toInt = 0 := rfl
      rw [e1, e2]
      exact Int.tdiv_eq_zero_of_lt (by omega) (by omega)
    rw [e0, Int64.zero_mul, Int64.sub_zero]
theorem own_max (x : Int64) : ∃ n : Nat, n < 2 ^ 63 ∧ f1_0 (1 : Int64) (x &&& (9223372036854775807 : Int64)) = Int64.ofNat n := by
  obtain ⟨m, hm, e⟩ := own_and64 x
  rw [e]
  simp only [f1_0, f1_6, f1_10, f1_11]
  split
  · exact ⟨m, hm, rfl⟩
  · exact ⟨1, by decide, rfl⟩
theorem own_posN (a b : Nat) (h : a = b) : Int32.ofNat a = Int32.ofNat b := by rw [h]

set_option maxRecDepth 65536 in
set_option maxHeartbeats 40000000 in
theorem rm5 (l : Launch) (Z : State) (a0 : Array Value) (hw : ∀ d ∈ tables_1, d.before a0 Z = true) (ws : List Jvm.Cond) (x0 : Addr) (b : Addr) (kB : ClassId) (vs : List Int32) (h0 : Heap) (n0 : Nat) (Z0 : n0 ≤ h0.size) (hWR : own_WR Z n0 h0 x0 b kB vs) :
    MetFree l (⟨"com/example/impatiens/impatiens/statespace/StateWriter", "buffer", "()[B"⟩ : MethodName) (head1 (Jvm.Cond.code (⟨"com/example/impatiens/impatiens/statespace/StateWriter", "buffer", "()[B"⟩ : MethodName) prog_77_method_2_code 1 (some (.array .byte)) :: ws) ({ frames := 0, cells := 0, slots := 0, locals := 0 } : Room)) (fun a U => a = #[(.ref x0)] ∧ Z.Warmed39 U.vm ∧ U.heap = h0) (fun _ _ _ _ _ => True) (fun _ U o U' => ∃ v L, o = .returned v ∧ own_Pure (.ref b) h0 n0 v U'.heap L ∧ FrameEnd U o U' L ({ frames := 0, cells := 0, slots := 0, locals := 0 } : Room).cells ({ frames := 0, cells := 0, slots := 0, locals := 0 } : Room).slots) := by
  refine MetFree.of_bodySF (plainFor_of_name pn_5) hisR ?_
  intro p e s m args below meth c s₁ Bd hml0 hP hK
  obtain ⟨rfl, hZ, hh0⟩ := hP
  have hx := Bd.exec
  have hby := Bd.bytes
  have hml : c.maxLocals = 1 := hml0
  have hown : s.vm.findClass "com/example/impatiens/impatiens/statespace/StateWriter" = some m.cls := findClass_of_methodNamed Bd.named
  have hnm := (name_of_methodNamed Bd.named Bd.method).1
  have X00 : Stand p l e ({ frames := 0, cells := 0, slots := 0, locals := 0 } : Room) s m #[(.ref x0)] below meth c s₁ [] 0 0 := Stand.of_body Bd
  have e00 : s₁.heap = h0 := by rw [← hh0, Bd.state]; rfl
  have N00 := Fr.nil n0
  have oqw := hWR
  obtain ⟨Ew, Fbw, Flw, Ebw, Vbw, gww, gbw⟩ := oqw
  have new : x0 ≠ b := Ew.neArv Vbw (hw _ (List.mem_of_getElem? (i := 7) rfl))
  have hB : own_Goes p e below s (own_Pure (.ref b) h0 n0) ({ frames := 0, cells := 0, slots := 0, locals := 0 } : Room).cells ({ frames := 0, cells := 0, slots := 0, locals := 0 } : Room).slots s₁ (mkF m 0 #[.val (.ref x0)] []) := by
    refine own_step (T' := s₁) (g' := (mkF m 1 #[.val (.ref x0)] [(.ref x0)])) (fun _ k => XS.aloadN X00.here hx rfl (hb hby d5_0) rfl rfl k) ?_
    obtain ⟨T1, X1, e1, st1⟩ := getF X00 hx hZ hown (host := "") (Or.inl (hw _ (List.mem_of_getElem? (i := 16) rfl))) Via.refl e00 Fbw (g := (mkF m 1 #[.val (.ref x0)] [(.ref x0)])) rfl rfl (hb hby d5_1)
    refine own_step (T' := T1) (g' := (mkF m 4 #[.val (.ref x0)] [(.ref b)])) (fun _ k => st1 _ k) ?_
    exact own_ret X1 Bd (v := some (.ref b)) (fun q => by rw [Bd.returns] at q; cases q) (fun fs q => retOut X1 hx Bd.returns rfl (Or.inr (Or.inr (Or.inr (Or.inr ⟨rfl, rfl, rfl⟩)))) (hb hby d5_4) q) (show own_Pure (.ref b) h0 n0 _ _ _ from ⟨rfl, N00, e1⟩) (by decide) (by decide)
  obtain ⟨s₂, o, q1, q2, q3, v, L, q4, q5, q6⟩ := hB
  exact ⟨s₂, o, castTop (ef_5 m x0) q1, q2, q3, v, L, q4, q5, q6⟩
set_option maxRecDepth 65536 in
set_option maxHeartbeats 40000000 in
theorem rm15 (l : Launch) (Z : State) (a0 : Array Value) (hw : ∀ d ∈ tables_1, d.before a0 Z = true) (ws : List Jvm.Cond) (x0 : Addr) (b : Addr) (kB : ClassId) (vs : List Int32) (h0 : Heap) (n0 : Nat) (Z0 : n0 ≤ h0.size) (hWR : own_WR Z n0 h0 x0 b kB vs) :
    MetFree l (⟨"com/example/impatiens/impatiens/statespace/StateWriter", "length", "()I"⟩ : MethodName) (head1 (Jvm.Cond.code (⟨"com/example/impatiens/impatiens/statespace/StateWriter", "length", "()I"⟩ : MethodName) prog_77_method_3_code 1 (some .int) :: ws) ({ frames := 0, cells := 0, slots := 0, locals := 0 } : Room)) (fun a U => a = #[(.ref x0)] ∧ Z.Warmed39 U.vm ∧ U.heap = h0) (fun _ _ _ _ _ => True) (fun _ U o U' => ∃ v L, o = .returned v ∧ own_Pure (.int (Int32.ofNat vs.length)) h0 n0 v U'.heap L ∧ FrameEnd U o U' L ({ frames := 0, cells := 0, slots := 0, locals := 0 } : Room).cells ({ frames := 0, cells := 0, slots := 0, locals := 0 } : Room).slots) := by
  refine MetFree.of_bodySF (plainFor_of_name pn_15) hisR ?_
  intro p e s m args below meth c s₁ Bd hml0 hP hK
  obtain ⟨rfl, hZ, hh0⟩ := hP
  have hx := Bd.exec
  have hby := Bd.bytes
  have hml : c.maxLocals = 1 := hml0
  have hown : s.vm.findClass "com/example/impatiens/impatiens/statespace/StateWriter" = some m.cls := findClass_of_methodNamed Bd.named
  have hnm := (name_of_methodNamed Bd.named Bd.method).1
  have X00 : Stand p l e ({ frames := 0, cells := 0, slots := 0, locals := 0 } : Room) s m #[(.ref x0)] below meth c s₁ [] 0 0 := Stand.of_body Bd
  have e00 : s₁.heap = h0 := by rw [← hh0, Bd.state]; rfl
  have N00 := Fr.nil n0
  have oqw := hWR
  obtain ⟨Ew, Fbw, Flw, Ebw, Vbw, gww, gbw⟩ := oqw
  have new : x0 ≠ b := Ew.neArv Vbw (hw _ (List.mem_of_getElem? (i := 7) rfl))
  have hB : own_Goes p e below s (own_Pure (.int (Int32.ofNat vs.length)) h0 n0) ({ frames := 0, cells := 0, slots := 0, locals := 0 } : Room).cells ({ frames := 0, cells := 0, slots := 0, locals := 0 } : Room).slots s₁ (mkF m 0 #[.val (.ref x0)] []) := by
    refine own_step (T' := s₁) (g' := (mkF m 1 #[.val (.ref x0)] [(.ref x0)])) (fun _ k => XS.aloadN X00.here hx rfl (hb hby d15_0) rfl rfl k) ?_
    obtain ⟨T1, X1, e1, st1⟩ := getF X00 hx hZ hown (host := "") (Or.inl (hw _ (List.mem_of_getElem? (i := 23) rfl))) Via.refl e00 Flw (g := (mkF m 1 #[.val (.ref x0)] [(.ref x0)])) rfl rfl (hb hby d15_1)
    refine own_step (T' := T1) (g' := (mkF m 4 #[.val (.ref x0)] [(.int (Int32.ofNat vs.length))])) (fun _ k => st1 _ k) ?_
    exact own_ret X1 Bd (v := some (.int (Int32.ofNat vs.length))) (fun q => by rw [Bd.returns] at q; cases q) (fun fs q => retI X1 hx Bd.returns (hb hby d15_4) q) (show own_Pure (.int (Int32.ofNat vs.length)) h0 n0 _ _ _ from ⟨rfl, N00, e1⟩) (by decide) (by decide)
  obtain ⟨s₂, o, q1, q2, q3, v, L, q4, q5, q6⟩ := hB
  exact ⟨s₂, o, castTop (ef_15 m x0) q1, q2, q3, v, L, q4, q5, q6⟩
set_option maxRecDepth 65536 in
set_option maxHeartbeats 40000000 in
theorem rm14 (l : Launch) (Z : State) (a0 : Array Value) (hw : ∀ d ∈ tables_1, d.before a0 Z = true) (ws : List Jvm.Cond) (x0 : Addr) (b : Addr) (kB : ClassId) (pos : Nat) (vs : List Int32) (h0 : Heap) (n0 : Nat) (Z0 : n0 ≤ h0.size) (hRD : own_RD Z n0 h0 x0 b kB pos vs) :
    MetFree l (⟨"com/example/impatiens/impatiens/statespace/StateReader", "position", "()I"⟩ : MethodName) (head1 (Jvm.Cond.code (⟨"com/example/impatiens/impatiens/statespace/StateReader", "position", "()I"⟩ : MethodName) prog_75_method_2_code 1 (some .int) :: ws) ({ frames := 0, cells := 0, slots := 0, locals := 0 } : Room)) (fun a U => a = #[(.ref x0)] ∧ Z.Warmed39 U.vm ∧ U.heap = h0) (fun _ _ _ _ _ => True) (fun _ U o U' => ∃ v L, o = .returned v ∧ own_Pure (.int (Int32.ofNat pos)) h0 n0 v U'.heap L ∧ FrameEnd U o U' L ({ frames := 0, cells := 0, slots := 0, locals := 0 } : Room).cells ({ frames := 0, cells := 0, slots := 0, locals := 0 } : Room).slots) := by
  refine MetFree.of_bodySF (plainFor_of_name pn_14) hisR ?_
  intro p e s m args below meth c s₁ Bd hml0 hP hK
  obtain ⟨rfl, hZ, hh0⟩ := hP
  have hx := Bd.exec
  have hby := Bd.bytes
  have hml : c.maxLocals = 1 := hml0
  have hown : s.vm.findClass "com/example/impatiens/impatiens/statespace/StateReader" = some m.cls := findClass_of_methodNamed Bd.named
  have hnm := (name_of_methodNamed Bd.named Bd.method).1
  have X00 : Stand p l e ({ frames := 0, cells := 0, slots := 0, locals := 0 } : Room) s m #[(.ref x0)] below meth c s₁ [] 0 0 := Stand.of_body Bd
  have e00 : s₁.heap = h0 := by rw [← hh0, Bd.state]; rfl
  have N00 := Fr.nil n0
  have oqr := hRD
  obtain ⟨Er, Fbr, Fpr, Vbr, grr⟩ := oqr
  have ner : x0 ≠ b := Er.neArv Vbr (hw _ (List.mem_of_getElem? (i := 27) rfl))
  have hB : own_Goes p e below s (own_Pure (.int (Int32.ofNat pos)) h0 n0) ({ frames := 0, cells := 0, slots := 0, locals := 0 } : Room).cells ({ frames := 0, cells := 0, slots := 0, locals := 0 } : Room).slots s₁ (mkF m 0 #[.val (.ref x0)] []) := by
    refine own_step (T' := s₁) (g' := (mkF m 1 #[.val (.ref x0)] [(.ref x0)])) (fun _ k => XS.aloadN X00.here hx rfl (hb hby d14_0) rfl rfl k) ?_
    obtain ⟨T1, X1, e1, st1⟩ := getF X00 hx hZ hown (host := "") (Or.inl (hw _ (List.mem_of_getElem? (i := 62) rfl))) Via.refl e00 Fpr (g := (mkF m 1 #[.val (.ref x0)] [(.ref x0)])) rfl rfl (hb hby d14_1)
    refine own_step (T' := T1) (g' := (mkF m 4 #[.val (.ref x0)] [(.int (Int32.ofNat pos))])) (fun _ k => st1 _ k) ?_
    exact own_ret X1 Bd (v := some (.int (Int32.ofNat pos))) (fun q => by rw [Bd.returns] at q; cases q) (fun fs q => retI X1 hx Bd.returns (hb hby d14_4) q) (show own_Pure (.int (Int32.ofNat pos)) h0 n0 _ _ _ from ⟨rfl, N00, e1⟩) (by decide) (by decide)
  obtain ⟨s₂, o, q1, q2, q3, v, L, q4, q5, q6⟩ := hB
  exact ⟨s₂, o, castTop (ef_14 m x0) q1, q2, q3, v, L, q4, q5, q6⟩
set_option maxRecDepth 65536 in
set_option maxHeartbeats 40000000 in
theorem rm2 (l : Launch) (Z : State) (a0 : Array Value) (hw : ∀ d ∈ tables_1, d.before a0 Z = true) (ws : List Jvm.Cond) (x0 : Addr) (u_b : Value) (h0 : Heap) (n0 : Nat) (Z0 : n0 ≤ h0.size) (E0 : Exa Z h0 x0 "com/example/impatiens/impatiens/statespace/StateWriter") (g0 : n0 ≤ x0) (F_b : Fld Z h0 x0 "com/example/impatiens/impatiens/statespace/StateWriter" "bytes" "[B" u_b) (F_l : Fld Z h0 x0 "com/example/impatiens/impatiens/statespace/StateWriter" "length" "I" (.int (0 : Int32))) :
    MetFree l (⟨"com/example/impatiens/impatiens/statespace/StateWriter", "<init>", "()V"⟩ : MethodName) (head1 (Jvm.Cond.code (⟨"com/example/impatiens/impatiens/statespace/StateWriter", "<init>", "()V"⟩ : MethodName) prog_77_method_1_code 1 none :: ws) ({ frames := 1, cells := 1, slots := 64, locals := 12 } : Room)) (fun a U => a = #[(.ref x0)] ∧ Z.Warmed39 U.vm ∧ U.heap = h0) (fun _ _ _ _ _ => True) (fun _ U o U' => ∃ v L, o = .returned v ∧ own_QWini Z x0 h0 n0 v U'.heap L ∧ FrameEnd U o U' L ({ frames := 1, cells := 1, slots := 64, locals := 12 } : Room).cells ({ frames := 1, cells := 1, slots := 64, locals := 12 } : Room).slots) := by
  refine MetFree.of_bodySF (plainFor_of_name pn_2) hisR ?_
  intro p e s m args below meth c s₁ Bd hml0 hP hK
  obtain ⟨rfl, hZ, hh0⟩ := hP
  have hx := Bd.exec
  have hby := Bd.bytes
  have hml : c.maxLocals = 1 := hml0
  have hown : s.vm.findClass "com/example/impatiens/impatiens/statespace/StateWriter" = some m.cls := findClass_of_methodNamed Bd.named
  have hnm := (name_of_methodNamed Bd.named Bd.method).1
  have X00 : Stand p l e ({ frames := 1, cells := 1, slots := 64, locals := 12 } : Room) s m #[(.ref x0)] below meth c s₁ [] 0 0 := Stand.of_body Bd
  have e00 : s₁.heap = h0 := by rw [← hh0, Bd.state]; rfl
  have N00 := Fr.nil n0
  have hB : own_Goes p e below s (own_QWini Z x0 h0 n0) ({ frames := 1, cells := 1, slots := 64, locals := 12 } : Room).cells ({ frames := 1, cells := 1, slots := 64, locals := 12 } : Room).slots s₁ (mkF m 0 #[.val (.ref x0)] []) := by
    refine own_step (T' := s₁) (g' := (mkF m 1 #[.val (.ref x0)] [(.ref x0)])) (fun _ k => XS.aloadN X00.here hx rfl (hb hby d2_0) rfl rfl k) ?_
    obtain ⟨T1, X1, e1, st1⟩ := initO X00 hx hZ hown (hw _ (List.mem_of_getElem? (i := 12) rfl)) (hw _ (List.mem_of_getElem? (i := 13) rfl)) (hw _ (List.mem_of_getElem? (i := 14) rfl)) e00 (g := (mkF m 1 #[.val (.ref x0)] [(.ref x0)])) rfl (by rw [hml]; rfl) rfl (hb hby d2_1) (by decide) (W := 0) (by show 2 * 0 + _ ≤ _; exact Nat.le_of_eq rfl) (by decide)
    refine own_step (T' := T1) (g' := (mkF m 4 #[.val (.ref x0)] [])) (fun _ k => st1 _ k) ?_
    refine own_step (T' := T1) (g' := (mkF m 5 #[.val (.ref x0)] [(.ref x0)])) (fun _ k => XS.aloadN X1.here hx rfl (hb hby d2_4) rfl rfl k) ?_
    refine own_step (T' := T1) (g' := (mkF m 7 #[.val (.ref x0)] [(.int (64 : Int32)), (.ref x0)])) (fun _ k => XS.bipush X1.here hx rfl (hb hby d2_5) k) ?_
    obtain ⟨T2, h2, k2, X2, e2, E2, A2, Q2, st2⟩ := newPE X1 hx hZ (hw _ (List.mem_of_getElem? (i := 15) rfl)) e1 (g := (mkF m 7 #[.val (.ref x0)] [(.int (64 : Int32)), (.ref x0)])) rfl (hb hby d2_7) rfl (by decide) (cap := 64) (by decide) (by decide) (by decide) (by decide) (ad := "[B") (by decide)
    obtain ⟨b2, g2⟩ : ∃ z, z = h0.size := ⟨_, rfl⟩
    rw [← g2] at A2 Q2 st2
    have ne2_x0 : x0 ≠ b2 := Nat.ne_of_lt (Nat.lt_of_lt_of_le F_b.lt (Nat.le_of_eq g2.symm))
    have q3 : Fld Z h2 x0 "com/example/impatiens/impatiens/statespace/StateWriter" "bytes" "[B" u_b := F_b.ext E2
    have q4 : Fld Z h2 x0 "com/example/impatiens/impatiens/statespace/StateWriter" "length" "I" (.int (0 : Int32)) := F_l.ext E2
    have q5 : Exa Z h2 x0 "com/example/impatiens/impatiens/statespace/StateWriter" := E0.ext E2
    have q6 : Arv Z h2 b2 k2 .byte (64 : Int32) [] (.int (0 : Int32)) := Arv.new A2 (by decide)
    have g_b2 : n0 ≤ b2 := Nat.le_trans Z0 (Nat.le_of_eq g2.symm)
    have sz_b2 : h0.size ≤ b2 := Nat.le_trans (Keep.refl h0 [x0]).1 (Nat.le_of_eq g2.symm)
    have Z2 : n0 ≤ h2.size := Nat.le_trans Z0 E2.1
    have Kp2 : Keep h0 h2 [x0] := (Keep.refl h0 [x0]).ext E2
    refine own_step (T' := T2) (g' := (mkF m 9 #[.val (.ref x0)] [(.ref b2), (.ref x0)])) (fun _ k => st2 _ k) ?_
    obtain ⟨T7, h7, X7, e7, W7, st7⟩ := putF X2 hx hZ hown (host := "") (Or.inl (hw _ (List.mem_of_getElem? (i := 16) rfl))) Via.refl e2 q3 q5 (Or.inl (hw _ (List.mem_of_getElem? (i := 17) rfl))) (hw _ (List.mem_of_getElem? (i := 7) rfl)) (ty := (.array .byte)) (by decide) rfl rfl (g := (mkF m 9 #[.val (.ref x0)] [(.ref b2), (.ref x0)])) rfl rfl (hb hby d2_9)
    have q8 : Fld Z h7 x0 "com/example/impatiens/impatiens/statespace/StateWriter" "bytes" "[B" (.ref b2) := q3.same W7
    have q9 : Fld Z h7 x0 "com/example/impatiens/impatiens/statespace/StateWriter" "length" "I" (.int (0 : Int32)) := q4.other W7 (Or.inr (slot_ne (Or.inl (hw _ (List.mem_of_getElem? (i := 24) rfl))) (Or.inl (hw _ (List.mem_of_getElem? (i := 17) rfl))) (by decide) (t := .int) (t' := (.array .byte)) (by decide) (by decide)))
    have q10 : Exa Z h7 x0 "com/example/impatiens/impatiens/statespace/StateWriter" := q5.wr W7
    have q11 : Exa Z h7 b2 "[B" := Q2.wr W7
    have q12 : Arv Z h7 b2 k2 .byte (64 : Int32) [] (.int (0 : Int32)) := q6.other W7 (Ne.symm ne2_x0)
    have Z7 : n0 ≤ h7.size := Nat.le_trans Z2 (Keep.of_wr W7).1
    have N7 := Fr.snoc X7 N00 g0
    have Kp7 : Keep h0 h7 [x0] := Kp2.wr W7 (Or.inl (List.mem_of_getElem? (i := 0) rfl))
    refine own_step (T' := T7) (g' := (mkF m 12 #[.val (.ref x0)] [])) (fun _ k => st7 _ k) ?_
    exact own_ret X7 Bd (v := none) (fun _ => rfl) (fun fs q => X7.returnOut hx Bd.returns (hb hby d2_12) q) (show own_QWini Z x0 h0 n0 _ _ _ from by rw [e7]; exact ⟨rfl, N7, Kp7, b2, k2, sz_b2, ⟨q10, q8, q9, q11, q12, g0, g_b2⟩⟩) (by decide) (by decide)
  obtain ⟨s₂, o, q1, q2, q3, v, L, q4, q5, q6⟩ := hB
  exact ⟨s₂, o, castTop (ef_2 m x0) q1, q2, q3, v, L, q4, q5, q6⟩
set_option maxRecDepth 65536 in
set_option maxHeartbeats 40000000 in
theorem rm4 (l : Launch) (Z : State) (a0 : Array Value) (hw : ∀ d ∈ tables_1, d.before a0 Z = true) (ws : List Jvm.Cond) (x0 : Addr) (x1 : Int64) (b : Addr) (kB : ClassId) (vs0 : List Int32) (v0 : Nat) (h0 : Heap) (n0 : Nat) (Z0 : n0 ≤ h0.size) (hv0 : x1 = Int64.ofNat v0) (hb0 : v0 < 2 ^ 63) (hl0 : vs0.length + 10 ≤ 64) (hWR0 : own_WR Z n0 h0 x0 b kB vs0) :
    MetFree l (⟨"com/example/impatiens/impatiens/statespace/StateWriter", "writeLong", "(J)V"⟩ : MethodName) (head1 (Jvm.Cond.code (⟨"com/example/impatiens/impatiens/statespace/StateWriter", "writeLong", "(J)V"⟩ : MethodName) prog_77_method_6_code 5 none :: ws) ({ frames := 0, cells := 0, slots := 0, locals := 0 } : Room)) (fun a U => a = #[(.ref x0), (.long x1)] ∧ Z.Warmed39 U.vm ∧ U.heap = h0) (fun _ _ _ _ _ => True) (fun _ U o U' => ∃ v L, o = .returned v ∧ own_QW Z x0 b kB (vs0 ++ own_enc 8 v0) h0 n0 v U'.heap L ∧ FrameEnd U o U' L ({ frames := 0, cells := 0, slots := 0, locals := 0 } : Room).cells ({ frames := 0, cells := 0, slots := 0, locals := 0 } : Room).slots) := by
  refine MetFree.of_bodySF (plainFor_of_name pn_4) hisR ?_
  intro p e s m args below meth c s₁ Bd hml0 hP hK
  obtain ⟨rfl, hZ, hh0⟩ := hP
  have hx := Bd.exec
  have hby := Bd.bytes
  have hml : c.maxLocals = 5 := hml0
  have hown : s.vm.findClass "com/example/impatiens/impatiens/statespace/StateWriter" = some m.cls := findClass_of_methodNamed Bd.named
  have hnm := (name_of_methodNamed Bd.named Bd.method).1
  have X00 : Stand p l e ({ frames := 0, cells := 0, slots := 0, locals := 0 } : Room) s m #[(.ref x0), (.long x1)] below meth c s₁ [] 0 0 := Stand.of_body Bd
  have e00 : s₁.heap = h0 := by rw [← hh0, Bd.state]; rfl
  have N00 := Fr.nil n0
  subst hv0
  have B108 : ∀ (v : Nat) (vs : List Int32) (T0 : State) (locs : List Loc) (hh : Heap), v < 128 → vs.length + 1 ≤ 64 → vs ++ [Int32.ofNat v] = vs0 ++ own_enc 8 v0 → n0 ≤ hh.size → Keep h0 hh [x0, b] → own_WR Z n0 hh x0 b kB vs → Stand p l e ({ frames := 0, cells := 0, slots := 0, locals := 0 } : Room) s m #[(.ref x0), (.long (Int64.ofNat v0))] below meth c T0 locs 0 0 → T0.heap = hh → Fr n0 locs → own_Goes p e below s (own_QW Z x0 b kB (vs0 ++ own_enc 8 v0) h0 n0) ({ frames := 0, cells := 0, slots := 0, locals := 0 } : Room).cells ({ frames := 0, cells := 0, slots := 0, locals := 0 } : Room).slots T0 (mkF m 108 #[.val (.ref x0), .val (.long (Int64.ofNat v0)), .second, .val (.long (Int64.ofNat v)), .second] []) := by
    intro v vs T0 locs hh hv hlen hR Zh Kh hWR X0 e0 N0
    have oqw := hWR
    obtain ⟨Ew, Fbw, Flw, Ebw, Vbw, gww, gbw⟩ := oqw
    have new : x0 ≠ b := Ew.neArv Vbw (hw _ (List.mem_of_getElem? (i := 7) rfl))
    refine own_step (T' := T0) (g' := (mkF m 109 #[.val (.ref x0), .val (.long (Int64.ofNat v0)), .second, .val (.long (Int64.ofNat v)), .second] [(.ref x0)])) (fun _ k => XS.aloadN X0.here hx rfl (hb hby d4_108) rfl rfl k) ?_
    obtain ⟨T1, X1, e1, st1⟩ := getF X0 hx hZ hown (host := "") (Or.inl (hw _ (List.mem_of_getElem? (i := 16) rfl))) Via.refl e0 Fbw (g := (mkF m 109 #[.val (.ref x0), .val (.long (Int64.ofNat v0)), .second, .val (.long (Int64.ofNat v)), .second] [(.ref x0)])) rfl rfl (hb hby d4_109)
    refine own_step (T' := T1) (g' := (mkF m 112 #[.val (.ref x0), .val (.long (Int64.ofNat v0)), .second, .val (.long (Int64.ofNat v)), .second] [(.ref b)])) (fun _ k => st1 _ k) ?_
    refine own_step (T' := T1) (g' := (mkF m 113 #[.val (.ref x0), .val (.long (Int64.ofNat v0)), .second, .val (.long (Int64.ofNat v)), .second] [(.ref x0), (.ref b)])) (fun _ k => XS.aloadN X1.here hx rfl (hb hby d4_112) rfl rfl k) ?_
    refine own_step (T' := T1) (g' := (mkF m 114 #[.val (.ref x0), .val (.long (Int64.ofNat v0)), .second, .val (.long (Int64.ofNat v)), .second] [(.ref x0), (.ref x0), (.ref b)])) (fun _ k => XS.dup X1.here hx rfl (hb hby d4_113) rfl rfl k) ?_
    obtain ⟨T2, X2, e2, st2⟩ := getF X1 hx hZ hown (host := "") (Or.inl (hw _ (List.mem_of_getElem? (i := 23) rfl))) Via.refl e1 Flw (g := (mkF m 114 #[.val (.ref x0), .val (.long (Int64.ofNat v0)), .second, .val (.long (Int64.ofNat v)), .second] [(.ref x0), (.ref x0), (.ref b)])) rfl rfl (hb hby d4_114)
    refine own_step (T' := T2) (g' := (mkF m 117 #[.val (.ref x0), .val (.long (Int64.ofNat v0)), .second, .val (.long (Int64.ofNat v)), .second] [(.int (Int32.ofNat vs.length)), (.ref x0), (.ref b)])) (fun _ k => st2 _ k) ?_
    refine own_step (T' := T2) (g' := (mkF m 118 #[.val (.ref x0), .val (.long (Int64.ofNat v0)), .second, .val (.long (Int64.ofNat v)), .second] [(.int (Int32.ofNat vs.length)), (.ref x0), (.int (Int32.ofNat vs.length)), (.ref b)])) (fun _ k => XS.dupX1 X2.here hx rfl (hb hby d4_117) rfl rfl rfl k) ?_
    refine own_step (T' := T2) (g' := (mkF m 119 #[.val (.ref x0), .val (.long (Int64.ofNat v0)), .second, .val (.long (Int64.ofNat v)), .second] [(.int (1 : Int32)), (.int (Int32.ofNat vs.length)), (.ref x0), (.int (Int32.ofNat vs.length)), (.ref b)])) (fun _ k => XS.iconst X2.here hx rfl (hb hby d4_118) k) ?_
    refine own_step (T' := T2) (g' := (mkF m 120 #[.val (.ref x0), .val (.long (Int64.ofNat v0)), .second, .val (.long (Int64.ofNat v)), .second] [(.int ((Int32.ofNat vs.length) + (1 : Int32))), (.ref x0), (.int (Int32.ofNat vs.length)), (.ref b)])) (fun _ k => XS.iadd X2.here hx rfl (hb hby d4_119) rfl k) ?_
    obtain ⟨T3, h3, X3, e3, W3, st3⟩ := putF X2 hx hZ hown (host := "") (Or.inl (hw _ (List.mem_of_getElem? (i := 23) rfl))) Via.refl e2 Flw Ew (Or.inl (hw _ (List.mem_of_getElem? (i := 24) rfl))) (hw _ (List.mem_of_getElem? (i := 7) rfl)) (ty := .int) (by decide) rfl rfl (g := (mkF m 120 #[.val (.ref x0), .val (.long (Int64.ofNat v0)), .second, .val (.long (Int64.ofNat v)), .second] [(.int ((Int32.ofNat vs.length) + (1 : Int32))), (.ref x0), (.int (Int32.ofNat vs.length)), (.ref b)])) rfl rfl (hb hby d4_120)
    have q4 : Fld Z h3 x0 "com/example/impatiens/impatiens/statespace/StateWriter" "bytes" "[B" (.ref b) := Fbw.other W3 (Or.inr (slot_ne (Or.inl (hw _ (List.mem_of_getElem? (i := 17) rfl))) (Or.inl (hw _ (List.mem_of_getElem? (i := 24) rfl))) (by decide) (t := (.array .byte)) (t' := .int) (by decide) (by decide)))
    have q5 : Fld Z h3 x0 "com/example/impatiens/impatiens/statespace/StateWriter" "length" "I" (.int ((Int32.ofNat vs.length) + (1 : Int32))) := Flw.same W3
    have q6 : Exa Z h3 x0 "com/example/impatiens/impatiens/statespace/StateWriter" := Ew.wr W3
    have q7 : Exa Z h3 b "[B" := Ebw.wr W3
    have q8 : Arv Z h3 b kB .byte (64 : Int32) (vs.map Value.int) (.int (0 : Int32)) := Vbw.other W3 (Ne.symm new)
    have Z3 : n0 ≤ h3.size := Nat.le_trans Zh (Keep.of_wr W3).1
    have N3 := Fr.snoc X3 N0 gww
    have Kp3 : Keep h0 h3 [x0, b] := Kh.wr W3 (Or.inl (List.mem_of_getElem? (i := 0) rfl))
    refine own_step (T' := T3) (g' := (mkF m 123 #[.val (.ref x0), .val (.long (Int64.ofNat v0)), .second, .val (.long (Int64.ofNat v)), .second] [(.int (Int32.ofNat vs.length)), (.ref b)])) (fun _ k => st3 _ k) ?_
    refine own_step (T' := T3) (g' := (mkF m 124 #[.val (.ref x0), .val (.long (Int64.ofNat v0)), .second, .val (.long (Int64.ofNat v)), .second] [(.long (Int64.ofNat v)), (.int (Int32.ofNat vs.length)), (.ref b)])) (fun _ k => XS.lloadN X3.here hx rfl (hb hby d4_123) rfl k) ?_
    refine own_step (T' := T3) (g' := (mkF m 125 #[.val (.ref x0), .val (.long (Int64.ofNat v0)), .second, .val (.long (Int64.ofNat v)), .second] [(.int ((Int64.ofNat v).toInt32)), (.int (Int32.ofNat vs.length)), (.ref b)])) (fun _ k => XS.l2i X3.here hx rfl (hb hby d4_124) rfl k) ?_
    refine own_step (T' := T3) (g' := (mkF m 126 #[.val (.ref x0), .val (.long (Int64.ofNat v0)), .second, .val (.long (Int64.ofNat v)), .second] [(.int (((Int64.ofNat v).toInt32).toInt8.toInt32)), (.int (Int32.ofNat vs.length)), (.ref b)])) (fun _ k => XS.i2b X3.here hx rfl (hb hby d4_125) rfl k) ?_
    have hx_126 : ((((Int64.ofNat v).toInt32).toInt8.toInt32).toInt8.toInt32) = (Int32.ofNat v) := own_last v hv
    obtain ⟨cl9, Ar9, hin9, put9⟩ := own_apd q8 (j := (Int32.ofNat vs.length)) (v := (.int ((((Int64.ofNat v).toInt32).toInt8.toInt32).toInt8.toInt32))) (own_inb _ 64 (by omega) (by decide)) (by rw [own_clamp _ (by omega), List.length_map]) (fits_nar_byte _)
    obtain ⟨T9, h9, X9, e9, W9, st9⟩ := stB X3 hx hZ e3 Ar9 (j := (Int32.ofNat vs.length)) hin9 (g := (mkF m 126 #[.val (.ref x0), .val (.long (Int64.ofNat v0)), .second, .val (.long (Int64.ofNat v)), .second] [(.int (((Int64.ofNat v).toInt32).toInt8.toInt32)), (.int (Int32.ofNat vs.length)), (.ref b)])) rfl rfl (hb hby d4_126)
    have q10 : Fld Z h9 x0 "com/example/impatiens/impatiens/statespace/StateWriter" "bytes" "[B" (.ref b) := q4.other W9 (Or.inl new)
    have q11 : Fld Z h9 x0 "com/example/impatiens/impatiens/statespace/StateWriter" "length" "I" (.int ((Int32.ofNat vs.length) + (1 : Int32))) := q5.other W9 (Or.inl new)
    have q12 : Exa Z h9 x0 "com/example/impatiens/impatiens/statespace/StateWriter" := q6.wr W9
    have q13 : Exa Z h9 b "[B" := q7.wr W9
    have q14 : Arv Z h9 b kB .byte (64 : Int32) ((vs ++ [Int32.ofNat v]).map Value.int) (.int (0 : Int32)) := own_vs (put9 _ W9) (by rw [hx_126, List.map_append]; rfl)
    have Z9 : n0 ≤ h9.size := Nat.le_trans Z3 (Keep.of_wr W9).1
    have N9 := Fr.snoc X9 N3 gbw
    have Kp9 : Keep h0 h9 [x0, b] := Kp3.wr W9 (Or.inl (List.mem_of_getElem? (i := 1) rfl))
    refine own_step (T' := T9) (g' := (mkF m 127 #[.val (.ref x0), .val (.long (Int64.ofNat v0)), .second, .val (.long (Int64.ofNat v)), .second] [])) (fun _ k => st9 _ k) ?_
    have q15 : Fld Z h9 x0 "com/example/impatiens/impatiens/statespace/StateWriter" "length" "I" (.int (Int32.ofNat (vs ++ [Int32.ofNat v]).length)) := by rw [List.length_append, List.length_singleton, ← own_ofNat_succ]; exact q11
    exact own_ret X9 Bd (v := none) (fun _ => rfl) (fun fs q => X9.returnOut hx Bd.returns (hb hby d4_127) q) (show own_QW Z x0 b kB (vs0 ++ own_enc 8 v0) h0 n0 _ _ _ from by rw [e9, ← hR]; exact ⟨rfl, N9, Kp9, ⟨q12, q10, q15, q13, q14, gww, gbw⟩⟩) (by decide) (by decide)
  have B65 : ∀ (k v : Nat) (vs : List Int32) (T0 : State) (locs : List Loc) (hh : Heap), v < 128 ^ (k + 1) → v < 2 ^ 63 → vs.length + (k + 1) ≤ 64 → vs ++ own_enc k v = vs0 ++ own_enc 8 v0 → n0 ≤ hh.size → Keep h0 hh [x0, b] → own_WR Z n0 hh x0 b kB vs → Stand p l e ({ frames := 0, cells := 0, slots := 0, locals := 0 } : Room) s m #[(.ref x0), (.long (Int64.ofNat v0))] below meth c T0 locs 0 0 → T0.heap = hh → Fr n0 locs → own_Goes p e below s (own_QW Z x0 b kB (vs0 ++ own_enc 8 v0) h0 n0) ({ frames := 0, cells := 0, slots := 0, locals := 0 } : Room).cells ({ frames := 0, cells := 0, slots := 0, locals := 0 } : Room).slots T0 (mkF m 65 #[.val (.ref x0), .val (.long (Int64.ofNat v0)), .second, .val (.long (Int64.ofNat v)), .second] []) := by
    intro k
    induction k with
    | zero =>
      intro v vs T0 locs hh hvb hb2 hlen hR Zh Kh hWR X0 e0 N0
      have hv : v < 128 := by simpa using hvb
      refine own_step (T' := T0) (g' := (mkF m 66 #[.val (.ref x0), .val (.long (Int64.ofNat v0)), .second, .val (.long (Int64.ofNat v)), .second] [(.long (Int64.ofNat v))])) (fun _ k => XS.lloadN X0.here hx rfl (hb hby d4_65) rfl k) ?_
      refine own_step (T' := T0) (g' := (mkF m 69 #[.val (.ref x0), .val (.long (Int64.ofNat v0)), .second, .val (.long (Int64.ofNat v)), .second] [(.long (128 : Int64)), (.long (Int64.ofNat v))])) (fun _ k => X0.ldc2Long hx hown (mvT hZ (hw _ (List.mem_of_getElem? (i := 25) rfl))) (g := (mkF m 66 #[.val (.ref x0), .val (.long (Int64.ofNat v0)), .second, .val (.long (Int64.ofNat v)), .second] [(.long (Int64.ofNat v))])) rfl (hb hby d4_66) _ k) ?_
      refine own_step (T' := T0) (g' := (mkF m 70 #[.val (.ref x0), .val (.long (Int64.ofNat v0)), .second, .val (.long (Int64.ofNat v)), .second] [(.int (lcmpW (Int64.ofNat v) (128 : Int64)))])) (fun _ k => XS.lcmp X0.here hx rfl (hb hby d4_69) rfl k) ?_
      have hc1 : (lcmpW (Int64.ofNat v) (128 : Int64)) < (0 : Int32) := (own_cmp128 v (by omega)).mpr hv
      refine own_step (T' := T0) (g' := (mkF m 108 #[.val (.ref x0), .val (.long (Int64.ofNat v0)), .second, .val (.long (Int64.ofNat v)), .second] [])) (fun _ k => XS.ifYes X0.here hx rfl (pc0 := 70) (pc' := 108) rfl (hb hby d4_70) rfl ((if0 _ _).trans (tlt hc1).1) (by decide) (by decide) k) ?_
      exact B108 v vs T0 _ hh hv (by omega) (by rw [← hR]; rfl) Zh Kh hWR X0 e0 N0
    | succ k ih =>
      intro v vs T0 locs hh hvb hb2 hlen hR Zh Kh hWR X0 e0 N0
      by_cases hv : v < 128
      · refine own_step (T' := T0) (g' := (mkF m 66 #[.val (.ref x0), .val (.long (Int64.ofNat v0)), .second, .val (.long (Int64.ofNat v)), .second] [(.long (Int64.ofNat v))])) (fun _ k => XS.lloadN X0.here hx rfl (hb hby d4_65) rfl k) ?_
        refine own_step (T' := T0) (g' := (mkF m 69 #[.val (.ref x0), .val (.long (Int64.ofNat v0)), .second, .val (.long (Int64.ofNat v)), .second] [(.long (128 : Int64)), (.long (Int64.ofNat v))])) (fun _ k => X0.ldc2Long hx hown (mvT hZ (hw _ (List.mem_of_getElem? (i := 25) rfl))) (g := (mkF m 66 #[.val (.ref x0), .val (.long (Int64.ofNat v0)), .second, .val (.long (Int64.ofNat v)), .second] [(.long (Int64.ofNat v))])) rfl (hb hby d4_66) _ k) ?_
        refine own_step (T' := T0) (g' := (mkF m 70 #[.val (.ref x0), .val (.long (Int64.ofNat v0)), .second, .val (.long (Int64.ofNat v)), .second] [(.int (lcmpW (Int64.ofNat v) (128 : Int64)))])) (fun _ k => XS.lcmp X0.here hx rfl (hb hby d4_69) rfl k) ?_
        have hc1 : (lcmpW (Int64.ofNat v) (128 : Int64)) < (0 : Int32) := (own_cmp128 v (by omega)).mpr hv
        refine own_step (T' := T0) (g' := (mkF m 108 #[.val (.ref x0), .val (.long (Int64.ofNat v0)), .second, .val (.long (Int64.ofNat v)), .second] [])) (fun _ k => XS.ifYes X0.here hx rfl (pc0 := 70) (pc' := 108) rfl (hb hby d4_70) rfl ((if0 _ _).trans (tlt hc1).1) (by decide) (by decide) k) ?_
        exact B108 v vs T0 _ hh hv (by omega) (by rw [← hR, own_enc_small k v hv]) Zh Kh hWR X0 e0 N0
      · skip
        have oqw := hWR
        obtain ⟨Ew, Fbw, Flw, Ebw, Vbw, gww, gbw⟩ := oqw
        have new : x0 ≠ b := Ew.neArv Vbw (hw _ (List.mem_of_getElem? (i := 7) rfl))
        refine own_step (T' := T0) (g' := (mkF m 66 #[.val (.ref x0), .val (.long (Int64.ofNat v0)), .second, .val (.long (Int64.ofNat v)), .second] [(.long (Int64.ofNat v))])) (fun _ k => XS.lloadN X0.here hx rfl (hb hby d4_65) rfl k) ?_
        refine own_step (T' := T0) (g' := (mkF m 69 #[.val (.ref x0), .val (.long (Int64.ofNat v0)), .second, .val (.long (Int64.ofNat v)), .second] [(.long (128 : Int64)), (.long (Int64.ofNat v))])) (fun _ k => X0.ldc2Long hx hown (mvT hZ (hw _ (List.mem_of_getElem? (i := 25) rfl))) (g := (mkF m 66 #[.val (.ref x0), .val (.long (Int64.ofNat v0)), .second, .val (.long (Int64.ofNat v)), .second] [(.long (Int64.ofNat v))])) rfl (hb hby d4_66) _ k) ?_
        refine own_step (T' := T0) (g' := (mkF m 70 #[.val (.ref x0), .val (.long (Int64.ofNat v0)), .second, .val (.long (Int64.ofNat v)), .second] [(.int (lcmpW (Int64.ofNat v) (128 : Int64)))])) (fun _ k => XS.lcmp X0.here hx rfl (hb hby d4_69) rfl k) ?_
        have hc1 : ¬ ((lcmpW (Int64.ofNat v) (128 : Int64)) < (0 : Int32)) := fun q => hv ((own_cmp128 v (by omega)).mp q)
        refine own_step (T' := T0) (g' := (mkF m 73 #[.val (.ref x0), .val (.long (Int64.ofNat v0)), .second, .val (.long (Int64.ofNat v)), .second] [])) (fun _ k => XS.ifNo X0.here hx rfl (hb hby d4_70) rfl ((if0 _ _).trans (flt hc1).1) k) ?_
        refine own_step (T' := T0) (g' := (mkF m 74 #[.val (.ref x0), .val (.long (Int64.ofNat v0)), .second, .val (.long (Int64.ofNat v)), .second] [(.ref x0)])) (fun _ k => XS.aloadN X0.here hx rfl (hb hby d4_73) rfl rfl k) ?_
        obtain ⟨T2, X2, e2, st2⟩ := getF X0 hx hZ hown (host := "") (Or.inl (hw _ (List.mem_of_getElem? (i := 16) rfl))) Via.refl e0 Fbw (g := (mkF m 74 #[.val (.ref x0), .val (.long (Int64.ofNat v0)), .second, .val (.long (Int64.ofNat v)), .second] [(.ref x0)])) rfl rfl (hb hby d4_74)
        refine own_step (T' := T2) (g' := (mkF m 77 #[.val (.ref x0), .val (.long (Int64.ofNat v0)), .second, .val (.long (Int64.ofNat v)), .second] [(.ref b)])) (fun _ k => st2 _ k) ?_
        refine own_step (T' := T2) (g' := (mkF m 78 #[.val (.ref x0), .val (.long (Int64.ofNat v0)), .second, .val (.long (Int64.ofNat v)), .second] [(.ref x0), (.ref b)])) (fun _ k => XS.aloadN X2.here hx rfl (hb hby d4_77) rfl rfl k) ?_
        refine own_step (T' := T2) (g' := (mkF m 79 #[.val (.ref x0), .val (.long (Int64.ofNat v0)), .second, .val (.long (Int64.ofNat v)), .second] [(.ref x0), (.ref x0), (.ref b)])) (fun _ k => XS.dup X2.here hx rfl (hb hby d4_78) rfl rfl k) ?_
        obtain ⟨T3, X3, e3, st3⟩ := getF X2 hx hZ hown (host := "") (Or.inl (hw _ (List.mem_of_getElem? (i := 23) rfl))) Via.refl e2 Flw (g := (mkF m 79 #[.val (.ref x0), .val (.long (Int64.ofNat v0)), .second, .val (.long (Int64.ofNat v)), .second] [(.ref x0), (.ref x0), (.ref b)])) rfl rfl (hb hby d4_79)
        refine own_step (T' := T3) (g' := (mkF m 82 #[.val (.ref x0), .val (.long (Int64.ofNat v0)), .second, .val (.long (Int64.ofNat v)), .second] [(.int (Int32.ofNat vs.length)), (.ref x0), (.ref b)])) (fun _ k => st3 _ k) ?_
        refine own_step (T' := T3) (g' := (mkF m 83 #[.val (.ref x0), .val (.long (Int64.ofNat v0)), .second, .val (.long (Int64.ofNat v)), .second] [(.int (Int32.ofNat vs.length)), (.ref x0), (.int (Int32.ofNat vs.length)), (.ref b)])) (fun _ k => XS.dupX1 X3.here hx rfl (hb hby d4_82) rfl rfl rfl k) ?_
        refine own_step (T' := T3) (g' := (mkF m 84 #[.val (.ref x0), .val (.long (Int64.ofNat v0)), .second, .val (.long (Int64.ofNat v)), .second] [(.int (1 : Int32)), (.int (Int32.ofNat vs.length)), (.ref x0), (.int (Int32.ofNat vs.length)), (.ref b)])) (fun _ k => XS.iconst X3.here hx rfl (hb hby d4_83) k) ?_
        refine own_step (T' := T3) (g' := (mkF m 85 #[.val (.ref x0), .val (.long (Int64.ofNat v0)), .second, .val (.long (Int64.ofNat v)), .second] [(.int ((Int32.ofNat vs.length) + (1 : Int32))), (.ref x0), (.int (Int32.ofNat vs.length)), (.ref b)])) (fun _ k => XS.iadd X3.here hx rfl (hb hby d4_84) rfl k) ?_
        obtain ⟨T4, h4, X4, e4, W4, st4⟩ := putF X3 hx hZ hown (host := "") (Or.inl (hw _ (List.mem_of_getElem? (i := 23) rfl))) Via.refl e3 Flw Ew (Or.inl (hw _ (List.mem_of_getElem? (i := 24) rfl))) (hw _ (List.mem_of_getElem? (i := 7) rfl)) (ty := .int) (by decide) rfl rfl (g := (mkF m 85 #[.val (.ref x0), .val (.long (Int64.ofNat v0)), .second, .val (.long (Int64.ofNat v)), .second] [(.int ((Int32.ofNat vs.length) + (1 : Int32))), (.ref x0), (.int (Int32.ofNat vs.length)), (.ref b)])) rfl rfl (hb hby d4_85)
        have q5 : Fld Z h4 x0 "com/example/impatiens/impatiens/statespace/StateWriter" "bytes" "[B" (.ref b) := Fbw.other W4 (Or.inr (slot_ne (Or.inl (hw _ (List.mem_of_getElem? (i := 17) rfl))) (Or.inl (hw _ (List.mem_of_getElem? (i := 24) rfl))) (by decide) (t := (.array .byte)) (t' := .int) (by decide) (by decide)))
        have q6 : Fld Z h4 x0 "com/example/impatiens/impatiens/statespace/StateWriter" "length" "I" (.int ((Int32.ofNat vs.length) + (1 : Int32))) := Flw.same W4
        have q7 : Exa Z h4 x0 "com/example/impatiens/impatiens/statespace/StateWriter" := Ew.wr W4
        have q8 : Exa Z h4 b "[B" := Ebw.wr W4
        have q9 : Arv Z h4 b kB .byte (64 : Int32) (vs.map Value.int) (.int (0 : Int32)) := Vbw.other W4 (Ne.symm new)
        have Z4 : n0 ≤ h4.size := Nat.le_trans Zh (Keep.of_wr W4).1
        have N4 := Fr.snoc X4 N0 gww
        have Kp4 : Keep h0 h4 [x0, b] := Kh.wr W4 (Or.inl (List.mem_of_getElem? (i := 0) rfl))
        refine own_step (T' := T4) (g' := (mkF m 88 #[.val (.ref x0), .val (.long (Int64.ofNat v0)), .second, .val (.long (Int64.ofNat v)), .second] [(.int (Int32.ofNat vs.length)), (.ref b)])) (fun _ k => st4 _ k) ?_
        refine own_step (T' := T4) (g' := (mkF m 89 #[.val (.ref x0), .val (.long (Int64.ofNat v0)), .second, .val (.long (Int64.ofNat v)), .second] [(.long (Int64.ofNat v)), (.int (Int32.ofNat vs.length)), (.ref b)])) (fun _ k => XS.lloadN X4.here hx rfl (hb hby d4_88) rfl k) ?_
        refine own_step (T' := T4) (g' := (mkF m 92 #[.val (.ref x0), .val (.long (Int64.ofNat v0)), .second, .val (.long (Int64.ofNat v)), .second] [(.long (127 : Int64)), (.long (Int64.ofNat v)), (.int (Int32.ofNat vs.length)), (.ref b)])) (fun _ k => X4.ldc2Long hx hown (mvT hZ (hw _ (List.mem_of_getElem? (i := 105) rfl))) (g := (mkF m 89 #[.val (.ref x0), .val (.long (Int64.ofNat v0)), .second, .val (.long (Int64.ofNat v)), .second] [(.long (Int64.ofNat v)), (.int (Int32.ofNat vs.length)), (.ref b)])) rfl (hb hby d4_89) _ k) ?_
        refine own_step (T' := T4) (g' := (mkF m 93 #[.val (.ref x0), .val (.long (Int64.ofNat v0)), .second, .val (.long (Int64.ofNat v)), .second] [(.long ((Int64.ofNat v) &&& (127 : Int64))), (.int (Int32.ofNat vs.length)), (.ref b)])) (fun _ k => XS.land X4.here hx rfl (hb hby d4_92) rfl k) ?_
        refine own_step (T' := T4) (g' := (mkF m 96 #[.val (.ref x0), .val (.long (Int64.ofNat v0)), .second, .val (.long (Int64.ofNat v)), .second] [(.long (128 : Int64)), (.long ((Int64.ofNat v) &&& (127 : Int64))), (.int (Int32.ofNat vs.length)), (.ref b)])) (fun _ k => X4.ldc2Long hx hown (mvT hZ (hw _ (List.mem_of_getElem? (i := 25) rfl))) (g := (mkF m 93 #[.val (.ref x0), .val (.long (Int64.ofNat v0)), .second, .val (.long (Int64.ofNat v)), .second] [(.long ((Int64.ofNat v) &&& (127 : Int64))), (.int (Int32.ofNat vs.length)), (.ref b)])) rfl (hb hby d4_93) _ k) ?_
        refine own_step (T' := T4) (g' := (mkF m 97 #[.val (.ref x0), .val (.long (Int64.ofNat v0)), .second, .val (.long (Int64.ofNat v)), .second] [(.long (((Int64.ofNat v) &&& (127 : Int64)) ||| (128 : Int64))), (.int (Int32.ofNat vs.length)), (.ref b)])) (fun _ k => XS.lor X4.here hx rfl (hb hby d4_96) rfl k) ?_
        refine own_step (T' := T4) (g' := (mkF m 98 #[.val (.ref x0), .val (.long (Int64.ofNat v0)), .second, .val (.long (Int64.ofNat v)), .second] [(.int ((((Int64.ofNat v) &&& (127 : Int64)) ||| (128 : Int64)).toInt32)), (.int (Int32.ofNat vs.length)), (.ref b)])) (fun _ k => XS.l2i X4.here hx rfl (hb hby d4_97) rfl k) ?_
        refine own_step (T' := T4) (g' := (mkF m 99 #[.val (.ref x0), .val (.long (Int64.ofNat v0)), .second, .val (.long (Int64.ofNat v)), .second] [(.int (((((Int64.ofNat v) &&& (127 : Int64)) ||| (128 : Int64)).toInt32).toInt8.toInt32)), (.int (Int32.ofNat vs.length)), (.ref b)])) (fun _ k => XS.i2b X4.here hx rfl (hb hby d4_98) rfl k) ?_
        have hx_99 : ((((((Int64.ofNat v) &&& (127 : Int64)) ||| (128 : Int64)).toInt32).toInt8.toInt32).toInt8.toInt32) = (Int32.ofInt ((v % 128 : Nat) - 128 : Int)) := own_cont v
        obtain ⟨cl10, Ar10, hin10, put10⟩ := own_apd q9 (j := (Int32.ofNat vs.length)) (v := (.int ((((((Int64.ofNat v) &&& (127 : Int64)) ||| (128 : Int64)).toInt32).toInt8.toInt32).toInt8.toInt32))) (own_inb _ 64 (by omega) (by decide)) (by rw [own_clamp _ (by omega), List.length_map]) (fits_nar_byte _)
        obtain ⟨T10, h10, X10, e10, W10, st10⟩ := stB X4 hx hZ e4 Ar10 (j := (Int32.ofNat vs.length)) hin10 (g := (mkF m 99 #[.val (.ref x0), .val (.long (Int64.ofNat v0)), .second, .val (.long (Int64.ofNat v)), .second] [(.int (((((Int64.ofNat v) &&& (127 : Int64)) ||| (128 : Int64)).toInt32).toInt8.toInt32)), (.int (Int32.ofNat vs.length)), (.ref b)])) rfl rfl (hb hby d4_99)
        have q11 : Fld Z h10 x0 "com/example/impatiens/impatiens/statespace/StateWriter" "bytes" "[B" (.ref b) := q5.other W10 (Or.inl new)
        have q12 : Fld Z h10 x0 "com/example/impatiens/impatiens/statespace/StateWriter" "length" "I" (.int ((Int32.ofNat vs.length) + (1 : Int32))) := q6.other W10 (Or.inl new)
        have q13 : Exa Z h10 x0 "com/example/impatiens/impatiens/statespace/StateWriter" := q7.wr W10
        have q14 : Exa Z h10 b "[B" := q8.wr W10
        have q15 : Arv Z h10 b kB .byte (64 : Int32) ((vs ++ [Int32.ofInt ((v % 128 : Nat) - 128 : Int)]).map Value.int) (.int (0 : Int32)) := own_vs (put10 _ W10) (by rw [hx_99, List.map_append]; rfl)
        have Z10 : n0 ≤ h10.size := Nat.le_trans Z4 (Keep.of_wr W10).1
        have N10 := Fr.snoc X10 N4 gbw
        have Kp10 : Keep h0 h10 [x0, b] := Kp4.wr W10 (Or.inl (List.mem_of_getElem? (i := 1) rfl))
        refine own_step (T' := T10) (g' := (mkF m 100 #[.val (.ref x0), .val (.long (Int64.ofNat v0)), .second, .val (.long (Int64.ofNat v)), .second] [])) (fun _ k => st10 _ k) ?_
        refine own_step (T' := T10) (g' := (mkF m 101 #[.val (.ref x0), .val (.long (Int64.ofNat v0)), .second, .val (.long (Int64.ofNat v)), .second] [(.long (Int64.ofNat v))])) (fun _ k => XS.lloadN X10.here hx rfl (hb hby d4_100) rfl k) ?_
        refine own_step (T' := T10) (g' := (mkF m 103 #[.val (.ref x0), .val (.long (Int64.ofNat v0)), .second, .val (.long (Int64.ofNat v)), .second] [(.int (7 : Int32)), (.long (Int64.ofNat v))])) (fun _ k => XS.bipush X10.here hx rfl (hb hby d4_101) k) ?_
        refine own_step (T' := T10) (g' := (mkF m 104 #[.val (.ref x0), .val (.long (Int64.ofNat v0)), .second, .val (.long (Int64.ofNat v)), .second] [(.long (((Int64.ofNat v).toUInt64 >>> ((7 : Int32) &&& 0x3f).toInt64.toUInt64).toInt64))])) (fun _ k => XS.lushr X10.here hx rfl (hb hby d4_103) rfl k) ?_
        refine own_step (T' := T10) (g' := (mkF m 105 #[.val (.ref x0), .val (.long (Int64.ofNat v0)), .second, .val (.long (((Int64.ofNat v).toUInt64 >>> ((7 : Int32) &&& 0x3f).toInt64.toUInt64).toInt64)), .second] [])) (fun _ k => XS.lstoreN X10.here hx rfl (hb hby d4_104) rfl (l' := #[.val (.ref x0), .val (.long (Int64.ofNat v0)), .second, .val (.long (((Int64.ofNat v).toUInt64 >>> ((7 : Int32) &&& 0x3f).toInt64.toUInt64).toInt64)), .second]) rfl k) ?_
        have hr16 : (((Int64.ofNat v).toUInt64 >>> ((7 : Int32) &&& 0x3f).toInt64.toUInt64).toInt64) = (Int64.ofNat (v / 128)) := own_shr v (by omega)
        rw [hr16]
        refine own_step (T' := T10) (g' := (mkF m 65 #[.val (.ref x0), .val (.long (Int64.ofNat v0)), .second, .val (.long (Int64.ofNat (v / 128))), .second] [])) (fun _ k => XS.goto X10.here hx rfl (pc0 := 105) (pc' := 65) rfl (hb hby d4_105) (by decide) (by decide) k) ?_
        have q17 : Fld Z h10 x0 "com/example/impatiens/impatiens/statespace/StateWriter" "length" "I" (.int (Int32.ofNat (vs ++ [Int32.ofInt ((v % 128 : Nat) - 128 : Int)]).length)) := by rw [List.length_append, List.length_singleton, ← own_ofNat_succ]; exact q12
        exact ih (v / 128) (vs ++ [Int32.ofInt ((v % 128 : Nat) - 128 : Int)]) T10 _ h10 (by rw [Nat.pow_succ] at hvb; omega) (by omega) (by rw [List.length_append, List.length_singleton]; omega) (by rw [List.append_assoc, List.singleton_append, ← hR, own_enc_more k v hv]) Z10 Kp10 ⟨q13, q11, q17, q14, q15, gww, gbw⟩ X10 e10 N10
  have oq0 := hWR0
  obtain ⟨E0, Fb0, Fl0, Eb0, Vb0, gw0, gb0⟩ := oq0
  have ne0 : x0 ≠ b := E0.neArv Vb0 (hw _ (List.mem_of_getElem? (i := 7) rfl))
  have hB : own_Goes p e below s (own_QW Z x0 b kB (vs0 ++ own_enc 8 v0) h0 n0) ({ frames := 0, cells := 0, slots := 0, locals := 0 } : Room).cells ({ frames := 0, cells := 0, slots := 0, locals := 0 } : Room).slots s₁ (mkF m 0 #[.val (.ref x0), .val (.long (Int64.ofNat v0)), .second, .unset, .unset] []) := by
    refine own_step (T' := s₁) (g' := (mkF m 1 #[.val (.ref x0), .val (.long (Int64.ofNat v0)), .second, .unset, .unset] [(.long (Int64.ofNat v0))])) (fun _ k => XS.lloadN X00.here hx rfl (hb hby d4_0) rfl k) ?_
    refine own_step (T' := s₁) (g' := (mkF m 2 #[.val (.ref x0), .val (.long (Int64.ofNat v0)), .second, .unset, .unset] [(.long (0 : Int64)), (.long (Int64.ofNat v0))])) (fun _ k => XS.lconst X00.here hx rfl (hb hby d4_1) k) ?_
    refine own_step (T' := s₁) (g' := (mkF m 3 #[.val (.ref x0), .val (.long (Int64.ofNat v0)), .second, .unset, .unset] [(.int (lcmpW (Int64.ofNat v0) (0 : Int64)))])) (fun _ k => XS.lcmp X00.here hx rfl (hb hby d4_2) rfl k) ?_
    have hc1 : ¬ ((lcmpW (Int64.ofNat v0) (0 : Int64)) < (0 : Int32)) := own_nonneg v0 hb0
    refine own_step (T' := s₁) (g' := (mkF m 20 #[.val (.ref x0), .val (.long (Int64.ofNat v0)), .second, .unset, .unset] [])) (fun _ k => XS.ifYes X00.here hx rfl (pc0 := 3) (pc' := 20) rfl (hb hby d4_3) rfl ((if0 _ _).trans (flt hc1).2.1) (by decide) (by decide) k) ?_
    refine own_step (T' := s₁) (g' := (mkF m 21 #[.val (.ref x0), .val (.long (Int64.ofNat v0)), .second, .unset, .unset] [(.ref x0)])) (fun _ k => XS.aloadN X00.here hx rfl (hb hby d4_20) rfl rfl k) ?_
    obtain ⟨T2, X2, e2, st2⟩ := getF X00 hx hZ hown (host := "") (Or.inl (hw _ (List.mem_of_getElem? (i := 23) rfl))) Via.refl e00 Fl0 (g := (mkF m 21 #[.val (.ref x0), .val (.long (Int64.ofNat v0)), .second, .unset, .unset] [(.ref x0)])) rfl rfl (hb hby d4_21)
    refine own_step (T' := T2) (g' := (mkF m 24 #[.val (.ref x0), .val (.long (Int64.ofNat v0)), .second, .unset, .unset] [(.int (Int32.ofNat vs0.length))])) (fun _ k => st2 _ k) ?_
    refine own_step (T' := T2) (g' := (mkF m 26 #[.val (.ref x0), .val (.long (Int64.ofNat v0)), .second, .unset, .unset] [(.int (10 : Int32)), (.int (Int32.ofNat vs0.length))])) (fun _ k => XS.bipush X2.here hx rfl (hb hby d4_24) k) ?_
    refine own_step (T' := T2) (g' := (mkF m 27 #[.val (.ref x0), .val (.long (Int64.ofNat v0)), .second, .unset, .unset] [(.int ((Int32.ofNat vs0.length) + (10 : Int32)))])) (fun _ k => XS.iadd X2.here hx rfl (hb hby d4_26) rfl k) ?_
    refine own_step (T' := T2) (g' := (mkF m 28 #[.val (.ref x0), .val (.long (Int64.ofNat v0)), .second, .unset, .unset] [(.ref x0), (.int ((Int32.ofNat vs0.length) + (10 : Int32)))])) (fun _ k => XS.aloadN X2.here hx rfl (hb hby d4_27) rfl rfl k) ?_
    obtain ⟨T3, X3, e3, st3⟩ := getF X2 hx hZ hown (host := "") (Or.inl (hw _ (List.mem_of_getElem? (i := 16) rfl))) Via.refl e2 Fb0 (g := (mkF m 28 #[.val (.ref x0), .val (.long (Int64.ofNat v0)), .second, .unset, .unset] [(.ref x0), (.int ((Int32.ofNat vs0.length) + (10 : Int32)))])) rfl rfl (hb hby d4_28)
    refine own_step (T' := T3) (g' := (mkF m 31 #[.val (.ref x0), .val (.long (Int64.ofNat v0)), .second, .unset, .unset] [(.ref b), (.int ((Int32.ofNat vs0.length) + (10 : Int32)))])) (fun _ k => st3 _ k) ?_
    have Vq4 := Vb0
    obtain ⟨cl4, Ar4, -, S4, M4, -, -⟩ := Vq4
    refine own_step (T' := T3) (g' := (mkF m 32 #[.val (.ref x0), .val (.long (Int64.ofNat v0)), .second, .unset, .unset] [(.int (64 : Int32)), (.int ((Int32.ofNat vs0.length) + (10 : Int32)))])) (fun _ k => X3.arraylength hx (by rw [e3]; exact Ar4.1) (State.isArrayOf_alike hZ.alike Ar4.2.1) (g := (mkF m 31 #[.val (.ref x0), .val (.long (Int64.ofNat v0)), .second, .unset, .unset] [(.ref b), (.int ((Int32.ofNat vs0.length) + (10 : Int32)))])) rfl rfl (hb hby d4_31) _ (by rw [len_of S4 M4]; exact k)) ?_
    have hc5 : ¬ ((64 : Int32) < ((Int32.ofNat vs0.length) + (10 : Int32))) := own_fits vs0.length hl0
    refine own_step (T' := T3) (g' := (mkF m 63 #[.val (.ref x0), .val (.long (Int64.ofNat v0)), .second, .unset, .unset] [])) (fun _ k => XS.icmpYes X3.here hx rfl (pc0 := 32) (pc' := 63) rfl (hb hby d4_32) rfl (flt hc5).2.2.2 (by decide) (by decide) k) ?_
    refine own_step (T' := T3) (g' := (mkF m 64 #[.val (.ref x0), .val (.long (Int64.ofNat v0)), .second, .unset, .unset] [(.long (Int64.ofNat v0))])) (fun _ k => XS.lloadN X3.here hx rfl (hb hby d4_63) rfl k) ?_
    refine own_step (T' := T3) (g' := (mkF m 65 #[.val (.ref x0), .val (.long (Int64.ofNat v0)), .second, .val (.long (Int64.ofNat v0)), .second] [])) (fun _ k => XS.lstoreN X3.here hx rfl (hb hby d4_64) rfl (l' := #[.val (.ref x0), .val (.long (Int64.ofNat v0)), .second, .val (.long (Int64.ofNat v0)), .second]) rfl k) ?_
    exact B65 8 v0 vs0 T3 _ h0 (by omega) hb0 (by omega) rfl Z0 (Keep.refl _ _) hWR0 X3 e3 N00
  obtain ⟨s₂, o, q1, q2, q3, v, L, q4, q5, q6⟩ := hB
  exact ⟨s₂, o, castTop (ef_4 m x0 (Int64.ofNat v0)) q1, q2, q3, v, L, q4, q5, q6⟩
set_option maxRecDepth 65536 in
set_option maxHeartbeats 40000000 in
theorem rm7 (l : Launch) (Z : State) (a0 : Array Value) (hw : ∀ d ∈ tables_1, d.before a0 Z = true) (ws : List Jvm.Cond) (x0 : Addr) (x1 : Addr) (h0 : Heap) (n0 : Nat) (Z0 : n0 ≤ h0.size) :
    MetFree l (⟨"java/util/Objects", "requireNonNull", "(Ljava/lang/Object;Ljava/lang/String;)Ljava/lang/Object;"⟩ : MethodName) (head1 (Jvm.Cond.code (⟨"java/util/Objects", "requireNonNull", "(Ljava/lang/Object;Ljava/lang/String;)Ljava/lang/Object;"⟩ : MethodName) jdk_31_method_11_code 2 (some (.object "java/lang/Object")) :: ws) ({ frames := 0, cells := 0, slots := 0, locals := 0 } : Room)) (fun a U => a = #[(.ref x0), (.ref x1)] ∧ Z.Warmed39 U.vm ∧ U.heap = h0) (fun _ _ _ _ _ => True) (fun _ U o U' => ∃ v L, o = .returned v ∧ own_Pure (.ref x0) h0 n0 v U'.heap L ∧ FrameEnd U o U' L ({ frames := 0, cells := 0, slots := 0, locals := 0 } : Room).cells ({ frames := 0, cells := 0, slots := 0, locals := 0 } : Room).slots) := by
  refine MetFree.of_bodySF (plainFor_of_name pn_7) hisR ?_
  intro p e s m args below meth c s₁ Bd hml0 hP hK
  obtain ⟨rfl, hZ, hh0⟩ := hP
  have hx := Bd.exec
  have hby := Bd.bytes
  have hml : c.maxLocals = 2 := hml0
  have hown : s.vm.findClass "java/util/Objects" = some m.cls := findClass_of_methodNamed Bd.named
  have hnm := (name_of_methodNamed Bd.named Bd.method).1
  have X00 : Stand p l e ({ frames := 0, cells := 0, slots := 0, locals := 0 } : Room) s m #[(.ref x0), (.ref x1)] below meth c s₁ [] 0 0 := Stand.of_body Bd
  have e00 : s₁.heap = h0 := by rw [← hh0, Bd.state]; rfl
  have N00 := Fr.nil n0
  have hB : own_Goes p e below s (own_Pure (.ref x0) h0 n0) ({ frames := 0, cells := 0, slots := 0, locals := 0 } : Room).cells ({ frames := 0, cells := 0, slots := 0, locals := 0 } : Room).slots s₁ (mkF m 0 #[.val (.ref x0), .val (.ref x1)] []) := by
    refine own_step (T' := s₁) (g' := (mkF m 1 #[.val (.ref x0), .val (.ref x1)] [(.ref x0)])) (fun _ k => XS.aloadN X00.here hx rfl (hb hby d7_0) rfl rfl k) ?_
    refine own_step (T' := s₁) (g' := (mkF m 13 #[.val (.ref x0), .val (.ref x1)] [])) (fun _ k => XS.ifnonnullYes X00.here hx rfl (pc0 := 1) (pc' := 13) rfl (hb hby d7_1) rfl (by decide) (by decide) k) ?_
    refine own_step (T' := s₁) (g' := (mkF m 14 #[.val (.ref x0), .val (.ref x1)] [(.ref x0)])) (fun _ k => XS.aloadN X00.here hx rfl (hb hby d7_13) rfl rfl k) ?_
    exact own_ret X00 Bd (v := some (.ref x0)) (fun q => by rw [Bd.returns] at q; cases q) (fun fs q => retOut X00 hx Bd.returns rfl (Or.inr (Or.inr (Or.inr (Or.inr ⟨rfl, rfl, rfl⟩)))) (hb hby d7_14) q) (show own_Pure (.ref x0) h0 n0 _ _ _ from ⟨rfl, N00, e00⟩) (by decide) (by decide)
  obtain ⟨s₂, o, q1, q2, q3, v, L, q4, q5, q6⟩ := hB
  exact ⟨s₂, o, castTop (ef_7 m x0 x1) q1, q2, q3, v, L, q4, q5, q6⟩
set_option maxRecDepth 65536 in
set_option maxHeartbeats 40000000 in
theorem rm6 (l : Launch) (Z : State) (a0 : Array Value) (hw : ∀ d ∈ tables_1, d.before a0 Z = true) (ws : List Jvm.Cond) (x0 : Addr) (x1 : Addr) (kB : ClassId) (vs : List Int32) (u_b : Value) (h0 : Heap) (n0 : Nat) (Z0 : n0 ≤ h0.size) (E0 : Exa Z h0 x0 "com/example/impatiens/impatiens/statespace/StateReader") (g0 : n0 ≤ x0) (F_b : Fld Z h0 x0 "com/example/impatiens/impatiens/statespace/StateReader" "bytes" "[B" u_b) (F_p : Fld Z h0 x0 "com/example/impatiens/impatiens/statespace/StateReader" "position" "I" (.int (0 : Int32))) (Eb0 : Exa Z h0 x1 "[B") (Vb0 : Arv Z h0 x1 kB .byte (64 : Int32) (vs.map Value.int) (.int (0 : Int32))) :
    MetFree l (⟨"com/example/impatiens/impatiens/statespace/StateReader", "<init>", "([B)V"⟩ : MethodName) (head1 (Jvm.Cond.code (⟨"com/example/impatiens/impatiens/statespace/StateReader", "<init>", "([B)V"⟩ : MethodName) prog_75_method_1_code 2 none :: ws) ({ frames := 1, cells := 2, slots := 92, locals := 14 } : Room)) (fun a U => a = #[(.ref x0), (.ref x1)] ∧ Z.Warmed39 U.vm ∧ U.heap = h0) (fun _ _ _ _ _ => True) (fun _ U o U' => ∃ v L, o = .returned v ∧ own_QRini Z x0 x1 kB vs h0 n0 v U'.heap L ∧ ReturnedEndW U o U' L ({ frames := 1, cells := 2, slots := 92, locals := 14 } : Room).cells ({ frames := 1, cells := 2, slots := 92, locals := 14 } : Room).slots) := by
  refine MetFree.of_bodySF (plainFor_of_name pn_6) hisR ?_
  intro p e s m args below meth c s₁ Bd hml0 hP hK
  obtain ⟨rfl, hZ, hh0⟩ := hP
  have hx := Bd.exec
  have hby := Bd.bytes
  have hml : c.maxLocals = 2 := hml0
  have hown : s.vm.findClass "com/example/impatiens/impatiens/statespace/StateReader" = some m.cls := findClass_of_methodNamed Bd.named
  have hnm := (name_of_methodNamed Bd.named Bd.method).1
  have X00 : Stand p l e ({ frames := 1, cells := 2, slots := 92, locals := 14 } : Room) s m #[(.ref x0), (.ref x1)] below meth c s₁ [] 0 0 := Stand.of_body Bd
  have e00 : s₁.heap = h0 := by rw [← hh0, Bd.state]; rfl
  have N00 := Fr.nil n0
  have wS : ∀ a ∈ Bundle.stringAtoms, a.before a0 Z = true := fun d hd => by
    simp only [Bundle.stringAtoms, List.mem_cons, List.not_mem_nil, or_false] at hd
    rcases hd with rfl | rfl | rfl | rfl | rfl | rfl | rfl
    · exact (hw _ (List.mem_of_getElem? (i := 39) rfl))
    · exact (hw _ (List.mem_of_getElem? (i := 40) rfl))
    · exact (hw _ (List.mem_of_getElem? (i := 15) rfl))
    · exact (hw _ (List.mem_of_getElem? (i := 41) rfl))
    · exact (hw _ (List.mem_of_getElem? (i := 42) rfl))
    · exact (hw _ (List.mem_of_getElem? (i := 43) rfl))
    · exact (hw _ (List.mem_of_getElem? (i := 44) rfl))
  have hS0 : s.Since s.vm 0 := (State.WarmedH.refl s).since _
  have hZs : Z.Warmed39 (s.setVm s.vm).vm := hZ
  have howns : (s.setVm s.vm).vm.findClass "com/example/impatiens/impatiens/statespace/StateReader" = some m.cls := hown
  have X0s : Stand p l e ({ frames := 1, cells := 2, slots := 92, locals := 14 } : Room) (s.setVm s.vm) m #[(.ref x0), (.ref x1)] below meth c s₁ [] 0 0 := X00
  have ne0 : x0 ≠ x1 := E0.neArv Vb0 (hw _ (List.mem_of_getElem? (i := 27) rfl))
  have hB : own_GoesW p e below s (own_QRini Z x0 x1 kB vs h0 n0) ({ frames := 1, cells := 2, slots := 92, locals := 14 } : Room).cells ({ frames := 1, cells := 2, slots := 92, locals := 14 } : Room).slots s₁ (mkF m 0 #[.val (.ref x0), .val (.ref x1)] []) := by
    refine own_stepW (T' := s₁) (g' := (mkF m 1 #[.val (.ref x0), .val (.ref x1)] [(.ref x0)])) (fun _ k => XS.aloadN X0s.here hx rfl (hb hby d6_0) rfl rfl k) ?_
    obtain ⟨T1, X1, e1, st1⟩ := initO X0s hx hZs howns (hw _ (List.mem_of_getElem? (i := 37) rfl)) (hw _ (List.mem_of_getElem? (i := 13) rfl)) (hw _ (List.mem_of_getElem? (i := 14) rfl)) e00 (g := (mkF m 1 #[.val (.ref x0), .val (.ref x1)] [(.ref x0)])) rfl (by rw [hml]; rfl) rfl (hb hby d6_1) (by decide) (W := 0) (by show 2 * 0 + _ ≤ _; exact Nat.le_of_eq rfl) (by decide)
    refine own_stepW (T' := T1) (g' := (mkF m 4 #[.val (.ref x0), .val (.ref x1)] [])) (fun _ k => st1 _ k) ?_
    refine own_stepW (T' := T1) (g' := (mkF m 5 #[.val (.ref x0), .val (.ref x1)] [(.ref x0)])) (fun _ k => XS.aloadN X1.here hx rfl (hb hby d6_4) rfl rfl k) ?_
    refine own_stepW (T' := T1) (g' := (mkF m 6 #[.val (.ref x0), .val (.ref x1)] [(.ref x1), (.ref x0)])) (fun _ k => XS.aloadN X1.here hx rfl (hb hby d6_5) rfl rfl k) ?_
    obtain ⟨c2, T2, h2, ks2, X2, e2, E2, hS2, hk2, hZ2, hown2, st2⟩ := ldcS X1 hx hZs howns (hw _ (List.mem_of_getElem? (i := 38) rfl)) wS e1 hS0 (Nat.zero_le _) (g := (mkF m 6 #[.val (.ref x0), .val (.ref x1)] [(.ref x1), (.ref x0)])) rfl (hb hby d6_6) (n := 88) (by decide) (by decide) (by decide) (by decide)
    have q3 : Fld Z h2 x0 "com/example/impatiens/impatiens/statespace/StateReader" "bytes" "[B" u_b := F_b.ext E2
    have q4 : Fld Z h2 x0 "com/example/impatiens/impatiens/statespace/StateReader" "position" "I" (.int (0 : Int32)) := F_p.ext E2
    have q5 : Exa Z h2 x0 "com/example/impatiens/impatiens/statespace/StateReader" := E0.ext E2
    have q6 : Exa Z h2 x1 "[B" := Eb0.ext E2
    have q7 : Arv Z h2 x1 kB .byte (64 : Int32) (vs.map Value.int) (.int (0 : Int32)) := Vb0.ext E2
    have Z2 : n0 ≤ h2.size := Nat.le_trans Z0 E2.1
    have Kp2 : Keep h0 h2 [x0] := (Keep.refl h0 [x0]).ext E2
    refine own_stepW (T' := T2) (g' := (mkF m 8 #[.val (.ref x0), .val (.ref x1)] [(.ref c2), (.ref x1), (.ref x0)])) (fun _ k => st2 _ k) ?_
    obtain ⟨_, _, ⟨T8, L8, k8, n8⟩, -, X8, ⟨Lc8, hQ8, l8, y8, z8⟩, st8⟩ := Jvm.LawKit.callS X2 hx (y := (⟨"java/util/Objects", "requireNonNull", "(Ljava/lang/Object;Ljava/lang/String;)Ljava/lang/Object;"⟩ : MethodName)) hown2 (mvT hZ2 (hw _ (List.mem_of_getElem? (i := 45) rfl))) (mvT hZ2 (hw _ (List.mem_of_getElem? (i := 46) rfl))) (mvT hZ2 (hw _ (List.mem_of_getElem? (i := 47) rfl))) (mvT hZ2 (hw _ (List.mem_of_getElem? (i := 48) rfl))) (by decide) (backOf (W := 1) (rm7 l Z a0 hw [] x1 c2 h2 n0 Z2) hZ2 (hw _ (List.mem_of_getElem? (i := 48) rfl)) (hw _ (List.mem_of_getElem? (i := 47) rfl)) (by decide) (by decide)) (g := (mkF m 8 #[.val (.ref x0), .val (.ref x1)] [(.ref c2), (.ref x1), (.ref x0)])) rfl (by rw [hml]; rfl) (argsL := [(.ref x1), (.ref c2)]) (rest := [(.ref x0)]) (lenOf pd_0 rfl) rfl (by show 2 * 0 + _ ≤ _; exact Nat.le_of_eq rfl) (hb hby d6_8) (fun _ _ => ⟨rfl, e2, (by decide : 2 + 0 ≤ _), (by decide : 92 + 0 ≤ _)⟩)
    dsimp only [Pt.U, Pt.locs, Pt.cells, Pt.slots] at X8 l8 y8 z8 st8 hQ8
    subst l8 y8 z8
    obtain ⟨rfl, N8q, e8⟩ := hQ8
    have N8 := Fr.app N00 N8q
    refine own_stepW (T' := T8) (g' := (mkF m 11 #[.val (.ref x0), .val (.ref x1)] [(.ref x1), (.ref x0)])) (fun _ k => st8 _ k) ?_
    obtain ⟨T9, X9, e9, st9⟩ := castY X8 hx hZ2 hown2 (hw _ (List.mem_of_getElem? (i := 49) rfl)) e8 (Ins.self q6) (g := (mkF m 11 #[.val (.ref x0), .val (.ref x1)] [(.ref x1), (.ref x0)])) rfl rfl (hb hby d6_11)
    refine own_stepW (T' := T9) (g' := (mkF m 14 #[.val (.ref x0), .val (.ref x1)] [(.ref x1), (.ref x0)])) (fun _ k => st9 _ k) ?_
    obtain ⟨T10, h10, X10, e10, W10, st10⟩ := putF X9 hx hZ2 hown2 (host := "") (Or.inl (hw _ (List.mem_of_getElem? (i := 51) rfl))) Via.refl e9 q3 q5 (Or.inr ⟨(hw _ (List.mem_of_getElem? (i := 52) rfl)), rfl, hnm⟩) (hw _ (List.mem_of_getElem? (i := 27) rfl)) (ty := (.array .byte)) (by decide) rfl rfl (g := (mkF m 14 #[.val (.ref x0), .val (.ref x1)] [(.ref x1), (.ref x0)])) rfl rfl (hb hby d6_14)
    have q11 : Fld Z h10 x0 "com/example/impatiens/impatiens/statespace/StateReader" "bytes" "[B" (.ref x1) := q3.same W10
    have q12 : Fld Z h10 x0 "com/example/impatiens/impatiens/statespace/StateReader" "position" "I" (.int (0 : Int32)) := q4.other W10 (Or.inr (slot_ne (Or.inl (hw _ (List.mem_of_getElem? (i := 63) rfl))) (Or.inr (hw _ (List.mem_of_getElem? (i := 52) rfl))) (by decide) (t := .int) (t' := (.array .byte)) (by decide) (by decide)))
    have q13 : Exa Z h10 x0 "com/example/impatiens/impatiens/statespace/StateReader" := q5.wr W10
    have q14 : Exa Z h10 x1 "[B" := q6.wr W10
    have q15 : Arv Z h10 x1 kB .byte (64 : Int32) (vs.map Value.int) (.int (0 : Int32)) := q7.other W10 (Ne.symm ne0)
    have Z10 : n0 ≤ h10.size := Nat.le_trans Z2 (Keep.of_wr W10).1
    have N10 := Fr.snoc X10 N8 g0
    have Kp10 : Keep h0 h10 [x0] := Kp2.wr W10 (Or.inl (List.mem_of_getElem? (i := 0) rfl))
    have hk10 := Nat.le_trans hk2 (Keep.of_wr W10).1
    refine own_stepW (T' := T10) (g' := (mkF m 17 #[.val (.ref x0), .val (.ref x1)] [])) (fun _ k => st10 _ k) ?_
    exact own_retW X10 Bd hS2 (by rw [e10]; exact hk10) (v := none) (fun _ => rfl) (fun fs q => X10.returnOut hx Bd.returns (hb hby d6_17) q) (show own_QRini Z x0 x1 kB vs h0 n0 _ _ _ from by rw [e10]; exact ⟨rfl, N10, Kp10, ⟨q13, q11, q12, q15, g0⟩⟩) (by decide) (by decide)
  obtain ⟨s₂, o, q1, q2, q3, v, L, q4, q5, q6⟩ := hB
  exact ⟨s₂, o, castTop (ef_6 m x0 x1) q1, q2, q3, v, L, q4, q5, q6⟩
set_option maxRecDepth 65536 in
set_option maxHeartbeats 40000000 in
theorem rm9 (l : Launch) (Z : State) (a0 : Array Value) (hw : ∀ d ∈ tables_1, d.before a0 Z = true) (ws : List Jvm.Cond) (x0 : Addr) (b : Addr) (kB : ClassId) (VS post : List Int32) (p0 v0 : Nat) (h0 : Heap) (n0 : Nat) (Z0 : n0 ≤ h0.size) (hb0 : v0 < 2 ^ 63) (hVS : VS.length ≤ 64) (hAt : VS.drop p0 = own_enc 8 v0 ++ post) (hRD0 : own_RD Z n0 h0 x0 b kB p0 VS) :
    MetFree l (⟨"com/example/impatiens/impatiens/statespace/StateReader", "readLong", "()J"⟩ : MethodName) (head1 (Jvm.Cond.code (⟨"com/example/impatiens/impatiens/statespace/StateReader", "readLong", "()J"⟩ : MethodName) prog_75_method_3_code 5 (some .long) :: ws) ({ frames := 0, cells := 0, slots := 0, locals := 0 } : Room)) (fun a U => a = #[(.ref x0)] ∧ Z.Warmed39 U.vm ∧ U.heap = h0) (fun _ _ _ _ _ => True) (fun _ U o U' => ∃ v L, o = .returned v ∧ own_QR Z (Int64.ofNat v0) x0 b kB (p0 + (own_enc 8 v0).length) VS h0 n0 v U'.heap L ∧ FrameEnd U o U' L ({ frames := 0, cells := 0, slots := 0, locals := 0 } : Room).cells ({ frames := 0, cells := 0, slots := 0, locals := 0 } : Room).slots) := by
  refine MetFree.of_bodySF (plainFor_of_name pn_9) hisR ?_
  intro p e s m args below meth c s₁ Bd hml0 hP hK
  obtain ⟨rfl, hZ, hh0⟩ := hP
  have hx := Bd.exec
  have hby := Bd.bytes
  have hml : c.maxLocals = 5 := hml0
  have hown : s.vm.findClass "com/example/impatiens/impatiens/statespace/StateReader" = some m.cls := findClass_of_methodNamed Bd.named
  have hnm := (name_of_methodNamed Bd.named Bd.method).1
  have X00 : Stand p l e ({ frames := 0, cells := 0, slots := 0, locals := 0 } : Room) s m #[(.ref x0)] below meth c s₁ [] 0 0 := Stand.of_body Bd
  have e00 : s₁.heap = h0 := by rw [← hh0, Bd.state]; rfl
  have N00 := Fr.nil n0
  have BL : ∀ (w acc sh po : Nat) (s4 : Slot) (T0 : State) (locs : List Loc) (hh : Heap), One s4 → w < 128 → acc < 2 ^ sh → sh ≤ 56 → acc + w * 2 ^ sh = v0 → VS.drop po = Int32.ofNat w :: post → po + 1 = p0 + (own_enc 8 v0).length → n0 ≤ hh.size → Keep h0 hh [x0] → own_RD Z n0 hh x0 b kB po VS → Stand p l e ({ frames := 0, cells := 0, slots := 0, locals := 0 } : Room) s m #[(.ref x0)] below meth c T0 locs 0 0 → T0.heap = hh → Fr n0 locs → own_Goes p e below s (own_QR Z (Int64.ofNat v0) x0 b kB (p0 + (own_enc 8 v0).length) VS h0 n0) ({ frames := 0, cells := 0, slots := 0, locals := 0 } : Room).cells ({ frames := 0, cells := 0, slots := 0, locals := 0 } : Room).slots T0 (mkF m 4 #[.val (.ref x0), .val (.long (Int64.ofNat acc)), .second, .val (.int (Int32.ofNat sh)), s4] []) := by
    intro w acc sh po s4 T0 locs hh hs4 hwb hacc hsh hval hdrop hpos Zh Kh hRD X0 e0 N0
    obtain ⟨hget, hplt, hdrop2⟩ := own_head hdrop
    have hand := own_and_last ⟨w, hwb⟩
    have oqr := hRD
    obtain ⟨Er, Fbr, Fpr, Vbr, grr⟩ := oqr
    have ner : x0 ≠ b := Er.neArv Vbr (hw _ (List.mem_of_getElem? (i := 27) rfl))
    refine own_step (T' := T0) (g' := (mkF m 5 #[.val (.ref x0), .val (.long (Int64.ofNat acc)), .second, .val (.int (Int32.ofNat sh)), s4] [(.ref x0)])) (fun _ k => XS.aloadN X0.here hx rfl (hb hby d9_4) rfl rfl k) ?_
    obtain ⟨T1, X1, e1, st1⟩ := getF X0 hx hZ hown (host := "") (Or.inl (hw _ (List.mem_of_getElem? (i := 62) rfl))) Via.refl e0 Fpr (g := (mkF m 5 #[.val (.ref x0), .val (.long (Int64.ofNat acc)), .second, .val (.int (Int32.ofNat sh)), s4] [(.ref x0)])) rfl rfl (hb hby d9_5)
    refine own_step (T' := T1) (g' := (mkF m 8 #[.val (.ref x0), .val (.long (Int64.ofNat acc)), .second, .val (.int (Int32.ofNat sh)), s4] [(.int (Int32.ofNat po))])) (fun _ k => st1 _ k) ?_
    refine own_step (T' := T1) (g' := (mkF m 9 #[.val (.ref x0), .val (.long (Int64.ofNat acc)), .second, .val (.int (Int32.ofNat sh)), s4] [(.ref x0), (.int (Int32.ofNat po))])) (fun _ k => XS.aloadN X1.here hx rfl (hb hby d9_8) rfl rfl k) ?_
    obtain ⟨T2, X2, e2, st2⟩ := getF X1 hx hZ hown (host := "") (Or.inl (hw _ (List.mem_of_getElem? (i := 51) rfl))) Via.refl e1 Fbr (g := (mkF m 9 #[.val (.ref x0), .val (.long (Int64.ofNat acc)), .second, .val (.int (Int32.ofNat sh)), s4] [(.ref x0), (.int (Int32.ofNat po))])) rfl rfl (hb hby d9_9)
    refine own_step (T' := T2) (g' := (mkF m 12 #[.val (.ref x0), .val (.long (Int64.ofNat acc)), .second, .val (.int (Int32.ofNat sh)), s4] [(.ref b), (.int (Int32.ofNat po))])) (fun _ k => st2 _ k) ?_
    have Vq3 := Vbr
    obtain ⟨cl3, Ar3, -, S3, M3, -, -⟩ := Vq3
    refine own_step (T' := T2) (g' := (mkF m 13 #[.val (.ref x0), .val (.long (Int64.ofNat acc)), .second, .val (.int (Int32.ofNat sh)), s4] [(.int (64 : Int32)), (.int (Int32.ofNat po))])) (fun _ k => X2.arraylength hx (by rw [e2]; exact Ar3.1) (State.isArrayOf_alike hZ.alike Ar3.2.1) (g := (mkF m 12 #[.val (.ref x0), .val (.long (Int64.ofNat acc)), .second, .val (.int (Int32.ofNat sh)), s4] [(.ref b), (.int (Int32.ofNat po))])) rfl rfl (hb hby d9_12) _ (by rw [len_of S3 M3]; exact k)) ?_
    have hc4 : ¬ ((Int32.ofNat po) = (64 : Int32)) := own_ne64 po (by omega)
    refine own_step (T' := T2) (g' := (mkF m 26 #[.val (.ref x0), .val (.long (Int64.ofNat acc)), .second, .val (.int (Int32.ofNat sh)), s4] [])) (fun _ k => XS.icmpYes X2.here hx rfl (pc0 := 13) (pc' := 26) rfl (hb hby d9_13) rfl (feq hc4).2 (by decide) (by decide) k) ?_
    refine own_step (T' := T2) (g' := (mkF m 27 #[.val (.ref x0), .val (.long (Int64.ofNat acc)), .second, .val (.int (Int32.ofNat sh)), s4] [(.ref x0)])) (fun _ k => XS.aloadN X2.here hx rfl (hb hby d9_26) rfl rfl k) ?_
    obtain ⟨T5, X5, e5, st5⟩ := getF X2 hx hZ hown (host := "") (Or.inl (hw _ (List.mem_of_getElem? (i := 51) rfl))) Via.refl e2 Fbr (g := (mkF m 27 #[.val (.ref x0), .val (.long (Int64.ofNat acc)), .second, .val (.int (Int32.ofNat sh)), s4] [(.ref x0)])) rfl rfl (hb hby d9_27)
    refine own_step (T' := T5) (g' := (mkF m 30 #[.val (.ref x0), .val (.long (Int64.ofNat acc)), .second, .val (.int (Int32.ofNat sh)), s4] [(.ref b)])) (fun _ k => st5 _ k) ?_
    refine own_step (T' := T5) (g' := (mkF m 31 #[.val (.ref x0), .val (.long (Int64.ofNat acc)), .second, .val (.int (Int32.ofNat sh)), s4] [(.ref x0), (.ref b)])) (fun _ k => XS.aloadN X5.here hx rfl (hb hby d9_30) rfl rfl k) ?_
    refine own_step (T' := T5) (g' := (mkF m 32 #[.val (.ref x0), .val (.long (Int64.ofNat acc)), .second, .val (.int (Int32.ofNat sh)), s4] [(.ref x0), (.ref x0), (.ref b)])) (fun _ k => XS.dup X5.here hx rfl (hb hby d9_31) rfl rfl k) ?_
    obtain ⟨T6, X6, e6, st6⟩ := getF X5 hx hZ hown (host := "") (Or.inl (hw _ (List.mem_of_getElem? (i := 62) rfl))) Via.refl e5 Fpr (g := (mkF m 32 #[.val (.ref x0), .val (.long (Int64.ofNat acc)), .second, .val (.int (Int32.ofNat sh)), s4] [(.ref x0), (.ref x0), (.ref b)])) rfl rfl (hb hby d9_32)
    refine own_step (T' := T6) (g' := (mkF m 35 #[.val (.ref x0), .val (.long (Int64.ofNat acc)), .second, .val (.int (Int32.ofNat sh)), s4] [(.int (Int32.ofNat po)), (.ref x0), (.ref b)])) (fun _ k => st6 _ k) ?_
    refine own_step (T' := T6) (g' := (mkF m 36 #[.val (.ref x0), .val (.long (Int64.ofNat acc)), .second, .val (.int (Int32.ofNat sh)), s4] [(.int (Int32.ofNat po)), (.ref x0), (.int (Int32.ofNat po)), (.ref b)])) (fun _ k => XS.dupX1 X6.here hx rfl (hb hby d9_35) rfl rfl rfl k) ?_
    refine own_step (T' := T6) (g' := (mkF m 37 #[.val (.ref x0), .val (.long (Int64.ofNat acc)), .second, .val (.int (Int32.ofNat sh)), s4] [(.int (1 : Int32)), (.int (Int32.ofNat po)), (.ref x0), (.int (Int32.ofNat po)), (.ref b)])) (fun _ k => XS.iconst X6.here hx rfl (hb hby d9_36) k) ?_
    refine own_step (T' := T6) (g' := (mkF m 38 #[.val (.ref x0), .val (.long (Int64.ofNat acc)), .second, .val (.int (Int32.ofNat sh)), s4] [(.int ((Int32.ofNat po) + (1 : Int32))), (.ref x0), (.int (Int32.ofNat po)), (.ref b)])) (fun _ k => XS.iadd X6.here hx rfl (hb hby d9_37) rfl k) ?_
    obtain ⟨T7, h7, X7, e7, W7, st7⟩ := putF X6 hx hZ hown (host := "") (Or.inl (hw _ (List.mem_of_getElem? (i := 62) rfl))) Via.refl e6 Fpr Er (Or.inl (hw _ (List.mem_of_getElem? (i := 63) rfl))) (hw _ (List.mem_of_getElem? (i := 27) rfl)) (ty := .int) (by decide) rfl rfl (g := (mkF m 38 #[.val (.ref x0), .val (.long (Int64.ofNat acc)), .second, .val (.int (Int32.ofNat sh)), s4] [(.int ((Int32.ofNat po) + (1 : Int32))), (.ref x0), (.int (Int32.ofNat po)), (.ref b)])) rfl rfl (hb hby d9_38)
    have q8 : Fld Z h7 x0 "com/example/impatiens/impatiens/statespace/StateReader" "bytes" "[B" (.ref b) := Fbr.other W7 (Or.inr (slot_ne (Or.inr (hw _ (List.mem_of_getElem? (i := 52) rfl))) (Or.inl (hw _ (List.mem_of_getElem? (i := 63) rfl))) (by decide) (t := (.array .byte)) (t' := .int) (by decide) (by decide)))
    have q9 : Fld Z h7 x0 "com/example/impatiens/impatiens/statespace/StateReader" "position" "I" (.int ((Int32.ofNat po) + (1 : Int32))) := Fpr.same W7
    have q10 : Exa Z h7 x0 "com/example/impatiens/impatiens/statespace/StateReader" := Er.wr W7
    have q11 : Arv Z h7 b kB .byte (64 : Int32) (VS.map Value.int) (.int (0 : Int32)) := Vbr.other W7 (Ne.symm ner)
    have Z7 : n0 ≤ h7.size := Nat.le_trans Zh (Keep.of_wr W7).1
    have N7 := Fr.snoc X7 N0 grr
    have Kp7 : Keep h0 h7 [x0] := Kh.wr W7 (Or.inl (List.mem_of_getElem? (i := 0) rfl))
    refine own_step (T' := T7) (g' := (mkF m 41 #[.val (.ref x0), .val (.long (Int64.ofNat acc)), .second, .val (.int (Int32.ofNat sh)), s4] [(.int (Int32.ofNat po)), (.ref b)])) (fun _ k => st7 _ k) ?_
    obtain ⟨cl12, Ar12, hin12, hat12⟩ := own_get q11 (j := (Int32.ofNat po)) (own_inb po 64 (by omega) (by decide)) (v := (.int (Int32.ofNat w))) (own_at VS po _ (by omega) hget)
    refine own_step (T' := T7) (g' := (mkF m 42 #[.val (.ref x0), .val (.long (Int64.ofNat acc)), .second, .val (.int (Int32.ofNat sh)), s4] [(.int (Int32.ofNat w))])) (fun _ k => X7.baloadBytes hx (j := (Int32.ofNat po)) (v := (.int (Int32.ofNat w))) (by rw [e7]; exact Ar12.1) (State.isArrayOf_alike hZ.alike Ar12.2.1) Ar12.2.2 hin12 hat12 (g := (mkF m 41 #[.val (.ref x0), .val (.long (Int64.ofNat acc)), .second, .val (.int (Int32.ofNat sh)), s4] [(.int (Int32.ofNat po)), (.ref b)])) rfl rfl (hb hby d9_41) _ k) ?_
    refine own_step (T' := T7) (g' := (mkF m 44 #[.val (.ref x0), .val (.long (Int64.ofNat acc)), .second, .val (.int (Int32.ofNat sh)), .val (.int (Int32.ofNat w))] [])) (fun _ k => XS.istore X7.here hx rfl (hb hby d9_42) rfl (l' := #[.val (.ref x0), .val (.long (Int64.ofNat acc)), .second, .val (.int (Int32.ofNat sh)), .val (.int (Int32.ofNat w))]) (own_os hs4) k) ?_
    refine own_step (T' := T7) (g' := (mkF m 45 #[.val (.ref x0), .val (.long (Int64.ofNat acc)), .second, .val (.int (Int32.ofNat sh)), .val (.int (Int32.ofNat w))] [(.long (Int64.ofNat acc))])) (fun _ k => XS.lloadN X7.here hx rfl (hb hby d9_44) rfl k) ?_
    refine own_step (T' := T7) (g' := (mkF m 47 #[.val (.ref x0), .val (.long (Int64.ofNat acc)), .second, .val (.int (Int32.ofNat sh)), .val (.int (Int32.ofNat w))] [(.int (Int32.ofNat w)), (.long (Int64.ofNat acc))])) (fun _ k => XS.iload X7.here hx rfl (hb hby d9_45) rfl k) ?_
    refine own_step (T' := T7) (g' := (mkF m 49 #[.val (.ref x0), .val (.long (Int64.ofNat acc)), .second, .val (.int (Int32.ofNat sh)), .val (.int (Int32.ofNat w))] [(.int (127 : Int32)), (.int (Int32.ofNat w)), (.long (Int64.ofNat acc))])) (fun _ k => XS.bipush X7.here hx rfl (hb hby d9_47) k) ?_
    refine own_step (T' := T7) (g' := (mkF m 50 #[.val (.ref x0), .val (.long (Int64.ofNat acc)), .second, .val (.int (Int32.ofNat sh)), .val (.int (Int32.ofNat w))] [(.int ((Int32.ofNat w) &&& (127 : Int32))), (.long (Int64.ofNat acc))])) (fun _ k => XS.iand X7.here hx rfl (hb hby d9_49) rfl k) ?_
    refine own_step (T' := T7) (g' := (mkF m 51 #[.val (.ref x0), .val (.long (Int64.ofNat acc)), .second, .val (.int (Int32.ofNat sh)), .val (.int (Int32.ofNat w))] [(.long (((Int32.ofNat w) &&& (127 : Int32)).toInt64)), (.long (Int64.ofNat acc))])) (fun _ k => XS.i2l X7.here hx rfl (hb hby d9_50) rfl k) ?_
    refine own_step (T' := T7) (g' := (mkF m 52 #[.val (.ref x0), .val (.long (Int64.ofNat acc)), .second, .val (.int (Int32.ofNat sh)), .val (.int (Int32.ofNat w))] [(.int (Int32.ofNat sh)), (.long (((Int32.ofNat w) &&& (127 : Int32)).toInt64)), (.long (Int64.ofNat acc))])) (fun _ k => XS.iloadN X7.here hx rfl (hb hby d9_51) rfl k) ?_
    refine own_step (T' := T7) (g' := (mkF m 53 #[.val (.ref x0), .val (.long (Int64.ofNat acc)), .second, .val (.int (Int32.ofNat sh)), .val (.int (Int32.ofNat w))] [(.long ((((Int32.ofNat w) &&& (127 : Int32)).toInt64) <<< ((Int32.ofNat sh) &&& 0x3f).toInt64)), (.long (Int64.ofNat acc))])) (fun _ k => XS.lshl X7.here hx rfl (hb hby d9_52) rfl k) ?_
    refine own_step (T' := T7) (g' := (mkF m 54 #[.val (.ref x0), .val (.long (Int64.ofNat acc)), .second, .val (.int (Int32.ofNat sh)), .val (.int (Int32.ofNat w))] [(.long ((Int64.ofNat acc) ||| ((((Int32.ofNat w) &&& (127 : Int32)).toInt64) <<< ((Int32.ofNat sh) &&& 0x3f).toInt64)))])) (fun _ k => XS.lor X7.here hx rfl (hb hby d9_53) rfl k) ?_
    refine own_step (T' := T7) (g' := (mkF m 55 #[.val (.ref x0), .val (.long ((Int64.ofNat acc) ||| ((((Int32.ofNat w) &&& (127 : Int32)).toInt64) <<< ((Int32.ofNat sh) &&& 0x3f).toInt64))), .second, .val (.int (Int32.ofNat sh)), .val (.int (Int32.ofNat w))] [])) (fun _ k => XS.lstoreN X7.here hx rfl (hb hby d9_54) rfl (l' := #[.val (.ref x0), .val (.long ((Int64.ofNat acc) ||| ((((Int32.ofNat w) &&& (127 : Int32)).toInt64) <<< ((Int32.ofNat sh) &&& 0x3f).toInt64))), .second, .val (.int (Int32.ofNat sh)), .val (.int (Int32.ofNat w))]) rfl k) ?_
    have hr13 : ((Int64.ofNat acc) ||| ((((Int32.ofNat w) &&& (127 : Int32)).toInt64) <<< ((Int32.ofNat sh) &&& 0x3f).toInt64)) = (Int64.ofNat (acc + w * 2 ^ sh)) := own_put acc w sh (by omega) hacc (by omega) hand
    rw [hr13]
    refine own_step (T' := T7) (g' := (mkF m 58 #[.val (.ref x0), .val (.long (Int64.ofNat (acc + w * 2 ^ sh))), .second, .val (.int ((Int32.ofNat sh) + (7 : Int32))), .val (.int (Int32.ofNat w))] [])) (fun _ k => XS.iinc X7.here hx rfl (hb hby d9_55) rfl (l' := #[.val (.ref x0), .val (.long (Int64.ofNat (acc + w * 2 ^ sh))), .second, .val (.int ((Int32.ofNat sh) + (7 : Int32))), .val (.int (Int32.ofNat w))]) rfl k) ?_
    have hr14 : ((Int32.ofNat sh) + (7 : Int32)) = (Int32.ofNat (sh + 7)) := own_add7 sh
    rw [hr14]
    refine own_step (T' := T7) (g' := (mkF m 60 #[.val (.ref x0), .val (.long (Int64.ofNat (acc + w * 2 ^ sh))), .second, .val (.int (Int32.ofNat (sh + 7))), .val (.int (Int32.ofNat w))] [(.int (Int32.ofNat w))])) (fun _ k => XS.iload X7.here hx rfl (hb hby d9_58) rfl k) ?_
    have q15 : Fld Z h7 x0 "com/example/impatiens/impatiens/statespace/StateReader" "position" "I" (.int (Int32.ofNat (po + 1))) := by rw [← own_ofNat_succ]; exact q9
    have hc16 : ¬ ((Int32.ofNat w) < (0 : Int32)) := own_neg_last ⟨w, hwb⟩
    refine own_step (T' := T7) (g' := (mkF m 63 #[.val (.ref x0), .val (.long (Int64.ofNat (acc + w * 2 ^ sh))), .second, .val (.int (Int32.ofNat (sh + 7))), .val (.int (Int32.ofNat w))] [])) (fun _ k => XS.ifNo X7.here hx rfl (hb hby d9_60) rfl ((if0 _ _).trans (flt hc16).1) k) ?_
    refine own_step (T' := T7) (g' := (mkF m 64 #[.val (.ref x0), .val (.long (Int64.ofNat (acc + w * 2 ^ sh))), .second, .val (.int (Int32.ofNat (sh + 7))), .val (.int (Int32.ofNat w))] [(.long (Int64.ofNat (acc + w * 2 ^ sh)))])) (fun _ k => XS.lloadN X7.here hx rfl (hb hby d9_63) rfl k) ?_
    exact own_ret X7 Bd (v := some (.long (Int64.ofNat (acc + w * 2 ^ sh)))) (fun q => by rw [Bd.returns] at q; cases q) (fun fs q => own_retL X7 hx Bd.returns (hb hby d9_64) q) (show own_QR Z (Int64.ofNat v0) x0 b kB (p0 + (own_enc 8 v0).length) VS h0 n0 _ _ _ from by rw [e7, ← hpos]; exact ⟨by rw [← hval], N7, Kp7, ⟨q10, q8, q15, q11, grr⟩⟩) (by decide) (by decide)
  have B4 : ∀ (k w acc sh po : Nat) (s4 : Slot) (T0 : State) (locs : List Loc) (hh : Heap), One s4 → w < 128 ^ (k + 1) → acc < 2 ^ sh → sh + 7 * k = 56 → acc + w * 2 ^ sh = v0 → VS.drop po = own_enc k w ++ post → po + (own_enc k w).length = p0 + (own_enc 8 v0).length → n0 ≤ hh.size → Keep h0 hh [x0] → own_RD Z n0 hh x0 b kB po VS → Stand p l e ({ frames := 0, cells := 0, slots := 0, locals := 0 } : Room) s m #[(.ref x0)] below meth c T0 locs 0 0 → T0.heap = hh → Fr n0 locs → own_Goes p e below s (own_QR Z (Int64.ofNat v0) x0 b kB (p0 + (own_enc 8 v0).length) VS h0 n0) ({ frames := 0, cells := 0, slots := 0, locals := 0 } : Room).cells ({ frames := 0, cells := 0, slots := 0, locals := 0 } : Room).slots T0 (mkF m 4 #[.val (.ref x0), .val (.long (Int64.ofNat acc)), .second, .val (.int (Int32.ofNat sh)), s4] []) := by
    intro k
    induction k with
    | zero =>
      intro w acc sh po s4 T0 locs hh hs4 hwb hacc hsh hval hdrop hpos Zh Kh hRD X0 e0 N0
      exact BL w acc sh po s4 T0 locs hh hs4 (by simpa using hwb) hacc (by omega) hval hdrop hpos Zh Kh hRD X0 e0 N0
    | succ k ih =>
      intro w acc sh po s4 T0 locs hh hs4 hwb hacc hsh hval hdrop hpos Zh Kh hRD X0 e0 N0
      by_cases hc0 : w < 128
      · rw [own_enc_small k w hc0] at hdrop hpos
        exact BL w acc sh po s4 T0 locs hh hs4 hc0 hacc (by omega) hval hdrop hpos Zh Kh hRD X0 e0 N0
      · rw [own_enc_more k w hc0] at hdrop
        obtain ⟨hget, hplt, hdrop2⟩ := own_head hdrop
        have hand := own_and_cont ⟨w % 128, Nat.mod_lt _ (by decide)⟩
        have hm128 : w % 128 < 128 := Nat.mod_lt _ (by decide)
        have oqr := hRD
        obtain ⟨Er, Fbr, Fpr, Vbr, grr⟩ := oqr
        have ner : x0 ≠ b := Er.neArv Vbr (hw _ (List.mem_of_getElem? (i := 27) rfl))
        refine own_step (T' := T0) (g' := (mkF m 5 #[.val (.ref x0), .val (.long (Int64.ofNat acc)), .second, .val (.int (Int32.ofNat sh)), s4] [(.ref x0)])) (fun _ k => XS.aloadN X0.here hx rfl (hb hby d9_4) rfl rfl k) ?_
        obtain ⟨T1, X1, e1, st1⟩ := getF X0 hx hZ hown (host := "") (Or.inl (hw _ (List.mem_of_getElem? (i := 62) rfl))) Via.refl e0 Fpr (g := (mkF m 5 #[.val (.ref x0), .val (.long (Int64.ofNat acc)), .second, .val (.int (Int32.ofNat sh)), s4] [(.ref x0)])) rfl rfl (hb hby d9_5)
        refine own_step (T' := T1) (g' := (mkF m 8 #[.val (.ref x0), .val (.long (Int64.ofNat acc)), .second, .val (.int (Int32.ofNat sh)), s4] [(.int (Int32.ofNat po))])) (fun _ k => st1 _ k) ?_
        refine own_step (T' := T1) (g' := (mkF m 9 #[.val (.ref x0), .val (.long (Int64.ofNat acc)), .second, .val (.int (Int32.ofNat sh)), s4] [(.ref x0), (.int (Int32.ofNat po))])) (fun _ k => XS.aloadN X1.here hx rfl (hb hby d9_8) rfl rfl k) ?_
        obtain ⟨T2, X2, e2, st2⟩ := getF X1 hx hZ hown (host := "") (Or.inl (hw _ (List.mem_of_getElem? (i := 51) rfl))) Via.refl e1 Fbr (g := (mkF m 9 #[.val (.ref x0), .val (.long (Int64.ofNat acc)), .second, .val (.int (Int32.ofNat sh)), s4] [(.ref x0), (.int (Int32.ofNat po))])) rfl rfl (hb hby d9_9)
        refine own_step (T' := T2) (g' := (mkF m 12 #[.val (.ref x0), .val (.long (Int64.ofNat acc)), .second, .val (.int (Int32.ofNat sh)), s4] [(.ref b), (.int (Int32.ofNat po))])) (fun _ k => st2 _ k) ?_
        have Vq3 := Vbr
        obtain ⟨cl3, Ar3, -, S3, M3, -, -⟩ := Vq3
        refine own_step (T' := T2) (g' := (mkF m 13 #[.val (.ref x0), .val (.long (Int64.ofNat acc)), .second, .val (.int (Int32.ofNat sh)), s4] [(.int (64 : Int32)), (.int (Int32.ofNat po))])) (fun _ k => X2.arraylength hx (by rw [e2]; exact Ar3.1) (State.isArrayOf_alike hZ.alike Ar3.2.1) (g := (mkF m 12 #[.val (.ref x0), .val (.long (Int64.ofNat acc)), .second, .val (.int (Int32.ofNat sh)), s4] [(.ref b), (.int (Int32.ofNat po))])) rfl rfl (hb hby d9_12) _ (by rw [len_of S3 M3]; exact k)) ?_
        have hc4 : ¬ ((Int32.ofNat po) = (64 : Int32)) := own_ne64 po (by omega)
        refine own_step (T' := T2) (g' := (mkF m 26 #[.val (.ref x0), .val (.long (Int64.ofNat acc)), .second, .val (.int (Int32.ofNat sh)), s4] [])) (fun _ k => XS.icmpYes X2.here hx rfl (pc0 := 13) (pc' := 26) rfl (hb hby d9_13) rfl (feq hc4).2 (by decide) (by decide) k) ?_
        refine own_step (T' := T2) (g' := (mkF m 27 #[.val (.ref x0), .val (.long (Int64.ofNat acc)), .second, .val (.int (Int32.ofNat sh)), s4] [(.ref x0)])) (fun _ k => XS.aloadN X2.here hx rfl (hb hby d9_26) rfl rfl k) ?_
        obtain ⟨T5, X5, e5, st5⟩ := getF X2 hx hZ hown (host := "") (Or.inl (hw _ (List.mem_of_getElem? (i := 51) rfl))) Via.refl e2 Fbr (g := (mkF m 27 #[.val (.ref x0), .val (.long (Int64.ofNat acc)), .second, .val (.int (Int32.ofNat sh)), s4] [(.ref x0)])) rfl rfl (hb hby d9_27)
        refine own_step (T' := T5) (g' := (mkF m 30 #[.val (.ref x0), .val (.long (Int64.ofNat acc)), .second, .val (.int (Int32.ofNat sh)), s4] [(.ref b)])) (fun _ k => st5 _ k) ?_
        refine own_step (T' := T5) (g' := (mkF m 31 #[.val (.ref x0), .val (.long (Int64.ofNat acc)), .second, .val (.int (Int32.ofNat sh)), s4] [(.ref x0), (.ref b)])) (fun _ k => XS.aloadN X5.here hx rfl (hb hby d9_30) rfl rfl k) ?_
        refine own_step (T' := T5) (g' := (mkF m 32 #[.val (.ref x0), .val (.long (Int64.ofNat acc)), .second, .val (.int (Int32.ofNat sh)), s4] [(.ref x0), (.ref x0), (.ref b)])) (fun _ k => XS.dup X5.here hx rfl (hb hby d9_31) rfl rfl k) ?_
        obtain ⟨T6, X6, e6, st6⟩ := getF X5 hx hZ hown (host := "") (Or.inl (hw _ (List.mem_of_getElem? (i := 62) rfl))) Via.refl e5 Fpr (g := (mkF m 32 #[.val (.ref x0), .val (.long (Int64.ofNat acc)), .second, .val (.int (Int32.ofNat sh)), s4] [(.ref x0), (.ref x0), (.ref b)])) rfl rfl (hb hby d9_32)
        refine own_step (T' := T6) (g' := (mkF m 35 #[.val (.ref x0), .val (.long (Int64.ofNat acc)), .second, .val (.int (Int32.ofNat sh)), s4] [(.int (Int32.ofNat po)), (.ref x0), (.ref b)])) (fun _ k => st6 _ k) ?_
        refine own_step (T' := T6) (g' := (mkF m 36 #[.val (.ref x0), .val (.long (Int64.ofNat acc)), .second, .val (.int (Int32.ofNat sh)), s4] [(.int (Int32.ofNat po)), (.ref x0), (.int (Int32.ofNat po)), (.ref b)])) (fun _ k => XS.dupX1 X6.here hx rfl (hb hby d9_35) rfl rfl rfl k) ?_
        refine own_step (T' := T6) (g' := (mkF m 37 #[.val (.ref x0), .val (.long (Int64.ofNat acc)), .second, .val (.int (Int32.ofNat sh)), s4] [(.int (1 : Int32)), (.int (Int32.ofNat po)), (.ref x0), (.int (Int32.ofNat po)), (.ref b)])) (fun _ k => XS.iconst X6.here hx rfl (hb hby d9_36) k) ?_
        refine own_step (T' := T6) (g' := (mkF m 38 #[.val (.ref x0), .val (.long (Int64.ofNat acc)), .second, .val (.int (Int32.ofNat sh)), s4] [(.int ((Int32.ofNat po) + (1 : Int32))), (.ref x0), (.int (Int32.ofNat po)), (.ref b)])) (fun _ k => XS.iadd X6.here hx rfl (hb hby d9_37) rfl k) ?_
        obtain ⟨T7, h7, X7, e7, W7, st7⟩ := putF X6 hx hZ hown (host := "") (Or.inl (hw _ (List.mem_of_getElem? (i := 62) rfl))) Via.refl e6 Fpr Er (Or.inl (hw _ (List.mem_of_getElem? (i := 63) rfl))) (hw _ (List.mem_of_getElem? (i := 27) rfl)) (ty := .int) (by decide) rfl rfl (g := (mkF m 38 #[.val (.ref x0), .val (.long (Int64.ofNat acc)), .second, .val (.int (Int32.ofNat sh)), s4] [(.int ((Int32.ofNat po) + (1 : Int32))), (.ref x0), (.int (Int32.ofNat po)), (.ref b)])) rfl rfl (hb hby d9_38)
        have q8 : Fld Z h7 x0 "com/example/impatiens/impatiens/statespace/StateReader" "bytes" "[B" (.ref b) := Fbr.other W7 (Or.inr (slot_ne (Or.inr (hw _ (List.mem_of_getElem? (i := 52) rfl))) (Or.inl (hw _ (List.mem_of_getElem? (i := 63) rfl))) (by decide) (t := (.array .byte)) (t' := .int) (by decide) (by decide)))
        have q9 : Fld Z h7 x0 "com/example/impatiens/impatiens/statespace/StateReader" "position" "I" (.int ((Int32.ofNat po) + (1 : Int32))) := Fpr.same W7
        have q10 : Exa Z h7 x0 "com/example/impatiens/impatiens/statespace/StateReader" := Er.wr W7
        have q11 : Arv Z h7 b kB .byte (64 : Int32) (VS.map Value.int) (.int (0 : Int32)) := Vbr.other W7 (Ne.symm ner)
        have Z7 : n0 ≤ h7.size := Nat.le_trans Zh (Keep.of_wr W7).1
        have N7 := Fr.snoc X7 N0 grr
        have Kp7 : Keep h0 h7 [x0] := Kh.wr W7 (Or.inl (List.mem_of_getElem? (i := 0) rfl))
        refine own_step (T' := T7) (g' := (mkF m 41 #[.val (.ref x0), .val (.long (Int64.ofNat acc)), .second, .val (.int (Int32.ofNat sh)), s4] [(.int (Int32.ofNat po)), (.ref b)])) (fun _ k => st7 _ k) ?_
        obtain ⟨cl12, Ar12, hin12, hat12⟩ := own_get q11 (j := (Int32.ofNat po)) (own_inb po 64 (by omega) (by decide)) (v := (.int (Int32.ofInt ((w % 128 : Nat) - 128 : Int)))) (own_at VS po _ (by omega) hget)
        refine own_step (T' := T7) (g' := (mkF m 42 #[.val (.ref x0), .val (.long (Int64.ofNat acc)), .second, .val (.int (Int32.ofNat sh)), s4] [(.int (Int32.ofInt ((w % 128 : Nat) - 128 : Int)))])) (fun _ k => X7.baloadBytes hx (j := (Int32.ofNat po)) (v := (.int (Int32.ofInt ((w % 128 : Nat) - 128 : Int)))) (by rw [e7]; exact Ar12.1) (State.isArrayOf_alike hZ.alike Ar12.2.1) Ar12.2.2 hin12 hat12 (g := (mkF m 41 #[.val (.ref x0), .val (.long (Int64.ofNat acc)), .second, .val (.int (Int32.ofNat sh)), s4] [(.int (Int32.ofNat po)), (.ref b)])) rfl rfl (hb hby d9_41) _ k) ?_
        refine own_step (T' := T7) (g' := (mkF m 44 #[.val (.ref x0), .val (.long (Int64.ofNat acc)), .second, .val (.int (Int32.ofNat sh)), .val (.int (Int32.ofInt ((w % 128 : Nat) - 128 : Int)))] [])) (fun _ k => XS.istore X7.here hx rfl (hb hby d9_42) rfl (l' := #[.val (.ref x0), .val (.long (Int64.ofNat acc)), .second, .val (.int (Int32.ofNat sh)), .val (.int (Int32.ofInt ((w % 128 : Nat) - 128 : Int)))]) (own_os hs4) k) ?_
        refine own_step (T' := T7) (g' := (mkF m 45 #[.val (.ref x0), .val (.long (Int64.ofNat acc)), .second, .val (.int (Int32.ofNat sh)), .val (.int (Int32.ofInt ((w % 128 : Nat) - 128 : Int)))] [(.long (Int64.ofNat acc))])) (fun _ k => XS.lloadN X7.here hx rfl (hb hby d9_44) rfl k) ?_
        refine own_step (T' := T7) (g' := (mkF m 47 #[.val (.ref x0), .val (.long (Int64.ofNat acc)), .second, .val (.int (Int32.ofNat sh)), .val (.int (Int32.ofInt ((w % 128 : Nat) - 128 : Int)))] [(.int (Int32.ofInt ((w % 128 : Nat) - 128 : Int))), (.long (Int64.ofNat acc))])) (fun _ k => XS.iload X7.here hx rfl (hb hby d9_45) rfl k) ?_
        refine own_step (T' := T7) (g' := (mkF m 49 #[.val (.ref x0), .val (.long (Int64.ofNat acc)), .second, .val (.int (Int32.ofNat sh)), .val (.int (Int32.ofInt ((w % 128 : Nat) - 128 : Int)))] [(.int (127 : Int32)), (.int (Int32.ofInt ((w % 128 : Nat) - 128 : Int))), (.long (Int64.ofNat acc))])) (fun _ k => XS.bipush X7.here hx rfl (hb hby d9_47) k) ?_
        refine own_step (T' := T7) (g' := (mkF m 50 #[.val (.ref x0), .val (.long (Int64.ofNat acc)), .second, .val (.int (Int32.ofNat sh)), .val (.int (Int32.ofInt ((w % 128 : Nat) - 128 : Int)))] [(.int ((Int32.ofInt ((w % 128 : Nat) - 128 : Int)) &&& (127 : Int32))), (.long (Int64.ofNat acc))])) (fun _ k => XS.iand X7.here hx rfl (hb hby d9_49) rfl k) ?_
        refine own_step (T' := T7) (g' := (mkF m 51 #[.val (.ref x0), .val (.long (Int64.ofNat acc)), .second, .val (.int (Int32.ofNat sh)), .val (.int (Int32.ofInt ((w % 128 : Nat) - 128 : Int)))] [(.long (((Int32.ofInt ((w % 128 : Nat) - 128 : Int)) &&& (127 : Int32)).toInt64)), (.long (Int64.ofNat acc))])) (fun _ k => XS.i2l X7.here hx rfl (hb hby d9_50) rfl k) ?_
        refine own_step (T' := T7) (g' := (mkF m 52 #[.val (.ref x0), .val (.long (Int64.ofNat acc)), .second, .val (.int (Int32.ofNat sh)), .val (.int (Int32.ofInt ((w % 128 : Nat) - 128 : Int)))] [(.int (Int32.ofNat sh)), (.long (((Int32.ofInt ((w % 128 : Nat) - 128 : Int)) &&& (127 : Int32)).toInt64)), (.long (Int64.ofNat acc))])) (fun _ k => XS.iloadN X7.here hx rfl (hb hby d9_51) rfl k) ?_
        refine own_step (T' := T7) (g' := (mkF m 53 #[.val (.ref x0), .val (.long (Int64.ofNat acc)), .second, .val (.int (Int32.ofNat sh)), .val (.int (Int32.ofInt ((w % 128 : Nat) - 128 : Int)))] [(.long ((((Int32.ofInt ((w % 128 : Nat) - 128 : Int)) &&& (127 : Int32)).toInt64) <<< ((Int32.ofNat sh) &&& 0x3f).toInt64)), (.long (Int64.ofNat acc))])) (fun _ k => XS.lshl X7.here hx rfl (hb hby d9_52) rfl k) ?_
        refine own_step (T' := T7) (g' := (mkF m 54 #[.val (.ref x0), .val (.long (Int64.ofNat acc)), .second, .val (.int (Int32.ofNat sh)), .val (.int (Int32.ofInt ((w % 128 : Nat) - 128 : Int)))] [(.long ((Int64.ofNat acc) ||| ((((Int32.ofInt ((w % 128 : Nat) - 128 : Int)) &&& (127 : Int32)).toInt64) <<< ((Int32.ofNat sh) &&& 0x3f).toInt64)))])) (fun _ k => XS.lor X7.here hx rfl (hb hby d9_53) rfl k) ?_
        refine own_step (T' := T7) (g' := (mkF m 55 #[.val (.ref x0), .val (.long ((Int64.ofNat acc) ||| ((((Int32.ofInt ((w % 128 : Nat) - 128 : Int)) &&& (127 : Int32)).toInt64) <<< ((Int32.ofNat sh) &&& 0x3f).toInt64))), .second, .val (.int (Int32.ofNat sh)), .val (.int (Int32.ofInt ((w % 128 : Nat) - 128 : Int)))] [])) (fun _ k => XS.lstoreN X7.here hx rfl (hb hby d9_54) rfl (l' := #[.val (.ref x0), .val (.long ((Int64.ofNat acc) ||| ((((Int32.ofInt ((w % 128 : Nat) - 128 : Int)) &&& (127 : Int32)).toInt64) <<< ((Int32.ofNat sh) &&& 0x3f).toInt64))), .second, .val (.int (Int32.ofNat sh)), .val (.int (Int32.ofInt ((w % 128 : Nat) - 128 : Int)))]) rfl k) ?_
        have hr13 : ((Int64.ofNat acc) ||| ((((Int32.ofInt ((w % 128 : Nat) - 128 : Int)) &&& (127 : Int32)).toInt64) <<< ((Int32.ofNat sh) &&& 0x3f).toInt64)) = (Int64.ofNat (acc + (w % 128) * 2 ^ sh)) := own_put acc (w % 128) sh (by omega) hacc (by omega) hand
        rw [hr13]
        refine own_step (T' := T7) (g' := (mkF m 58 #[.val (.ref x0), .val (.long (Int64.ofNat (acc + (w % 128) * 2 ^ sh))), .second, .val (.int ((Int32.ofNat sh) + (7 : Int32))), .val (.int (Int32.ofInt ((w % 128 : Nat) - 128 : Int)))] [])) (fun _ k => XS.iinc X7.here hx rfl (hb hby d9_55) rfl (l' := #[.val (.ref x0), .val (.long (Int64.ofNat (acc + (w % 128) * 2 ^ sh))), .second, .val (.int ((Int32.ofNat sh) + (7 : Int32))), .val (.int (Int32.ofInt ((w % 128 : Nat) - 128 : Int)))]) rfl k) ?_
        have hr14 : ((Int32.ofNat sh) + (7 : Int32)) = (Int32.ofNat (sh + 7)) := own_add7 sh
        rw [hr14]
        refine own_step (T' := T7) (g' := (mkF m 60 #[.val (.ref x0), .val (.long (Int64.ofNat (acc + (w % 128) * 2 ^ sh))), .second, .val (.int (Int32.ofNat (sh + 7))), .val (.int (Int32.ofInt ((w % 128 : Nat) - 128 : Int)))] [(.int (Int32.ofInt ((w % 128 : Nat) - 128 : Int)))])) (fun _ k => XS.iload X7.here hx rfl (hb hby d9_58) rfl k) ?_
        have q15 : Fld Z h7 x0 "com/example/impatiens/impatiens/statespace/StateReader" "position" "I" (.int (Int32.ofNat (po + 1))) := by rw [← own_ofNat_succ]; exact q9
        have hc16 : (Int32.ofInt ((w % 128 : Nat) - 128 : Int)) < (0 : Int32) := own_neg_cont ⟨w % 128, Nat.mod_lt _ (by decide)⟩
        refine own_step (T' := T7) (g' := (mkF m 4 #[.val (.ref x0), .val (.long (Int64.ofNat (acc + (w % 128) * 2 ^ sh))), .second, .val (.int (Int32.ofNat (sh + 7))), .val (.int (Int32.ofInt ((w % 128 : Nat) - 128 : Int)))] [])) (fun _ k => XS.ifYes X7.here hx rfl (pc0 := 60) (pc' := 4) rfl (hb hby d9_60) rfl ((if0 _ _).trans (tlt hc16).1) (by decide) (by decide) k) ?_
        exact ih (w / 128) (acc + w % 128 * 2 ^ sh) (sh + 7) (po + 1) _ T7 _ h7 (One.val rfl) (by rw [Nat.pow_succ] at hwb; omega) (own_acc acc w sh hacc) (by omega) (by rw [own_val]; exact hval) hdrop2 (by rw [← hpos, own_enc_more k w hc0, List.length_cons]; omega) Z7 Kp7 ⟨q10, q8, q15, q11, grr⟩ X7 e7 N7
  have hB : own_Goes p e below s (own_QR Z (Int64.ofNat v0) x0 b kB (p0 + (own_enc 8 v0).length) VS h0 n0) ({ frames := 0, cells := 0, slots := 0, locals := 0 } : Room).cells ({ frames := 0, cells := 0, slots := 0, locals := 0 } : Room).slots s₁ (mkF m 0 #[.val (.ref x0), .unset, .unset, .unset, .unset] []) := by
    refine own_step (T' := s₁) (g' := (mkF m 1 #[.val (.ref x0), .unset, .unset, .unset, .unset] [(.long (0 : Int64))])) (fun _ k => XS.lconst X00.here hx rfl (hb hby d9_0) k) ?_
    refine own_step (T' := s₁) (g' := (mkF m 2 #[.val (.ref x0), .val (.long (0 : Int64)), .second, .unset, .unset] [])) (fun _ k => XS.lstoreN X00.here hx rfl (hb hby d9_1) rfl (l' := #[.val (.ref x0), .val (.long (0 : Int64)), .second, .unset, .unset]) rfl k) ?_
    refine own_step (T' := s₁) (g' := (mkF m 3 #[.val (.ref x0), .val (.long (0 : Int64)), .second, .unset, .unset] [(.int (0 : Int32))])) (fun _ k => XS.iconst X00.here hx rfl (hb hby d9_2) k) ?_
    refine own_step (T' := s₁) (g' := (mkF m 4 #[.val (.ref x0), .val (.long (0 : Int64)), .second, .val (.int (0 : Int32)), .unset] [])) (fun _ k => XS.istoreN X00.here hx rfl (hb hby d9_3) rfl (l' := #[.val (.ref x0), .val (.long (0 : Int64)), .second, .val (.int (0 : Int32)), .unset]) rfl k) ?_
    exact B4 8 v0 0 0 p0 .unset s₁ _ h0 One.u (by omega) (by decide) (by decide) (by omega) hAt rfl Z0 (Keep.refl _ _) hRD0 X00 e00 N00
  obtain ⟨s₂, o, q1, q2, q3, v, L, q4, q5, q6⟩ := hB
  exact ⟨s₂, o, castTop (ef_9 m x0) q1, q2, q3, v, L, q4, q5, q6⟩
set_option maxRecDepth 65536 in
set_option maxHeartbeats 40000000 in
theorem rm10 (l : Launch) (Z : State) (a0 : Array Value) (hw : ∀ d ∈ tables_1, d.before a0 Z = true) (ws : List Jvm.Cond) (x0 : Int64) (v0 : Nat) (h0 : Heap) (n0 : Nat) (Z0 : n0 ≤ h0.size) (hv0 : x0 = Int64.ofNat v0) (hb0 : v0 < 2 ^ 31) :
    MetFree l (⟨"java/lang/Math", "toIntExact", "(J)I"⟩ : MethodName) (head1 (Jvm.Cond.code (⟨"java/lang/Math", "toIntExact", "(J)I"⟩ : MethodName) jdk_29_method_43_code 2 (some .int) :: ws) ({ frames := 0, cells := 0, slots := 0, locals := 0 } : Room)) (fun a U => a = #[(.long x0)] ∧ Z.Warmed39 U.vm ∧ U.heap = h0) (fun _ _ _ _ _ => True) (fun _ U o U' => ∃ v L, o = .returned v ∧ own_Pure (.int (Int32.ofNat v0)) h0 n0 v U'.heap L ∧ FrameEnd U o U' L ({ frames := 0, cells := 0, slots := 0, locals := 0 } : Room).cells ({ frames := 0, cells := 0, slots := 0, locals := 0 } : Room).slots) := by
  refine MetFree.of_bodySF (Jvm.Free.JP.mathPlain rfl (by decide +kernel)) hisR ?_
  intro p e s m args below meth c s₁ Bd hml0 hP hK
  obtain ⟨rfl, hZ, hh0⟩ := hP
  have hx := Bd.exec
  have hby := Bd.bytes
  have hml : c.maxLocals = 2 := hml0
  have hown : s.vm.findClass "java/lang/Math" = some m.cls := findClass_of_methodNamed Bd.named
  have hnm := (name_of_methodNamed Bd.named Bd.method).1
  have X00 : Stand p l e ({ frames := 0, cells := 0, slots := 0, locals := 0 } : Room) s m #[(.long x0)] below meth c s₁ [] 0 0 := Stand.of_body Bd
  have e00 : s₁.heap = h0 := by rw [← hh0, Bd.state]; rfl
  have N00 := Fr.nil n0
  subst hv0
  have hB : own_Goes p e below s (own_Pure (.int (Int32.ofNat v0)) h0 n0) ({ frames := 0, cells := 0, slots := 0, locals := 0 } : Room).cells ({ frames := 0, cells := 0, slots := 0, locals := 0 } : Room).slots s₁ (mkF m 0 #[.val (.long (Int64.ofNat v0)), .second] []) := by
    refine own_step (T' := s₁) (g' := (mkF m 1 #[.val (.long (Int64.ofNat v0)), .second] [(.long (Int64.ofNat v0))])) (fun _ k => XS.lloadN X00.here hx rfl (hb hby d10_0) rfl k) ?_
    refine own_step (T' := s₁) (g' := (mkF m 2 #[.val (.long (Int64.ofNat v0)), .second] [(.int ((Int64.ofNat v0).toInt32))])) (fun _ k => XS.l2i X00.here hx rfl (hb hby d10_1) rfl k) ?_
    refine own_step (T' := s₁) (g' := (mkF m 3 #[.val (.long (Int64.ofNat v0)), .second] [(.long (((Int64.ofNat v0).toInt32).toInt64))])) (fun _ k => XS.i2l X00.here hx rfl (hb hby d10_2) rfl k) ?_
    refine own_step (T' := s₁) (g' := (mkF m 4 #[.val (.long (Int64.ofNat v0)), .second] [(.long (Int64.ofNat v0)), (.long (((Int64.ofNat v0).toInt32).toInt64))])) (fun _ k => XS.lloadN X00.here hx rfl (hb hby d10_3) rfl k) ?_
    refine own_step (T' := s₁) (g' := (mkF m 5 #[.val (.long (Int64.ofNat v0)), .second] [(.int (lcmpW (((Int64.ofNat v0).toInt32).toInt64) (Int64.ofNat v0)))])) (fun _ k => XS.lcmp X00.here hx rfl (hb hby d10_4) rfl k) ?_
    have hc1 : (lcmpW (((Int64.ofNat v0).toInt32).toInt64) (Int64.ofNat v0)) = (0 : Int32) := own_back v0 hb0
    refine own_step (T' := s₁) (g' := (mkF m 18 #[.val (.long (Int64.ofNat v0)), .second] [])) (fun _ k => XS.ifYes X00.here hx rfl (pc0 := 5) (pc' := 18) rfl (hb hby d10_5) rfl ((if0 _ _).trans (teq hc1).1) (by decide) (by decide) k) ?_
    refine own_step (T' := s₁) (g' := (mkF m 19 #[.val (.long (Int64.ofNat v0)), .second] [(.long (Int64.ofNat v0))])) (fun _ k => XS.lloadN X00.here hx rfl (hb hby d10_18) rfl k) ?_
    refine own_step (T' := s₁) (g' := (mkF m 20 #[.val (.long (Int64.ofNat v0)), .second] [(.int ((Int64.ofNat v0).toInt32))])) (fun _ k => XS.l2i X00.here hx rfl (hb hby d10_19) rfl k) ?_
    have hr2 : ((Int64.ofNat v0).toInt32) = (Int32.ofNat v0) := own_l2i v0
    rw [hr2]
    exact own_ret X00 Bd (v := some (.int (Int32.ofNat v0))) (fun q => by rw [Bd.returns] at q; cases q) (fun fs q => retI X00 hx Bd.returns (hb hby d10_20) q) (show own_Pure (.int (Int32.ofNat v0)) h0 n0 _ _ _ from ⟨rfl, N00, e00⟩) (by decide) (by decide)
  obtain ⟨s₂, o, q1, q2, q3, v, L, q4, q5, q6⟩ := hB
  exact ⟨s₂, o, castTop (ef_10 m (Int64.ofNat v0)) q1, q2, q3, v, L, q4, q5, q6⟩
set_option maxRecDepth 65536 in
set_option maxHeartbeats 40000000 in
theorem rm11 (l : Launch) (Z : State) (a0 : Array Value) (hw : ∀ d ∈ tables_1, d.before a0 Z = true) (ws : List Jvm.Cond) (x0 : Addr) (x1 : Addr) (x2 : Addr) (x3 : Addr) (x4 : Int32) (u_t u_a u_c u_n : Value) (h0 : Heap) (n0 : Nat) (Z0 : n0 ≤ h0.size) (E0 : Exa Z h0 x0 "com/example/impatiens/impatiens/itpn/Instances") (g0 : n0 ≤ x0) (F_t : Fld Z h0 x0 "com/example/impatiens/impatiens/itpn/Instances" "transitions" "[I" u_t) (F_a : Fld Z h0 x0 "com/example/impatiens/impatiens/itpn/Instances" "ages" "[J" u_a) (F_c : Fld Z h0 x0 "com/example/impatiens/impatiens/itpn/Instances" "counts" "[J" u_c) (F_n : Fld Z h0 x0 "com/example/impatiens/impatiens/itpn/Instances" "size" "I" u_n) :
    MetFree l (⟨"com/example/impatiens/impatiens/itpn/Instances", "<init>", "([I[J[JI)V"⟩ : MethodName) (head1 (Jvm.Cond.code (⟨"com/example/impatiens/impatiens/itpn/Instances", "<init>", "([I[J[JI)V"⟩ : MethodName) prog_14_method_2_code 5 none :: ws) ({ frames := 1, cells := 0, slots := 0, locals := 12 } : Room)) (fun a U => a = #[(.ref x0), (.ref x1), (.ref x2), (.ref x3), (.int x4)] ∧ Z.Warmed39 U.vm ∧ U.heap = h0) (fun _ _ _ _ _ => True) (fun _ U o U' => ∃ v L, o = .returned v ∧ own_QIini Z x0 x1 x2 x3 x4 h0 n0 v U'.heap L ∧ FrameEnd U o U' L ({ frames := 1, cells := 0, slots := 0, locals := 12 } : Room).cells ({ frames := 1, cells := 0, slots := 0, locals := 12 } : Room).slots) := by
  refine MetFree.of_bodySF (plainFor_of_name pn_11) hisR ?_
  intro p e s m args below meth c s₁ Bd hml0 hP hK
  obtain ⟨rfl, hZ, hh0⟩ := hP
  have hx := Bd.exec
  have hby := Bd.bytes
  have hml : c.maxLocals = 5 := hml0
  have hown : s.vm.findClass "com/example/impatiens/impatiens/itpn/Instances" = some m.cls := findClass_of_methodNamed Bd.named
  have hnm := (name_of_methodNamed Bd.named Bd.method).1
  have X00 : Stand p l e ({ frames := 1, cells := 0, slots := 0, locals := 12 } : Room) s m #[(.ref x0), (.ref x1), (.ref x2), (.ref x3), (.int x4)] below meth c s₁ [] 0 0 := Stand.of_body Bd
  have e00 : s₁.heap = h0 := by rw [← hh0, Bd.state]; rfl
  have N00 := Fr.nil n0
  have hB : own_Goes p e below s (own_QIini Z x0 x1 x2 x3 x4 h0 n0) ({ frames := 1, cells := 0, slots := 0, locals := 12 } : Room).cells ({ frames := 1, cells := 0, slots := 0, locals := 12 } : Room).slots s₁ (mkF m 0 #[.val (.ref x0), .val (.ref x1), .val (.ref x2), .val (.ref x3), .val (.int x4)] []) := by
    refine own_step (T' := s₁) (g' := (mkF m 1 #[.val (.ref x0), .val (.ref x1), .val (.ref x2), .val (.ref x3), .val (.int x4)] [(.ref x0)])) (fun _ k => XS.aloadN X00.here hx rfl (hb hby d11_0) rfl rfl k) ?_
    obtain ⟨T1, X1, e1, st1⟩ := initO X00 hx hZ hown (hw _ (List.mem_of_getElem? (i := 74) rfl)) (hw _ (List.mem_of_getElem? (i := 13) rfl)) (hw _ (List.mem_of_getElem? (i := 14) rfl)) e00 (g := (mkF m 1 #[.val (.ref x0), .val (.ref x1), .val (.ref x2), .val (.ref x3), .val (.int x4)] [(.ref x0)])) rfl (by rw [hml]; rfl) rfl (hb hby d11_1) (by decide) (W := 0) (by show 2 * 0 + _ ≤ _; exact Nat.le_of_eq rfl) (by decide)
    refine own_step (T' := T1) (g' := (mkF m 4 #[.val (.ref x0), .val (.ref x1), .val (.ref x2), .val (.ref x3), .val (.int x4)] [])) (fun _ k => st1 _ k) ?_
    refine own_step (T' := T1) (g' := (mkF m 5 #[.val (.ref x0), .val (.ref x1), .val (.ref x2), .val (.ref x3), .val (.int x4)] [(.ref x0)])) (fun _ k => XS.aloadN X1.here hx rfl (hb hby d11_4) rfl rfl k) ?_
    refine own_step (T' := T1) (g' := (mkF m 6 #[.val (.ref x0), .val (.ref x1), .val (.ref x2), .val (.ref x3), .val (.int x4)] [(.ref x1), (.ref x0)])) (fun _ k => XS.aloadN X1.here hx rfl (hb hby d11_5) rfl rfl k) ?_
    obtain ⟨T2, h2, X2, e2, W2, st2⟩ := putF X1 hx hZ hown (host := "") (Or.inl (hw _ (List.mem_of_getElem? (i := 75) rfl))) Via.refl e1 F_t E0 (Or.inl (hw _ (List.mem_of_getElem? (i := 76) rfl))) (hw _ (List.mem_of_getElem? (i := 68) rfl)) (ty := (.array .int)) (by decide) rfl rfl (g := (mkF m 6 #[.val (.ref x0), .val (.ref x1), .val (.ref x2), .val (.ref x3), .val (.int x4)] [(.ref x1), (.ref x0)])) rfl rfl (hb hby d11_6)
    have q3 : Fld Z h2 x0 "com/example/impatiens/impatiens/itpn/Instances" "transitions" "[I" (.ref x1) := F_t.same W2
    have q4 : Fld Z h2 x0 "com/example/impatiens/impatiens/itpn/Instances" "ages" "[J" u_a := F_a.other W2 (Or.inr (slot_ne (Or.inl (hw _ (List.mem_of_getElem? (i := 78) rfl))) (Or.inl (hw _ (List.mem_of_getElem? (i := 76) rfl))) (by decide) (t := (.array .long)) (t' := (.array .int)) (by decide) (by decide)))
    have q5 : Fld Z h2 x0 "com/example/impatiens/impatiens/itpn/Instances" "counts" "[J" u_c := F_c.other W2 (Or.inr (slot_ne (Or.inl (hw _ (List.mem_of_getElem? (i := 80) rfl))) (Or.inl (hw _ (List.mem_of_getElem? (i := 76) rfl))) (by decide) (t := (.array .long)) (t' := (.array .int)) (by decide) (by decide)))
    have q6 : Fld Z h2 x0 "com/example/impatiens/impatiens/itpn/Instances" "size" "I" u_n := F_n.other W2 (Or.inr (slot_ne (Or.inl (hw _ (List.mem_of_getElem? (i := 82) rfl))) (Or.inl (hw _ (List.mem_of_getElem? (i := 76) rfl))) (by decide) (t := .int) (t' := (.array .int)) (by decide) (by decide)))
    have q7 : Exa Z h2 x0 "com/example/impatiens/impatiens/itpn/Instances" := E0.wr W2
    have Z2 : n0 ≤ h2.size := Nat.le_trans Z0 (Keep.of_wr W2).1
    have N2 := Fr.snoc X2 N00 g0
    have Kp2 : Keep h0 h2 [x0] := (Keep.refl h0 [x0]).wr W2 (Or.inl (List.mem_of_getElem? (i := 0) rfl))
    refine own_step (T' := T2) (g' := (mkF m 9 #[.val (.ref x0), .val (.ref x1), .val (.ref x2), .val (.ref x3), .val (.int x4)] [])) (fun _ k => st2 _ k) ?_
    refine own_step (T' := T2) (g' := (mkF m 10 #[.val (.ref x0), .val (.ref x1), .val (.ref x2), .val (.ref x3), .val (.int x4)] [(.ref x0)])) (fun _ k => XS.aloadN X2.here hx rfl (hb hby d11_9) rfl rfl k) ?_
    refine own_step (T' := T2) (g' := (mkF m 11 #[.val (.ref x0), .val (.ref x1), .val (.ref x2), .val (.ref x3), .val (.int x4)] [(.ref x2), (.ref x0)])) (fun _ k => XS.aloadN X2.here hx rfl (hb hby d11_10) rfl rfl k) ?_
    obtain ⟨T8, h8, X8, e8, W8, st8⟩ := putF X2 hx hZ hown (host := "") (Or.inl (hw _ (List.mem_of_getElem? (i := 77) rfl))) Via.refl e2 q4 q7 (Or.inl (hw _ (List.mem_of_getElem? (i := 78) rfl))) (hw _ (List.mem_of_getElem? (i := 68) rfl)) (ty := (.array .long)) (by decide) rfl rfl (g := (mkF m 11 #[.val (.ref x0), .val (.ref x1), .val (.ref x2), .val (.ref x3), .val (.int x4)] [(.ref x2), (.ref x0)])) rfl rfl (hb hby d11_11)
    have q9 : Fld Z h8 x0 "com/example/impatiens/impatiens/itpn/Instances" "transitions" "[I" (.ref x1) := q3.other W8 (Or.inr (slot_ne (Or.inl (hw _ (List.mem_of_getElem? (i := 76) rfl))) (Or.inl (hw _ (List.mem_of_getElem? (i := 78) rfl))) (by decide) (t := (.array .int)) (t' := (.array .long)) (by decide) (by decide)))
    have q10 : Fld Z h8 x0 "com/example/impatiens/impatiens/itpn/Instances" "ages" "[J" (.ref x2) := q4.same W8
    have q11 : Fld Z h8 x0 "com/example/impatiens/impatiens/itpn/Instances" "counts" "[J" u_c := q5.other W8 (Or.inr (slot_ne (Or.inl (hw _ (List.mem_of_getElem? (i := 80) rfl))) (Or.inl (hw _ (List.mem_of_getElem? (i := 78) rfl))) (by decide) (t := (.array .long)) (t' := (.array .long)) (by decide) (by decide)))
    have q12 : Fld Z h8 x0 "com/example/impatiens/impatiens/itpn/Instances" "size" "I" u_n := q6.other W8 (Or.inr (slot_ne (Or.inl (hw _ (List.mem_of_getElem? (i := 82) rfl))) (Or.inl (hw _ (List.mem_of_getElem? (i := 78) rfl))) (by decide) (t := .int) (t' := (.array .long)) (by decide) (by decide)))
    have q13 : Exa Z h8 x0 "com/example/impatiens/impatiens/itpn/Instances" := q7.wr W8
    have Z8 : n0 ≤ h8.size := Nat.le_trans Z2 (Keep.of_wr W8).1
    have N8 := Fr.snoc X8 N2 g0
    have Kp8 : Keep h0 h8 [x0] := Kp2.wr W8 (Or.inl (List.mem_of_getElem? (i := 0) rfl))
    refine own_step (T' := T8) (g' := (mkF m 14 #[.val (.ref x0), .val (.ref x1), .val (.ref x2), .val (.ref x3), .val (.int x4)] [])) (fun _ k => st8 _ k) ?_
    refine own_step (T' := T8) (g' := (mkF m 15 #[.val (.ref x0), .val (.ref x1), .val (.ref x2), .val (.ref x3), .val (.int x4)] [(.ref x0)])) (fun _ k => XS.aloadN X8.here hx rfl (hb hby d11_14) rfl rfl k) ?_
    refine own_step (T' := T8) (g' := (mkF m 16 #[.val (.ref x0), .val (.ref x1), .val (.ref x2), .val (.ref x3), .val (.int x4)] [(.ref x3), (.ref x0)])) (fun _ k => XS.aloadN X8.here hx rfl (hb hby d11_15) rfl rfl k) ?_
    obtain ⟨T14, h14, X14, e14, W14, st14⟩ := putF X8 hx hZ hown (host := "") (Or.inl (hw _ (List.mem_of_getElem? (i := 79) rfl))) Via.refl e8 q11 q13 (Or.inl (hw _ (List.mem_of_getElem? (i := 80) rfl))) (hw _ (List.mem_of_getElem? (i := 68) rfl)) (ty := (.array .long)) (by decide) rfl rfl (g := (mkF m 16 #[.val (.ref x0), .val (.ref x1), .val (.ref x2), .val (.ref x3), .val (.int x4)] [(.ref x3), (.ref x0)])) rfl rfl (hb hby d11_16)
    have q15 : Fld Z h14 x0 "com/example/impatiens/impatiens/itpn/Instances" "transitions" "[I" (.ref x1) := q9.other W14 (Or.inr (slot_ne (Or.inl (hw _ (List.mem_of_getElem? (i := 76) rfl))) (Or.inl (hw _ (List.mem_of_getElem? (i := 80) rfl))) (by decide) (t := (.array .int)) (t' := (.array .long)) (by decide) (by decide)))
    have q16 : Fld Z h14 x0 "com/example/impatiens/impatiens/itpn/Instances" "ages" "[J" (.ref x2) := q10.other W14 (Or.inr (slot_ne (Or.inl (hw _ (List.mem_of_getElem? (i := 78) rfl))) (Or.inl (hw _ (List.mem_of_getElem? (i := 80) rfl))) (by decide) (t := (.array .long)) (t' := (.array .long)) (by decide) (by decide)))
    have q17 : Fld Z h14 x0 "com/example/impatiens/impatiens/itpn/Instances" "counts" "[J" (.ref x3) := q11.same W14
    have q18 : Fld Z h14 x0 "com/example/impatiens/impatiens/itpn/Instances" "size" "I" u_n := q12.other W14 (Or.inr (slot_ne (Or.inl (hw _ (List.mem_of_getElem? (i := 82) rfl))) (Or.inl (hw _ (List.mem_of_getElem? (i := 80) rfl))) (by decide) (t := .int) (t' := (.array .long)) (by decide) (by decide)))
    have q19 : Exa Z h14 x0 "com/example/impatiens/impatiens/itpn/Instances" := q13.wr W14
    have Z14 : n0 ≤ h14.size := Nat.le_trans Z8 (Keep.of_wr W14).1
    have N14 := Fr.snoc X14 N8 g0
    have Kp14 : Keep h0 h14 [x0] := Kp8.wr W14 (Or.inl (List.mem_of_getElem? (i := 0) rfl))
    refine own_step (T' := T14) (g' := (mkF m 19 #[.val (.ref x0), .val (.ref x1), .val (.ref x2), .val (.ref x3), .val (.int x4)] [])) (fun _ k => st14 _ k) ?_
    refine own_step (T' := T14) (g' := (mkF m 20 #[.val (.ref x0), .val (.ref x1), .val (.ref x2), .val (.ref x3), .val (.int x4)] [(.ref x0)])) (fun _ k => XS.aloadN X14.here hx rfl (hb hby d11_19) rfl rfl k) ?_
    refine own_step (T' := T14) (g' := (mkF m 22 #[.val (.ref x0), .val (.ref x1), .val (.ref x2), .val (.ref x3), .val (.int x4)] [(.int x4), (.ref x0)])) (fun _ k => XS.iload X14.here hx rfl (hb hby d11_20) rfl k) ?_
    obtain ⟨T20, h20, X20, e20, W20, st20⟩ := putF X14 hx hZ hown (host := "") (Or.inl (hw _ (List.mem_of_getElem? (i := 81) rfl))) Via.refl e14 q18 q19 (Or.inl (hw _ (List.mem_of_getElem? (i := 82) rfl))) (hw _ (List.mem_of_getElem? (i := 68) rfl)) (ty := .int) (by decide) rfl rfl (g := (mkF m 22 #[.val (.ref x0), .val (.ref x1), .val (.ref x2), .val (.ref x3), .val (.int x4)] [(.int x4), (.ref x0)])) rfl rfl (hb hby d11_22)
    have q21 : Fld Z h20 x0 "com/example/impatiens/impatiens/itpn/Instances" "transitions" "[I" (.ref x1) := q15.other W20 (Or.inr (slot_ne (Or.inl (hw _ (List.mem_of_getElem? (i := 76) rfl))) (Or.inl (hw _ (List.mem_of_getElem? (i := 82) rfl))) (by decide) (t := (.array .int)) (t' := .int) (by decide) (by decide)))
    have q22 : Fld Z h20 x0 "com/example/impatiens/impatiens/itpn/Instances" "ages" "[J" (.ref x2) := q16.other W20 (Or.inr (slot_ne (Or.inl (hw _ (List.mem_of_getElem? (i := 78) rfl))) (Or.inl (hw _ (List.mem_of_getElem? (i := 82) rfl))) (by decide) (t := (.array .long)) (t' := .int) (by decide) (by decide)))
    have q23 : Fld Z h20 x0 "com/example/impatiens/impatiens/itpn/Instances" "counts" "[J" (.ref x3) := q17.other W20 (Or.inr (slot_ne (Or.inl (hw _ (List.mem_of_getElem? (i := 80) rfl))) (Or.inl (hw _ (List.mem_of_getElem? (i := 82) rfl))) (by decide) (t := (.array .long)) (t' := .int) (by decide) (by decide)))
    have q24 : Fld Z h20 x0 "com/example/impatiens/impatiens/itpn/Instances" "size" "I" (.int x4) := q18.same W20
    have q25 : Exa Z h20 x0 "com/example/impatiens/impatiens/itpn/Instances" := q19.wr W20
    have Z20 : n0 ≤ h20.size := Nat.le_trans Z14 (Keep.of_wr W20).1
    have N20 := Fr.snoc X20 N14 g0
    have Kp20 : Keep h0 h20 [x0] := Kp14.wr W20 (Or.inl (List.mem_of_getElem? (i := 0) rfl))
    refine own_step (T' := T20) (g' := (mkF m 25 #[.val (.ref x0), .val (.ref x1), .val (.ref x2), .val (.ref x3), .val (.int x4)] [])) (fun _ k => st20 _ k) ?_
    exact own_ret X20 Bd (v := none) (fun _ => rfl) (fun fs q => X20.returnOut hx Bd.returns (hb hby d11_25) q) (show own_QIini Z x0 x1 x2 x3 x4 h0 n0 _ _ _ from by rw [e20]; exact ⟨rfl, N20, Kp20, q25, q21, q22, q23, q24⟩) (by decide) (by decide)
  obtain ⟨s₂, o, q1, q2, q3, v, L, q4, q5, q6⟩ := hB
  exact ⟨s₂, o, castTop (ef_11 m x0 x1 x2 x3 x4) q1, q2, q3, v, L, q4, q5, q6⟩
set_option maxRecDepth 65536 in
set_option maxHeartbeats 40000000 in
theorem rm8 (l : Launch) (Z : State) (a0 : Array Value) (hw : ∀ d ∈ tables_1, d.before a0 Z = true) (ws : List Jvm.Cond) (x0 : Addr) (b : Addr) (kB : ClassId) (VS post : List Int32) (p0 : Nat) (gs : List (Nat × Nat × Nat)) (h0 : Heap) (n0 : Nat) (Z0 : n0 ≤ h0.size) (hVS : VS.length ≤ 64) (hn2 : gs.length ≤ 2) (hbd : ∀ g ∈ gs, g.1 < 32768 ∧ g.2.1 < 2 ^ 63 ∧ g.2.2 < 2 ^ 63) (hAt : VS.drop p0 = own_enc 8 gs.length ++ (own_encs gs ++ post)) (hRD0 : own_RD Z n0 h0 x0 b kB p0 VS) :
    MetFree l (⟨"com/example/impatiens/impatiens/itpn/Instances", "read", "(Lcom/example/impatiens/impatiens/statespace/StateReader;)Lcom/example/impatiens/impatiens/itpn/Instances;"⟩ : MethodName) (head1 (Jvm.Cond.code (⟨"com/example/impatiens/impatiens/itpn/Instances", "read", "(Lcom/example/impatiens/impatiens/statespace/StateReader;)Lcom/example/impatiens/impatiens/itpn/Instances;"⟩ : MethodName) prog_14_method_3_code 5 (some (.object "com/example/impatiens/impatiens/itpn/Instances")) :: ws) ({ frames := 2, cells := 4, slots := 10, locals := 29 } : Room)) (fun a U => a = #[(.ref x0)] ∧ Z.Warmed39 U.vm ∧ U.heap = h0) (fun _ _ _ _ _ => True) (fun _ U o U' => ∃ v L, o = .returned v ∧ own_QRead Z x0 gs h0 n0 v U'.heap L ∧ FrameEnd U o U' L ({ frames := 2, cells := 4, slots := 10, locals := 29 } : Room).cells ({ frames := 2, cells := 4, slots := 10, locals := 29 } : Room).slots) := by
  refine MetFree.of_bodySF (plainFor_of_name pn_8) hisR ?_
  intro p e s m args below meth c s₁ Bd hml0 hP hK
  obtain ⟨rfl, hZ, hh0⟩ := hP
  have hx := Bd.exec
  have hby := Bd.bytes
  have hml : c.maxLocals = 5 := hml0
  have hown : s.vm.findClass "com/example/impatiens/impatiens/itpn/Instances" = some m.cls := findClass_of_methodNamed Bd.named
  have hnm := (name_of_methodNamed Bd.named Bd.method).1
  have X00 : Stand p l e ({ frames := 2, cells := 4, slots := 10, locals := 29 } : Room) s m #[(.ref x0)] below meth c s₁ [] 0 0 := Stand.of_body Bd
  have e00 : s₁.heap = h0 := by rw [← hh0, Bd.state]; rfl
  have N00 := Fr.nil n0
  have B31 : ∀ (i ta aa ca : Addr) (kt ka kc : ClassId) (rs ds : List (Nat × Nat × Nat)) (po : Nat) (T0 : State) (locs : List Loc) (hh : Heap), ds ++ rs = gs → VS.drop po = own_encs rs ++ post → n0 ≤ hh.size → Keep h0 hh [x0] → own_RD Z n0 hh x0 b kB po VS → own_IS Z n0 hh i ta aa ca kt ka kc gs.length ((own_ts 0 ds).map Int32.ofNat) (ds.map (fun g => Int64.ofNat g.2.1)) (ds.map (fun g => Int64.ofNat g.2.2)) → b ≠ ta → b ≠ aa → b ≠ ca → h0.size ≤ i → h0.size ≤ ta → h0.size ≤ aa → h0.size ≤ ca → Stand p l e ({ frames := 2, cells := 4, slots := 10, locals := 29 } : Room) s m #[(.ref x0)] below meth c T0 locs 4 10 → T0.heap = hh → Fr n0 locs → own_Goes p e below s (own_QRead Z x0 gs h0 n0) ({ frames := 2, cells := 4, slots := 10, locals := 29 } : Room).cells ({ frames := 2, cells := 4, slots := 10, locals := 29 } : Room).slots T0 (mkF m 31 #[.val (.ref x0), .val (.int (Int32.ofNat gs.length)), .val (.ref i), .val (.int (Int32.ofNat (own_sum ds))), .val (.int (Int32.ofNat ds.length))] []) := by
    intro i ta aa ca kt ka kc rs
    induction rs with
    | nil =>
      intro ds po T0 locs hh hgs hdrop Zh Kh hRD hIS nbt nba nbc sz_i sz_ta sz_aa sz_ca X0 e0 N0
      have hIS0 := hIS
      have hds : ds = gs := by simpa using hgs
      have hdl : ds.length = gs.length := by rw [hds]
      rw [hds] at hIS0
      have oqr := hRD
      obtain ⟨Er, Fbr, Fpr, Vbr, grr⟩ := oqr
      have ner : x0 ≠ b := Er.neArv Vbr (hw _ (List.mem_of_getElem? (i := 27) rfl))
      have oqi := hIS
      obtain ⟨Ei, Fti, Fai, Fci, Fni, Vti, Vai, Vci, ⟨ntai, ntci, naci⟩, gii, gti, gai, gci⟩ := oqi
      have ni_tai : i ≠ ta := Ei.neArv Vti (hw _ (List.mem_of_getElem? (i := 68) rfl))
      have ni_aai : i ≠ aa := Ei.neArv Vai (hw _ (List.mem_of_getElem? (i := 68) rfl))
      have ni_cai : i ≠ ca := Ei.neArv Vci (hw _ (List.mem_of_getElem? (i := 68) rfl))
      have nxi : x0 ≠ i := Er.ne Ei (by decide)
      have nib : i ≠ b := Ei.neArv Vbr (hw _ (List.mem_of_getElem? (i := 68) rfl))
      have nx_ta : x0 ≠ ta := Er.neArv Vti (hw _ (List.mem_of_getElem? (i := 27) rfl))
      have nx_aa : x0 ≠ aa := Er.neArv Vai (hw _ (List.mem_of_getElem? (i := 27) rfl))
      have nx_ca : x0 ≠ ca := Er.neArv Vci (hw _ (List.mem_of_getElem? (i := 27) rfl))
      refine own_step (T' := T0) (g' := (mkF m 33 #[.val (.ref x0), .val (.int (Int32.ofNat gs.length)), .val (.ref i), .val (.int (Int32.ofNat (own_sum ds))), .val (.int (Int32.ofNat ds.length))] [(.int (Int32.ofNat ds.length))])) (fun _ k => XS.iload X0.here hx rfl (hb hby d8_31) rfl k) ?_
      refine own_step (T' := T0) (g' := (mkF m 34 #[.val (.ref x0), .val (.int (Int32.ofNat gs.length)), .val (.ref i), .val (.int (Int32.ofNat (own_sum ds))), .val (.int (Int32.ofNat ds.length))] [(.int (Int32.ofNat gs.length)), (.int (Int32.ofNat ds.length))])) (fun _ k => XS.iloadN X0.here hx rfl (hb hby d8_33) rfl k) ?_
      have hc1 : ¬ ((Int32.ofNat ds.length) < (Int32.ofNat gs.length)) := own_nltN _ _ (by omega) (by omega)
      refine own_step (T' := T0) (g' := (mkF m 83 #[.val (.ref x0), .val (.int (Int32.ofNat gs.length)), .val (.ref i), .val (.int (Int32.ofNat (own_sum ds))), .val (.int (Int32.ofNat ds.length))] [])) (fun _ k => XS.icmpYes X0.here hx rfl (pc0 := 34) (pc' := 83) rfl (hb hby d8_34) rfl (flt hc1).2.1 (by decide) (by decide) k) ?_
      refine own_step (T' := T0) (g' := (mkF m 84 #[.val (.ref x0), .val (.int (Int32.ofNat gs.length)), .val (.ref i), .val (.int (Int32.ofNat (own_sum ds))), .val (.int (Int32.ofNat ds.length))] [(.ref i)])) (fun _ k => XS.aloadN X0.here hx rfl (hb hby d8_83) rfl rfl k) ?_
      exact own_ret X0 Bd (v := some (.ref i)) (fun q => by rw [Bd.returns] at q; cases q) (fun fs q => retOut X0 hx Bd.returns rfl (Or.inr (Or.inr (Or.inr (Or.inr ⟨rfl, rfl, rfl⟩)))) (hb hby d8_84) q) (show own_QRead Z x0 gs h0 n0 _ _ _ from by rw [e0]; exact ⟨i, ta, aa, ca, kt, ka, kc, rfl, N0, Kh, hIS0⟩) (by decide) (by decide)
    | cons g rs ih =>
      intro ds po T0 locs hh hgs hdrop Zh Kh hRD hIS nbt nba nbc sz_i sz_ta sz_aa sz_ca X0 e0 N0
      have hlen : ds.length + (rs.length + 1) = gs.length := by rw [← hgs]; simp
      have hlt : ds.length < gs.length := by omega
      obtain ⟨hg1, hg2, hg3⟩ := hbd g (by rw [← hgs]; simp)
      have hd0 : VS.drop po = own_enc 8 g.1 ++ (own_enc 8 g.2.1 ++ (own_enc 8 g.2.2 ++ (own_encs rs ++ post))) := by rw [hdrop]; simp only [own_encs, List.append_assoc]
      have hd1 := own_drop hd0
      have hd2 := own_drop hd1
      have hd3 := own_drop hd2
      have oqr := hRD
      obtain ⟨Er, Fbr, Fpr, Vbr, grr⟩ := oqr
      have ner : x0 ≠ b := Er.neArv Vbr (hw _ (List.mem_of_getElem? (i := 27) rfl))
      have oqi := hIS
      obtain ⟨Ei, Fti, Fai, Fci, Fni, Vti, Vai, Vci, ⟨ntai, ntci, naci⟩, gii, gti, gai, gci⟩ := oqi
      have ni_tai : i ≠ ta := Ei.neArv Vti (hw _ (List.mem_of_getElem? (i := 68) rfl))
      have ni_aai : i ≠ aa := Ei.neArv Vai (hw _ (List.mem_of_getElem? (i := 68) rfl))
      have ni_cai : i ≠ ca := Ei.neArv Vci (hw _ (List.mem_of_getElem? (i := 68) rfl))
      have nxi : x0 ≠ i := Er.ne Ei (by decide)
      have nib : i ≠ b := Ei.neArv Vbr (hw _ (List.mem_of_getElem? (i := 68) rfl))
      have nx_ta : x0 ≠ ta := Er.neArv Vti (hw _ (List.mem_of_getElem? (i := 27) rfl))
      have nx_aa : x0 ≠ aa := Er.neArv Vai (hw _ (List.mem_of_getElem? (i := 27) rfl))
      have nx_ca : x0 ≠ ca := Er.neArv Vci (hw _ (List.mem_of_getElem? (i := 27) rfl))
      refine own_step (T' := T0) (g' := (mkF m 33 #[.val (.ref x0), .val (.int (Int32.ofNat gs.length)), .val (.ref i), .val (.int (Int32.ofNat (own_sum ds))), .val (.int (Int32.ofNat ds.length))] [(.int (Int32.ofNat ds.length))])) (fun _ k => XS.iload X0.here hx rfl (hb hby d8_31) rfl k) ?_
      refine own_step (T' := T0) (g' := (mkF m 34 #[.val (.ref x0), .val (.int (Int32.ofNat gs.length)), .val (.ref i), .val (.int (Int32.ofNat (own_sum ds))), .val (.int (Int32.ofNat ds.length))] [(.int (Int32.ofNat gs.length)), (.int (Int32.ofNat ds.length))])) (fun _ k => XS.iloadN X0.here hx rfl (hb hby d8_33) rfl k) ?_
      have hc1 : (Int32.ofNat ds.length) < (Int32.ofNat gs.length) := own_ltN _ _ (by omega) (by rw [← hgs]; simp)
      refine own_step (T' := T0) (g' := (mkF m 37 #[.val (.ref x0), .val (.int (Int32.ofNat gs.length)), .val (.ref i), .val (.int (Int32.ofNat (own_sum ds))), .val (.int (Int32.ofNat ds.length))] [])) (fun _ k => XS.icmpNo X0.here hx rfl (hb hby d8_34) rfl (tlt hc1).2.1 k) ?_
      refine own_step (T' := T0) (g' := (mkF m 38 #[.val (.ref x0), .val (.int (Int32.ofNat gs.length)), .val (.ref i), .val (.int (Int32.ofNat (own_sum ds))), .val (.int (Int32.ofNat ds.length))] [(.int (Int32.ofNat (own_sum ds)))])) (fun _ k => XS.iloadN X0.here hx rfl (hb hby d8_37) rfl k) ?_
      refine own_step (T' := T0) (g' := (mkF m 39 #[.val (.ref x0), .val (.int (Int32.ofNat gs.length)), .val (.ref i), .val (.int (Int32.ofNat (own_sum ds))), .val (.int (Int32.ofNat ds.length))] [(.ref x0), (.int (Int32.ofNat (own_sum ds)))])) (fun _ k => XS.aloadN X0.here hx rfl (hb hby d8_38) rfl rfl k) ?_
      obtain ⟨cq2, kq2, q2a, q2b, q2c⟩ := isOf hZ e0 Er
      obtain ⟨_, _, ⟨T2, L2, k2, n2⟩, -, X2, ⟨Lc2, hQ2, l2, y2, z2⟩, st2⟩ := X0.virtualBack hx (y := (⟨"com/example/impatiens/impatiens/statespace/StateReader", "readLong", "()J"⟩ : MethodName)) (z := (⟨"com/example/impatiens/impatiens/statespace/StateReader", "readLong", "()J"⟩ : MethodName)) hown (mvT hZ (hw _ (List.mem_of_getElem? (i := 57) rfl))) (mvT hZ (hw _ (List.mem_of_getElem? (i := 58) rfl))) (notFace_of_selects (args := #[]) (mvT hZ (hw _ (List.mem_of_getElem? (i := 60) rfl)))) (mvT hZ (hw _ (List.mem_of_getElem? (i := 60) rfl))) (mvT hZ (hw _ (List.mem_of_getElem? (i := 59) rfl))) (by decide) (backOf (W := 1) (rm9 l Z a0 hw [] x0 b kB VS (own_enc 8 g.2.1 ++ (own_enc 8 g.2.2 ++ (own_encs rs ++ post))) po g.1 hh n0 Zh (by omega) hVS hd0 ⟨Er, Fbr, Fpr, Vbr, grr⟩) hZ (hw _ (List.mem_of_getElem? (i := 61) rfl)) (hw _ (List.mem_of_getElem? (i := 28) rfl)) (by decide) (by decide)) q2a q2c (g := (mkF m 39 #[.val (.ref x0), .val (.int (Int32.ofNat gs.length)), .val (.ref i), .val (.int (Int32.ofNat (own_sum ds))), .val (.int (Int32.ofNat ds.length))] [(.ref x0), (.int (Int32.ofNat (own_sum ds)))])) rfl (by rw [hml]; rfl) (Steps.refl _) (argsL := []) (rest := [(.int (Int32.ofNat (own_sum ds)))]) (lenOf pd_1 rfl) rfl (by show 2 * 0 + _ ≤ _; exact Nat.le_of_eq rfl) (hb hby d8_39) (fun _ _ => ⟨rfl, e0, (by decide : 4 + 0 ≤ _), (by decide : 10 + 0 ≤ _)⟩)
      dsimp only [Pt.U, Pt.locs, Pt.cells, Pt.slots] at X2 l2 y2 z2 st2 hQ2
      subst l2 y2 z2
      generalize e2 : T2.heap = h2 at hQ2
      obtain ⟨rfl, N2q, K2, rd2⟩ := hQ2
      have Z2 : n0 ≤ h2.size := Nat.le_trans Zh K2.1
      have Kp2 : Keep h0 h2 [x0] := Kh.trans K2 (allS (Or.inl (List.mem_of_getElem? (i := 0) rfl)) all0)
      have q3 : Fld Z h2 i "com/example/impatiens/impatiens/itpn/Instances" "transitions" "[I" (.ref ta) := Fti.keep K2 (ninS (Ne.symm nxi) nin0)
      have q4 : Fld Z h2 i "com/example/impatiens/impatiens/itpn/Instances" "ages" "[J" (.ref aa) := Fai.keep K2 (ninS (Ne.symm nxi) nin0)
      have q5 : Fld Z h2 i "com/example/impatiens/impatiens/itpn/Instances" "counts" "[J" (.ref ca) := Fci.keep K2 (ninS (Ne.symm nxi) nin0)
      have q6 : Fld Z h2 i "com/example/impatiens/impatiens/itpn/Instances" "size" "I" (.int (Int32.ofNat gs.length)) := Fni.keep K2 (ninS (Ne.symm nxi) nin0)
      have q7 : Exa Z h2 x0 "com/example/impatiens/impatiens/statespace/StateReader" := Er.keep K2
      have q8 : Exa Z h2 i "com/example/impatiens/impatiens/itpn/Instances" := Ei.keep K2
      have q9 : Arv Z h2 b kB .byte (64 : Int32) (VS.map Value.int) (.int (0 : Int32)) := Vbr.keep K2 (ninS (Ne.symm ner) nin0)
      have q10 : Arv Z h2 ta kt .int (Int32.ofNat gs.length) (((own_ts 0 ds).map Int32.ofNat).map Value.int) (.int (0 : Int32)) := Vti.keep K2 (ninS (Ne.symm nx_ta) nin0)
      have q11 : Arv Z h2 aa ka .long (Int32.ofNat gs.length) ((ds.map (fun g => Int64.ofNat g.2.1)).map Value.long) (.long (0 : Int64)) := Vai.keep K2 (ninS (Ne.symm nx_aa) nin0)
      have q12 : Arv Z h2 ca kc .long (Int32.ofNat gs.length) ((ds.map (fun g => Int64.ofNat g.2.2)).map Value.long) (.long (0 : Int64)) := Vci.keep K2 (ninS (Ne.symm nx_ca) nin0)
      have N2 := Fr.app N0 N2q
      obtain ⟨ER2, FbR2, FpR2, VbR2, grR2⟩ := rd2
      refine own_step (T' := T2) (g' := (mkF m 42 #[.val (.ref x0), .val (.int (Int32.ofNat gs.length)), .val (.ref i), .val (.int (Int32.ofNat (own_sum ds))), .val (.int (Int32.ofNat ds.length))] [(.long (Int64.ofNat g.1)), (.int (Int32.ofNat (own_sum ds)))])) (fun _ k => st2.trans k) ?_
      obtain ⟨_, _, ⟨T13, L13, k13, n13⟩, -, X13, ⟨Lc13, hQ13, l13, y13, z13⟩, st13⟩ := Jvm.LawKit.callS X2 hx (y := (⟨"java/lang/Math", "toIntExact", "(J)I"⟩ : MethodName)) hown (mvT hZ (hw _ (List.mem_of_getElem? (i := 64) rfl))) (mvT hZ (hw _ (List.mem_of_getElem? (i := 65) rfl))) (mvT hZ (hw _ (List.mem_of_getElem? (i := 4) rfl))) (mvT hZ (hw _ (List.mem_of_getElem? (i := 66) rfl))) (by decide) (backOf (W := 1) (rm10 l Z a0 hw [] (Int64.ofNat g.1) g.1 h2 n0 Z2 rfl (by omega)) hZ (hw _ (List.mem_of_getElem? (i := 66) rfl)) (hw _ (List.mem_of_getElem? (i := 4) rfl)) (by decide) (by decide)) (g := (mkF m 42 #[.val (.ref x0), .val (.int (Int32.ofNat gs.length)), .val (.ref i), .val (.int (Int32.ofNat (own_sum ds))), .val (.int (Int32.ofNat ds.length))] [(.long (Int64.ofNat g.1)), (.int (Int32.ofNat (own_sum ds)))])) rfl (by rw [hml]; rfl) (argsL := [(.long (Int64.ofNat g.1))]) (rest := [(.int (Int32.ofNat (own_sum ds)))]) (lenOf pd_2 rfl) rfl (by show 2 * 0 + _ ≤ _; exact Nat.le_of_eq rfl) (hb hby d8_42) (fun _ _ => ⟨rfl, e2, (by decide : 4 + 0 ≤ _), (by decide : 10 + 0 ≤ _)⟩)
      dsimp only [Pt.U, Pt.locs, Pt.cells, Pt.slots] at X13 l13 y13 z13 st13 hQ13
      subst l13 y13 z13
      obtain ⟨rfl, N13q, e13⟩ := hQ13
      have N13 := Fr.app N2 N13q
      refine own_step (T' := T13) (g' := (mkF m 45 #[.val (.ref x0), .val (.int (Int32.ofNat gs.length)), .val (.ref i), .val (.int (Int32.ofNat (own_sum ds))), .val (.int (Int32.ofNat ds.length))] [(.int (Int32.ofNat g.1)), (.int (Int32.ofNat (own_sum ds)))])) (fun _ k => st13 _ k) ?_
      refine own_step (T' := T13) (g' := (mkF m 46 #[.val (.ref x0), .val (.int (Int32.ofNat gs.length)), .val (.ref i), .val (.int (Int32.ofNat (own_sum ds))), .val (.int (Int32.ofNat ds.length))] [(.int ((Int32.ofNat (own_sum ds)) + (Int32.ofNat g.1)))])) (fun _ k => XS.iadd X13.here hx rfl (hb hby d8_45) rfl k) ?_
      have hr14 : ((Int32.ofNat (own_sum ds)) + (Int32.ofNat g.1)) = (Int32.ofNat (own_sum ds + g.1)) := own_addN _ _
      rw [hr14]
      refine own_step (T' := T13) (g' := (mkF m 47 #[.val (.ref x0), .val (.int (Int32.ofNat gs.length)), .val (.ref i), .val (.int (Int32.ofNat (own_sum ds + g.1))), .val (.int (Int32.ofNat ds.length))] [])) (fun _ k => XS.istoreN X13.here hx rfl (hb hby d8_46) rfl (l' := #[.val (.ref x0), .val (.int (Int32.ofNat gs.length)), .val (.ref i), .val (.int (Int32.ofNat (own_sum ds + g.1))), .val (.int (Int32.ofNat ds.length))]) rfl k) ?_
      refine own_step (T' := T13) (g' := (mkF m 48 #[.val (.ref x0), .val (.int (Int32.ofNat gs.length)), .val (.ref i), .val (.int (Int32.ofNat (own_sum ds + g.1))), .val (.int (Int32.ofNat ds.length))] [(.ref i)])) (fun _ k => XS.aloadN X13.here hx rfl (hb hby d8_47) rfl rfl k) ?_
      obtain ⟨T15, X15, e15, st15⟩ := getF X13 hx hZ hown (host := "") (Or.inl (hw _ (List.mem_of_getElem? (i := 75) rfl))) Via.refl e13 q3 (g := (mkF m 48 #[.val (.ref x0), .val (.int (Int32.ofNat gs.length)), .val (.ref i), .val (.int (Int32.ofNat (own_sum ds + g.1))), .val (.int (Int32.ofNat ds.length))] [(.ref i)])) rfl rfl (hb hby d8_48)
      refine own_step (T' := T15) (g' := (mkF m 51 #[.val (.ref x0), .val (.int (Int32.ofNat gs.length)), .val (.ref i), .val (.int (Int32.ofNat (own_sum ds + g.1))), .val (.int (Int32.ofNat ds.length))] [(.ref ta)])) (fun _ k => st15 _ k) ?_
      refine own_step (T' := T15) (g' := (mkF m 53 #[.val (.ref x0), .val (.int (Int32.ofNat gs.length)), .val (.ref i), .val (.int (Int32.ofNat (own_sum ds + g.1))), .val (.int (Int32.ofNat ds.length))] [(.int (Int32.ofNat ds.length)), (.ref ta)])) (fun _ k => XS.iload X15.here hx rfl (hb hby d8_51) rfl k) ?_
      refine own_step (T' := T15) (g' := (mkF m 54 #[.val (.ref x0), .val (.int (Int32.ofNat gs.length)), .val (.ref i), .val (.int (Int32.ofNat (own_sum ds + g.1))), .val (.int (Int32.ofNat ds.length))] [(.int (Int32.ofNat (own_sum ds + g.1))), (.int (Int32.ofNat ds.length)), (.ref ta)])) (fun _ k => XS.iloadN X15.here hx rfl (hb hby d8_53) rfl k) ?_
      obtain ⟨cl16, Ar16, hin16, put16⟩ := own_apd q10 (j := (Int32.ofNat ds.length)) (v := (.int (Int32.ofNat (own_sum ds + g.1)))) (own_inb _ _ hlt (by omega)) (by rw [own_clamp _ (by omega), List.length_map, List.length_map, own_ts_len]) rfl
      obtain ⟨T16, h16, X16, e16, W16, st16⟩ := stI X15 hx hZ e15 Ar16 (j := (Int32.ofNat ds.length)) hin16 (g := (mkF m 54 #[.val (.ref x0), .val (.int (Int32.ofNat gs.length)), .val (.ref i), .val (.int (Int32.ofNat (own_sum ds + g.1))), .val (.int (Int32.ofNat ds.length))] [(.int (Int32.ofNat (own_sum ds + g.1))), (.int (Int32.ofNat ds.length)), (.ref ta)])) rfl rfl (hb hby d8_54)
      have q17 : Fld Z h16 i "com/example/impatiens/impatiens/itpn/Instances" "transitions" "[I" (.ref ta) := q3.other W16 (Or.inl ni_tai)
      have q18 : Fld Z h16 i "com/example/impatiens/impatiens/itpn/Instances" "ages" "[J" (.ref aa) := q4.other W16 (Or.inl ni_tai)
      have q19 : Fld Z h16 i "com/example/impatiens/impatiens/itpn/Instances" "counts" "[J" (.ref ca) := q5.other W16 (Or.inl ni_tai)
      have q20 : Fld Z h16 i "com/example/impatiens/impatiens/itpn/Instances" "size" "I" (.int (Int32.ofNat gs.length)) := q6.other W16 (Or.inl ni_tai)
      have q21 : Fld Z h16 x0 "com/example/impatiens/impatiens/statespace/StateReader" "bytes" "[B" (.ref b) := FbR2.other W16 (Or.inl nx_ta)
      have q22 : Fld Z h16 x0 "com/example/impatiens/impatiens/statespace/StateReader" "position" "I" (.int (Int32.ofNat (po + (own_enc 8 g.1).length))) := FpR2.other W16 (Or.inl nx_ta)
      have q23 : Exa Z h16 x0 "com/example/impatiens/impatiens/statespace/StateReader" := ER2.wr W16
      have q24 : Exa Z h16 i "com/example/impatiens/impatiens/itpn/Instances" := q8.wr W16
      have q25 : Arv Z h16 b kB .byte (64 : Int32) (VS.map Value.int) (.int (0 : Int32)) := q9.other W16 nbt
      have q26 : Arv Z h16 aa ka .long (Int32.ofNat gs.length) ((ds.map (fun g => Int64.ofNat g.2.1)).map Value.long) (.long (0 : Int64)) := q11.other W16 (Ne.symm ntai)
      have q27 : Arv Z h16 ca kc .long (Int32.ofNat gs.length) ((ds.map (fun g => Int64.ofNat g.2.2)).map Value.long) (.long (0 : Int64)) := q12.other W16 (Ne.symm ntci)
      have q28 : Arv Z h16 ta kt .int (Int32.ofNat gs.length) (((own_ts 0 (ds ++ [g])).map Int32.ofNat).map Value.int) (.int (0 : Int32)) := own_vs (put16 _ W16) (by rw [own_ts_snoc, Nat.zero_add, List.map_append, List.map_append]; rfl)
      have Z16 : n0 ≤ h16.size := Nat.le_trans Z2 (Keep.of_wr W16).1
      have N16 := Fr.snoc X16 N13 gti
      have Kp16 : Keep h0 h16 [x0] := Kp2.wr W16 (Or.inr sz_ta)
      refine own_step (T' := T16) (g' := (mkF m 55 #[.val (.ref x0), .val (.int (Int32.ofNat gs.length)), .val (.ref i), .val (.int (Int32.ofNat (own_sum ds + g.1))), .val (.int (Int32.ofNat ds.length))] [])) (fun _ k => st16 _ k) ?_
      refine own_step (T' := T16) (g' := (mkF m 56 #[.val (.ref x0), .val (.int (Int32.ofNat gs.length)), .val (.ref i), .val (.int (Int32.ofNat (own_sum ds + g.1))), .val (.int (Int32.ofNat ds.length))] [(.ref i)])) (fun _ k => XS.aloadN X16.here hx rfl (hb hby d8_55) rfl rfl k) ?_
      obtain ⟨T29, X29, e29, st29⟩ := getF X16 hx hZ hown (host := "") (Or.inl (hw _ (List.mem_of_getElem? (i := 77) rfl))) Via.refl e16 q18 (g := (mkF m 56 #[.val (.ref x0), .val (.int (Int32.ofNat gs.length)), .val (.ref i), .val (.int (Int32.ofNat (own_sum ds + g.1))), .val (.int (Int32.ofNat ds.length))] [(.ref i)])) rfl rfl (hb hby d8_56)
      refine own_step (T' := T29) (g' := (mkF m 59 #[.val (.ref x0), .val (.int (Int32.ofNat gs.length)), .val (.ref i), .val (.int (Int32.ofNat (own_sum ds + g.1))), .val (.int (Int32.ofNat ds.length))] [(.ref aa)])) (fun _ k => st29 _ k) ?_
      refine own_step (T' := T29) (g' := (mkF m 61 #[.val (.ref x0), .val (.int (Int32.ofNat gs.length)), .val (.ref i), .val (.int (Int32.ofNat (own_sum ds + g.1))), .val (.int (Int32.ofNat ds.length))] [(.int (Int32.ofNat ds.length)), (.ref aa)])) (fun _ k => XS.iload X29.here hx rfl (hb hby d8_59) rfl k) ?_
      refine own_step (T' := T29) (g' := (mkF m 62 #[.val (.ref x0), .val (.int (Int32.ofNat gs.length)), .val (.ref i), .val (.int (Int32.ofNat (own_sum ds + g.1))), .val (.int (Int32.ofNat ds.length))] [(.ref x0), (.int (Int32.ofNat ds.length)), (.ref aa)])) (fun _ k => XS.aloadN X29.here hx rfl (hb hby d8_61) rfl rfl k) ?_
      obtain ⟨cq30, kq30, q30a, q30b, q30c⟩ := isOf hZ e29 q23
      obtain ⟨_, _, ⟨T30, L30, k30, n30⟩, -, X30, ⟨Lc30, hQ30, l30, y30, z30⟩, st30⟩ := X29.virtualBack hx (y := (⟨"com/example/impatiens/impatiens/statespace/StateReader", "readLong", "()J"⟩ : MethodName)) (z := (⟨"com/example/impatiens/impatiens/statespace/StateReader", "readLong", "()J"⟩ : MethodName)) hown (mvT hZ (hw _ (List.mem_of_getElem? (i := 57) rfl))) (mvT hZ (hw _ (List.mem_of_getElem? (i := 58) rfl))) (notFace_of_selects (args := #[]) (mvT hZ (hw _ (List.mem_of_getElem? (i := 60) rfl)))) (mvT hZ (hw _ (List.mem_of_getElem? (i := 60) rfl))) (mvT hZ (hw _ (List.mem_of_getElem? (i := 59) rfl))) (by decide) (backOf (W := 2) (rm9 l Z a0 hw [] x0 b kB VS (own_enc 8 g.2.2 ++ (own_encs rs ++ post)) (po + (own_enc 8 g.1).length) g.2.1 h16 n0 Z16 (by omega) hVS hd1 ⟨q23, q21, q22, q25, grr⟩) hZ (hw _ (List.mem_of_getElem? (i := 61) rfl)) (hw _ (List.mem_of_getElem? (i := 28) rfl)) (by decide) (by decide)) q30a q30c (g := (mkF m 62 #[.val (.ref x0), .val (.int (Int32.ofNat gs.length)), .val (.ref i), .val (.int (Int32.ofNat (own_sum ds + g.1))), .val (.int (Int32.ofNat ds.length))] [(.ref x0), (.int (Int32.ofNat ds.length)), (.ref aa)])) rfl (by rw [hml]; rfl) (Steps.refl _) (argsL := []) (rest := [(.int (Int32.ofNat ds.length)), (.ref aa)]) (lenOf pd_1 rfl) rfl (by show 2 * 0 + _ ≤ _; exact Nat.le_of_eq rfl) (hb hby d8_62) (fun _ _ => ⟨rfl, e29, (by decide : 4 + 0 ≤ _), (by decide : 10 + 0 ≤ _)⟩)
      dsimp only [Pt.U, Pt.locs, Pt.cells, Pt.slots] at X30 l30 y30 z30 st30 hQ30
      subst l30 y30 z30
      generalize e30 : T30.heap = h30 at hQ30
      obtain ⟨rfl, N30q, K30, rd30⟩ := hQ30
      have Z30 : n0 ≤ h30.size := Nat.le_trans Z16 K30.1
      have Kp30 : Keep h0 h30 [x0] := Kp16.trans K30 (allS (Or.inl (List.mem_of_getElem? (i := 0) rfl)) all0)
      have q31 : Fld Z h30 i "com/example/impatiens/impatiens/itpn/Instances" "transitions" "[I" (.ref ta) := q17.keep K30 (ninS (Ne.symm nxi) nin0)
      have q32 : Fld Z h30 i "com/example/impatiens/impatiens/itpn/Instances" "ages" "[J" (.ref aa) := q18.keep K30 (ninS (Ne.symm nxi) nin0)
      have q33 : Fld Z h30 i "com/example/impatiens/impatiens/itpn/Instances" "counts" "[J" (.ref ca) := q19.keep K30 (ninS (Ne.symm nxi) nin0)
      have q34 : Fld Z h30 i "com/example/impatiens/impatiens/itpn/Instances" "size" "I" (.int (Int32.ofNat gs.length)) := q20.keep K30 (ninS (Ne.symm nxi) nin0)
      have q35 : Exa Z h30 x0 "com/example/impatiens/impatiens/statespace/StateReader" := q23.keep K30
      have q36 : Exa Z h30 i "com/example/impatiens/impatiens/itpn/Instances" := q24.keep K30
      have q37 : Arv Z h30 b kB .byte (64 : Int32) (VS.map Value.int) (.int (0 : Int32)) := q25.keep K30 (ninS (Ne.symm ner) nin0)
      have q38 : Arv Z h30 ta kt .int (Int32.ofNat gs.length) (((own_ts 0 (ds ++ [g])).map Int32.ofNat).map Value.int) (.int (0 : Int32)) := q28.keep K30 (ninS (Ne.symm nx_ta) nin0)
      have q39 : Arv Z h30 aa ka .long (Int32.ofNat gs.length) ((ds.map (fun g => Int64.ofNat g.2.1)).map Value.long) (.long (0 : Int64)) := q26.keep K30 (ninS (Ne.symm nx_aa) nin0)
      have q40 : Arv Z h30 ca kc .long (Int32.ofNat gs.length) ((ds.map (fun g => Int64.ofNat g.2.2)).map Value.long) (.long (0 : Int64)) := q27.keep K30 (ninS (Ne.symm nx_ca) nin0)
      have N30 := Fr.app N16 N30q
      obtain ⟨ER30, FbR30, FpR30, VbR30, grR30⟩ := rd30
      refine own_step (T' := T30) (g' := (mkF m 65 #[.val (.ref x0), .val (.int (Int32.ofNat gs.length)), .val (.ref i), .val (.int (Int32.ofNat (own_sum ds + g.1))), .val (.int (Int32.ofNat ds.length))] [(.long (Int64.ofNat g.2.1)), (.int (Int32.ofNat ds.length)), (.ref aa)])) (fun _ k => st30.trans k) ?_
      obtain ⟨cl41, Ar41, hin41, put41⟩ := own_apd q39 (j := (Int32.ofNat ds.length)) (v := (.long (Int64.ofNat g.2.1))) (own_inb _ _ hlt (by omega)) (by rw [own_clamp _ (by omega), List.length_map, List.length_map]) rfl
      obtain ⟨T41, h41, X41, e41, W41, st41⟩ := stJ X30 hx hZ e30 Ar41 (j := (Int32.ofNat ds.length)) hin41 (g := (mkF m 65 #[.val (.ref x0), .val (.int (Int32.ofNat gs.length)), .val (.ref i), .val (.int (Int32.ofNat (own_sum ds + g.1))), .val (.int (Int32.ofNat ds.length))] [(.long (Int64.ofNat g.2.1)), (.int (Int32.ofNat ds.length)), (.ref aa)])) rfl rfl (hb hby d8_65)
      have q42 : Fld Z h41 i "com/example/impatiens/impatiens/itpn/Instances" "transitions" "[I" (.ref ta) := q31.other W41 (Or.inl ni_aai)
      have q43 : Fld Z h41 i "com/example/impatiens/impatiens/itpn/Instances" "ages" "[J" (.ref aa) := q32.other W41 (Or.inl ni_aai)
      have q44 : Fld Z h41 i "com/example/impatiens/impatiens/itpn/Instances" "counts" "[J" (.ref ca) := q33.other W41 (Or.inl ni_aai)
      have q45 : Fld Z h41 i "com/example/impatiens/impatiens/itpn/Instances" "size" "I" (.int (Int32.ofNat gs.length)) := q34.other W41 (Or.inl ni_aai)
      have q46 : Fld Z h41 x0 "com/example/impatiens/impatiens/statespace/StateReader" "bytes" "[B" (.ref b) := FbR30.other W41 (Or.inl nx_aa)
      have q47 : Fld Z h41 x0 "com/example/impatiens/impatiens/statespace/StateReader" "position" "I" (.int (Int32.ofNat ((po + (own_enc 8 g.1).length) + (own_enc 8 g.2.1).length))) := FpR30.other W41 (Or.inl nx_aa)
      have q48 : Exa Z h41 x0 "com/example/impatiens/impatiens/statespace/StateReader" := ER30.wr W41
      have q49 : Exa Z h41 i "com/example/impatiens/impatiens/itpn/Instances" := q36.wr W41
      have q50 : Arv Z h41 b kB .byte (64 : Int32) (VS.map Value.int) (.int (0 : Int32)) := q37.other W41 nba
      have q51 : Arv Z h41 ta kt .int (Int32.ofNat gs.length) (((own_ts 0 (ds ++ [g])).map Int32.ofNat).map Value.int) (.int (0 : Int32)) := q38.other W41 ntai
      have q52 : Arv Z h41 ca kc .long (Int32.ofNat gs.length) ((ds.map (fun g => Int64.ofNat g.2.2)).map Value.long) (.long (0 : Int64)) := q40.other W41 (Ne.symm naci)
      have q53 : Arv Z h41 aa ka .long (Int32.ofNat gs.length) (((ds ++ [g]).map (fun g => Int64.ofNat g.2.1)).map Value.long) (.long (0 : Int64)) := own_vs (put41 _ W41) (by rw [List.map_append, List.map_append]; rfl)
      have Z41 : n0 ≤ h41.size := Nat.le_trans Z30 (Keep.of_wr W41).1
      have N41 := Fr.snoc X41 N30 gai
      have Kp41 : Keep h0 h41 [x0] := Kp30.wr W41 (Or.inr sz_aa)
      refine own_step (T' := T41) (g' := (mkF m 66 #[.val (.ref x0), .val (.int (Int32.ofNat gs.length)), .val (.ref i), .val (.int (Int32.ofNat (own_sum ds + g.1))), .val (.int (Int32.ofNat ds.length))] [])) (fun _ k => st41 _ k) ?_
      refine own_step (T' := T41) (g' := (mkF m 67 #[.val (.ref x0), .val (.int (Int32.ofNat gs.length)), .val (.ref i), .val (.int (Int32.ofNat (own_sum ds + g.1))), .val (.int (Int32.ofNat ds.length))] [(.ref i)])) (fun _ k => XS.aloadN X41.here hx rfl (hb hby d8_66) rfl rfl k) ?_
      obtain ⟨T54, X54, e54, st54⟩ := getF X41 hx hZ hown (host := "") (Or.inl (hw _ (List.mem_of_getElem? (i := 79) rfl))) Via.refl e41 q44 (g := (mkF m 67 #[.val (.ref x0), .val (.int (Int32.ofNat gs.length)), .val (.ref i), .val (.int (Int32.ofNat (own_sum ds + g.1))), .val (.int (Int32.ofNat ds.length))] [(.ref i)])) rfl rfl (hb hby d8_67)
      refine own_step (T' := T54) (g' := (mkF m 70 #[.val (.ref x0), .val (.int (Int32.ofNat gs.length)), .val (.ref i), .val (.int (Int32.ofNat (own_sum ds + g.1))), .val (.int (Int32.ofNat ds.length))] [(.ref ca)])) (fun _ k => st54 _ k) ?_
      refine own_step (T' := T54) (g' := (mkF m 72 #[.val (.ref x0), .val (.int (Int32.ofNat gs.length)), .val (.ref i), .val (.int (Int32.ofNat (own_sum ds + g.1))), .val (.int (Int32.ofNat ds.length))] [(.int (Int32.ofNat ds.length)), (.ref ca)])) (fun _ k => XS.iload X54.here hx rfl (hb hby d8_70) rfl k) ?_
      refine own_step (T' := T54) (g' := (mkF m 73 #[.val (.ref x0), .val (.int (Int32.ofNat gs.length)), .val (.ref i), .val (.int (Int32.ofNat (own_sum ds + g.1))), .val (.int (Int32.ofNat ds.length))] [(.ref x0), (.int (Int32.ofNat ds.length)), (.ref ca)])) (fun _ k => XS.aloadN X54.here hx rfl (hb hby d8_72) rfl rfl k) ?_
      obtain ⟨cq55, kq55, q55a, q55b, q55c⟩ := isOf hZ e54 q48
      obtain ⟨_, _, ⟨T55, L55, k55, n55⟩, -, X55, ⟨Lc55, hQ55, l55, y55, z55⟩, st55⟩ := X54.virtualBack hx (y := (⟨"com/example/impatiens/impatiens/statespace/StateReader", "readLong", "()J"⟩ : MethodName)) (z := (⟨"com/example/impatiens/impatiens/statespace/StateReader", "readLong", "()J"⟩ : MethodName)) hown (mvT hZ (hw _ (List.mem_of_getElem? (i := 57) rfl))) (mvT hZ (hw _ (List.mem_of_getElem? (i := 58) rfl))) (notFace_of_selects (args := #[]) (mvT hZ (hw _ (List.mem_of_getElem? (i := 60) rfl)))) (mvT hZ (hw _ (List.mem_of_getElem? (i := 60) rfl))) (mvT hZ (hw _ (List.mem_of_getElem? (i := 59) rfl))) (by decide) (backOf (W := 2) (rm9 l Z a0 hw [] x0 b kB VS (own_encs rs ++ post) ((po + (own_enc 8 g.1).length) + (own_enc 8 g.2.1).length) g.2.2 h41 n0 Z41 (by omega) hVS hd2 ⟨q48, q46, q47, q50, grr⟩) hZ (hw _ (List.mem_of_getElem? (i := 61) rfl)) (hw _ (List.mem_of_getElem? (i := 28) rfl)) (by decide) (by decide)) q55a q55c (g := (mkF m 73 #[.val (.ref x0), .val (.int (Int32.ofNat gs.length)), .val (.ref i), .val (.int (Int32.ofNat (own_sum ds + g.1))), .val (.int (Int32.ofNat ds.length))] [(.ref x0), (.int (Int32.ofNat ds.length)), (.ref ca)])) rfl (by rw [hml]; rfl) (Steps.refl _) (argsL := []) (rest := [(.int (Int32.ofNat ds.length)), (.ref ca)]) (lenOf pd_1 rfl) rfl (by show 2 * 0 + _ ≤ _; exact Nat.le_of_eq rfl) (hb hby d8_73) (fun _ _ => ⟨rfl, e54, (by decide : 4 + 0 ≤ _), (by decide : 10 + 0 ≤ _)⟩)
      dsimp only [Pt.U, Pt.locs, Pt.cells, Pt.slots] at X55 l55 y55 z55 st55 hQ55
      subst l55 y55 z55
      generalize e55 : T55.heap = h55 at hQ55
      obtain ⟨rfl, N55q, K55, rd55⟩ := hQ55
      have Z55 : n0 ≤ h55.size := Nat.le_trans Z41 K55.1
      have Kp55 : Keep h0 h55 [x0] := Kp41.trans K55 (allS (Or.inl (List.mem_of_getElem? (i := 0) rfl)) all0)
      have q56 : Fld Z h55 i "com/example/impatiens/impatiens/itpn/Instances" "transitions" "[I" (.ref ta) := q42.keep K55 (ninS (Ne.symm nxi) nin0)
      have q57 : Fld Z h55 i "com/example/impatiens/impatiens/itpn/Instances" "ages" "[J" (.ref aa) := q43.keep K55 (ninS (Ne.symm nxi) nin0)
      have q58 : Fld Z h55 i "com/example/impatiens/impatiens/itpn/Instances" "counts" "[J" (.ref ca) := q44.keep K55 (ninS (Ne.symm nxi) nin0)
      have q59 : Fld Z h55 i "com/example/impatiens/impatiens/itpn/Instances" "size" "I" (.int (Int32.ofNat gs.length)) := q45.keep K55 (ninS (Ne.symm nxi) nin0)
      have q60 : Exa Z h55 x0 "com/example/impatiens/impatiens/statespace/StateReader" := q48.keep K55
      have q61 : Exa Z h55 i "com/example/impatiens/impatiens/itpn/Instances" := q49.keep K55
      have q62 : Arv Z h55 b kB .byte (64 : Int32) (VS.map Value.int) (.int (0 : Int32)) := q50.keep K55 (ninS (Ne.symm ner) nin0)
      have q63 : Arv Z h55 ta kt .int (Int32.ofNat gs.length) (((own_ts 0 (ds ++ [g])).map Int32.ofNat).map Value.int) (.int (0 : Int32)) := q51.keep K55 (ninS (Ne.symm nx_ta) nin0)
      have q64 : Arv Z h55 aa ka .long (Int32.ofNat gs.length) (((ds ++ [g]).map (fun g => Int64.ofNat g.2.1)).map Value.long) (.long (0 : Int64)) := q53.keep K55 (ninS (Ne.symm nx_aa) nin0)
      have q65 : Arv Z h55 ca kc .long (Int32.ofNat gs.length) ((ds.map (fun g => Int64.ofNat g.2.2)).map Value.long) (.long (0 : Int64)) := q52.keep K55 (ninS (Ne.symm nx_ca) nin0)
      have N55 := Fr.app N41 N55q
      obtain ⟨ER55, FbR55, FpR55, VbR55, grR55⟩ := rd55
      refine own_step (T' := T55) (g' := (mkF m 76 #[.val (.ref x0), .val (.int (Int32.ofNat gs.length)), .val (.ref i), .val (.int (Int32.ofNat (own_sum ds + g.1))), .val (.int (Int32.ofNat ds.length))] [(.long (Int64.ofNat g.2.2)), (.int (Int32.ofNat ds.length)), (.ref ca)])) (fun _ k => st55.trans k) ?_
      obtain ⟨cl66, Ar66, hin66, put66⟩ := own_apd q65 (j := (Int32.ofNat ds.length)) (v := (.long (Int64.ofNat g.2.2))) (own_inb _ _ hlt (by omega)) (by rw [own_clamp _ (by omega), List.length_map, List.length_map]) rfl
      obtain ⟨T66, h66, X66, e66, W66, st66⟩ := stJ X55 hx hZ e55 Ar66 (j := (Int32.ofNat ds.length)) hin66 (g := (mkF m 76 #[.val (.ref x0), .val (.int (Int32.ofNat gs.length)), .val (.ref i), .val (.int (Int32.ofNat (own_sum ds + g.1))), .val (.int (Int32.ofNat ds.length))] [(.long (Int64.ofNat g.2.2)), (.int (Int32.ofNat ds.length)), (.ref ca)])) rfl rfl (hb hby d8_76)
      have q67 : Fld Z h66 i "com/example/impatiens/impatiens/itpn/Instances" "transitions" "[I" (.ref ta) := q56.other W66 (Or.inl ni_cai)
      have q68 : Fld Z h66 i "com/example/impatiens/impatiens/itpn/Instances" "ages" "[J" (.ref aa) := q57.other W66 (Or.inl ni_cai)
      have q69 : Fld Z h66 i "com/example/impatiens/impatiens/itpn/Instances" "counts" "[J" (.ref ca) := q58.other W66 (Or.inl ni_cai)
      have q70 : Fld Z h66 i "com/example/impatiens/impatiens/itpn/Instances" "size" "I" (.int (Int32.ofNat gs.length)) := q59.other W66 (Or.inl ni_cai)
      have q71 : Fld Z h66 x0 "com/example/impatiens/impatiens/statespace/StateReader" "bytes" "[B" (.ref b) := FbR55.other W66 (Or.inl nx_ca)
      have q72 : Fld Z h66 x0 "com/example/impatiens/impatiens/statespace/StateReader" "position" "I" (.int (Int32.ofNat (((po + (own_enc 8 g.1).length) + (own_enc 8 g.2.1).length) + (own_enc 8 g.2.2).length))) := FpR55.other W66 (Or.inl nx_ca)
      have q73 : Exa Z h66 x0 "com/example/impatiens/impatiens/statespace/StateReader" := ER55.wr W66
      have q74 : Exa Z h66 i "com/example/impatiens/impatiens/itpn/Instances" := q61.wr W66
      have q75 : Arv Z h66 b kB .byte (64 : Int32) (VS.map Value.int) (.int (0 : Int32)) := q62.other W66 nbc
      have q76 : Arv Z h66 ta kt .int (Int32.ofNat gs.length) (((own_ts 0 (ds ++ [g])).map Int32.ofNat).map Value.int) (.int (0 : Int32)) := q63.other W66 ntci
      have q77 : Arv Z h66 aa ka .long (Int32.ofNat gs.length) (((ds ++ [g]).map (fun g => Int64.ofNat g.2.1)).map Value.long) (.long (0 : Int64)) := q64.other W66 naci
      have q78 : Arv Z h66 ca kc .long (Int32.ofNat gs.length) (((ds ++ [g]).map (fun g => Int64.ofNat g.2.2)).map Value.long) (.long (0 : Int64)) := own_vs (put66 _ W66) (by rw [List.map_append, List.map_append]; rfl)
      have Z66 : n0 ≤ h66.size := Nat.le_trans Z55 (Keep.of_wr W66).1
      have N66 := Fr.snoc X66 N55 gci
      have Kp66 : Keep h0 h66 [x0] := Kp55.wr W66 (Or.inr sz_ca)
      refine own_step (T' := T66) (g' := (mkF m 77 #[.val (.ref x0), .val (.int (Int32.ofNat gs.length)), .val (.ref i), .val (.int (Int32.ofNat (own_sum ds + g.1))), .val (.int (Int32.ofNat ds.length))] [])) (fun _ k => st66 _ k) ?_
      refine own_step (T' := T66) (g' := (mkF m 80 #[.val (.ref x0), .val (.int (Int32.ofNat gs.length)), .val (.ref i), .val (.int (Int32.ofNat (own_sum ds + g.1))), .val (.int ((Int32.ofNat ds.length) + (1 : Int32)))] [])) (fun _ k => XS.iinc X66.here hx rfl (hb hby d8_77) rfl (l' := #[.val (.ref x0), .val (.int (Int32.ofNat gs.length)), .val (.ref i), .val (.int (Int32.ofNat (own_sum ds + g.1))), .val (.int ((Int32.ofNat ds.length) + (1 : Int32)))]) rfl k) ?_
      have hr79 : ((Int32.ofNat ds.length) + (1 : Int32)) = (Int32.ofNat (ds ++ [g]).length) := by rw [List.length_append, List.length_singleton, own_ofNat_succ]
      rw [hr79]
      have hr80 : (Int32.ofNat (own_sum ds + g.1)) = (Int32.ofNat (own_sum (ds ++ [g]))) := by rw [own_sum_snoc]
      rw [hr80]
      refine own_step (T' := T66) (g' := (mkF m 31 #[.val (.ref x0), .val (.int (Int32.ofNat gs.length)), .val (.ref i), .val (.int (Int32.ofNat (own_sum (ds ++ [g])))), .val (.int (Int32.ofNat (ds ++ [g]).length))] [])) (fun _ k => XS.goto X66.here hx rfl (pc0 := 80) (pc' := 31) rfl (hb hby d8_80) (by decide) (by decide) k) ?_
      exact ih (ds ++ [g]) (((po + (own_enc 8 g.1).length) + (own_enc 8 g.2.1).length) + (own_enc 8 g.2.2).length) T66 _ h66 (by rw [← hgs, List.append_assoc]; rfl) hd3 Z66 Kp66 ⟨q73, q71, q72, q75, grr⟩ ⟨q74, q67, q68, q69, q70, q76, q77, q78, ⟨ntai, ntci, naci⟩, gii, gti, gai, gci⟩ nbt nba nbc sz_i sz_ta sz_aa sz_ca X66 e66 N66
  have oqr := hRD0
  obtain ⟨Er, Fbr, Fpr, Vbr, grr⟩ := oqr
  have ner : x0 ≠ b := Er.neArv Vbr (hw _ (List.mem_of_getElem? (i := 27) rfl))
  have hB : own_Goes p e below s (own_QRead Z x0 gs h0 n0) ({ frames := 2, cells := 4, slots := 10, locals := 29 } : Room).cells ({ frames := 2, cells := 4, slots := 10, locals := 29 } : Room).slots s₁ (mkF m 0 #[.val (.ref x0), .unset, .unset, .unset, .unset] []) := by
    refine own_step (T' := s₁) (g' := (mkF m 1 #[.val (.ref x0), .unset, .unset, .unset, .unset] [(.ref x0)])) (fun _ k => XS.aloadN X00.here hx rfl (hb hby d8_0) rfl rfl k) ?_
    obtain ⟨cq1, kq1, q1a, q1b, q1c⟩ := isOf hZ e00 Er
    obtain ⟨_, _, ⟨T1, L1, k1, n1⟩, -, X1, ⟨Lc1, hQ1, l1, y1, z1⟩, st1⟩ := X00.virtualBack hx (y := (⟨"com/example/impatiens/impatiens/statespace/StateReader", "readLong", "()J"⟩ : MethodName)) (z := (⟨"com/example/impatiens/impatiens/statespace/StateReader", "readLong", "()J"⟩ : MethodName)) hown (mvT hZ (hw _ (List.mem_of_getElem? (i := 57) rfl))) (mvT hZ (hw _ (List.mem_of_getElem? (i := 58) rfl))) (notFace_of_selects (args := #[]) (mvT hZ (hw _ (List.mem_of_getElem? (i := 60) rfl)))) (mvT hZ (hw _ (List.mem_of_getElem? (i := 60) rfl))) (mvT hZ (hw _ (List.mem_of_getElem? (i := 59) rfl))) (by decide) (backOf (W := 0) (rm9 l Z a0 hw [] x0 b kB VS (own_encs gs ++ post) p0 gs.length h0 n0 Z0 (by omega) hVS hAt ⟨Er, Fbr, Fpr, Vbr, grr⟩) hZ (hw _ (List.mem_of_getElem? (i := 61) rfl)) (hw _ (List.mem_of_getElem? (i := 28) rfl)) (by decide) (by decide)) q1a q1c (g := (mkF m 1 #[.val (.ref x0), .unset, .unset, .unset, .unset] [(.ref x0)])) rfl (by rw [hml]; rfl) (Steps.refl _) (argsL := []) (rest := []) (lenOf pd_1 rfl) rfl (by show 2 * 0 + _ ≤ _; exact Nat.le_of_eq rfl) (hb hby d8_1) (fun _ _ => ⟨rfl, e00, (by decide : 0 + 0 ≤ _), (by decide : 0 + 0 ≤ _)⟩)
    dsimp only [Pt.U, Pt.locs, Pt.cells, Pt.slots] at X1 l1 y1 z1 st1 hQ1
    subst l1 y1 z1
    generalize e1 : T1.heap = h1 at hQ1
    obtain ⟨rfl, N1q, K1, rd1⟩ := hQ1
    have Z1 : n0 ≤ h1.size := Nat.le_trans Z0 K1.1
    have Kp1 : Keep h0 h1 [x0] := (Keep.refl h0 [x0]).trans K1 (allS (Or.inl (List.mem_of_getElem? (i := 0) rfl)) all0)
    have q2 : Exa Z h1 x0 "com/example/impatiens/impatiens/statespace/StateReader" := Er.keep K1
    have q3 : Arv Z h1 b kB .byte (64 : Int32) (VS.map Value.int) (.int (0 : Int32)) := Vbr.keep K1 (ninS (Ne.symm ner) nin0)
    have N1 := Fr.app N00 N1q
    obtain ⟨ER1, FbR1, FpR1, VbR1, grR1⟩ := rd1
    refine own_step (T' := T1) (g' := (mkF m 4 #[.val (.ref x0), .unset, .unset, .unset, .unset] [(.long (Int64.ofNat gs.length))])) (fun _ k => st1.trans k) ?_
    obtain ⟨_, _, ⟨T4, L4, k4, n4⟩, -, X4, ⟨Lc4, hQ4, l4, y4, z4⟩, st4⟩ := Jvm.LawKit.callS X1 hx (y := (⟨"java/lang/Math", "toIntExact", "(J)I"⟩ : MethodName)) hown (mvT hZ (hw _ (List.mem_of_getElem? (i := 64) rfl))) (mvT hZ (hw _ (List.mem_of_getElem? (i := 65) rfl))) (mvT hZ (hw _ (List.mem_of_getElem? (i := 4) rfl))) (mvT hZ (hw _ (List.mem_of_getElem? (i := 66) rfl))) (by decide) (backOf (W := 0) (rm10 l Z a0 hw [] (Int64.ofNat gs.length) gs.length h1 n0 Z1 rfl (by omega)) hZ (hw _ (List.mem_of_getElem? (i := 66) rfl)) (hw _ (List.mem_of_getElem? (i := 4) rfl)) (by decide) (by decide)) (g := (mkF m 4 #[.val (.ref x0), .unset, .unset, .unset, .unset] [(.long (Int64.ofNat gs.length))])) rfl (by rw [hml]; rfl) (argsL := [(.long (Int64.ofNat gs.length))]) (rest := []) (lenOf pd_2 rfl) rfl (by show 2 * 0 + _ ≤ _; exact Nat.le_of_eq rfl) (hb hby d8_4) (fun _ _ => ⟨rfl, e1, (by decide : 0 + 0 ≤ _), (by decide : 0 + 0 ≤ _)⟩)
    dsimp only [Pt.U, Pt.locs, Pt.cells, Pt.slots] at X4 l4 y4 z4 st4 hQ4
    subst l4 y4 z4
    obtain ⟨rfl, N4q, e4⟩ := hQ4
    have N4 := Fr.app N1 N4q
    refine own_step (T' := T4) (g' := (mkF m 7 #[.val (.ref x0), .unset, .unset, .unset, .unset] [(.int (Int32.ofNat gs.length))])) (fun _ k => st4 _ k) ?_
    refine own_step (T' := T4) (g' := (mkF m 8 #[.val (.ref x0), .val (.int (Int32.ofNat gs.length)), .unset, .unset, .unset] [])) (fun _ k => XS.istoreN X4.here hx rfl (hb hby d8_7) rfl (l' := #[.val (.ref x0), .val (.int (Int32.ofNat gs.length)), .unset, .unset, .unset]) rfl k) ?_
    obtain ⟨T5, h5, X5, e5, E5, A5, D5, -, st5⟩ := newO X4 hx hZ hown (hw _ (List.mem_of_getElem? (i := 67) rfl)) (hw _ (List.mem_of_getElem? (i := 68) rfl)) (hw _ (List.mem_of_getElem? (i := 55) rfl)) e4 (g := (mkF m 8 #[.val (.ref x0), .val (.int (Int32.ofNat gs.length)), .unset, .unset, .unset] [])) rfl (hb hby d8_8) (by decide) (by decide)
    obtain ⟨b5, g5⟩ : ∃ z, z = h1.size := ⟨_, rfl⟩
    rw [← g5] at A5 D5 st5
    have ne5_b : b ≠ b5 := Nat.ne_of_lt (Nat.lt_of_lt_of_le q3.lt (Nat.le_of_eq g5.symm))
    have ne5_x0 : x0 ≠ b5 := Nat.ne_of_lt (Nat.lt_of_lt_of_le FbR1.lt (Nat.le_of_eq g5.symm))
    have q6 : Fld Z h5 x0 "com/example/impatiens/impatiens/statespace/StateReader" "bytes" "[B" (.ref b) := FbR1.ext E5
    have q7 : Fld Z h5 x0 "com/example/impatiens/impatiens/statespace/StateReader" "position" "I" (.int (Int32.ofNat (p0 + (own_enc 8 gs.length).length))) := FpR1.ext E5
    have q8 : Exa Z h5 x0 "com/example/impatiens/impatiens/statespace/StateReader" := ER1.ext E5
    have q9 : Arv Z h5 b kB .byte (64 : Int32) (VS.map Value.int) (.int (0 : Int32)) := q3.ext E5
    have q10 : Fld Z h5 b5 "com/example/impatiens/impatiens/itpn/Instances" "transitions" "[I" .null := D5 (Or.inl (hw _ (List.mem_of_getElem? (i := 76) rfl))) (ty := (.array .int)) (by decide)
    have q11 : Fld Z h5 b5 "com/example/impatiens/impatiens/itpn/Instances" "ages" "[J" .null := D5 (Or.inl (hw _ (List.mem_of_getElem? (i := 78) rfl))) (ty := (.array .long)) (by decide)
    have q12 : Fld Z h5 b5 "com/example/impatiens/impatiens/itpn/Instances" "counts" "[J" .null := D5 (Or.inl (hw _ (List.mem_of_getElem? (i := 80) rfl))) (ty := (.array .long)) (by decide)
    have q13 : Fld Z h5 b5 "com/example/impatiens/impatiens/itpn/Instances" "size" "I" (.int (0 : Int32)) := D5 (Or.inl (hw _ (List.mem_of_getElem? (i := 82) rfl))) (ty := .int) (by decide)
    have g_b5 : n0 ≤ b5 := Nat.le_trans Z1 (Nat.le_of_eq g5.symm)
    have sz_b5 : h0.size ≤ b5 := Nat.le_trans Kp1.1 (Nat.le_of_eq g5.symm)
    have Z5 : n0 ≤ h5.size := Nat.le_trans Z1 E5.1
    have Kp5 : Keep h0 h5 [x0] := Kp1.ext E5
    refine own_step (T' := T5) (g' := (mkF m 11 #[.val (.ref x0), .val (.int (Int32.ofNat gs.length)), .unset, .unset, .unset] [(.ref b5)])) (fun _ k => st5 _ k) ?_
    refine own_step (T' := T5) (g' := (mkF m 12 #[.val (.ref x0), .val (.int (Int32.ofNat gs.length)), .unset, .unset, .unset] [(.ref b5), (.ref b5)])) (fun _ k => XS.dup X5.here hx rfl (hb hby d8_11) rfl rfl k) ?_
    refine own_step (T' := T5) (g' := (mkF m 13 #[.val (.ref x0), .val (.int (Int32.ofNat gs.length)), .unset, .unset, .unset] [(.int (Int32.ofNat gs.length)), (.ref b5), (.ref b5)])) (fun _ k => XS.iloadN X5.here hx rfl (hb hby d8_12) rfl k) ?_
    obtain ⟨T14, h14, k14, X14, e14, E14, A14, Q14, st14⟩ := newPE X5 hx hZ (hw _ (List.mem_of_getElem? (i := 69) rfl)) e5 (g := (mkF m 13 #[.val (.ref x0), .val (.int (Int32.ofNat gs.length)), .unset, .unset, .unset] [(.int (Int32.ofNat gs.length)), (.ref b5), (.ref b5)])) rfl (hb hby d8_13) rfl (own_notneg _ hn2) (cap := 2) (own_cap2 _ hn2) (by decide) (by decide) (by decide) (ad := "[I") (by decide)
    obtain ⟨b14, g14⟩ : ∃ z, z = h5.size := ⟨_, rfl⟩
    rw [← g14] at A14 Q14 st14
    have ne14_b : b ≠ b14 := Nat.ne_of_lt (Nat.lt_of_lt_of_le q9.lt (Nat.le_of_eq g14.symm))
    have ne14_b5 : b5 ≠ b14 := Nat.ne_of_lt (Nat.lt_of_lt_of_le q10.lt (Nat.le_of_eq g14.symm))
    have ne14_x0 : x0 ≠ b14 := Nat.ne_of_lt (Nat.lt_of_lt_of_le q6.lt (Nat.le_of_eq g14.symm))
    have q15 : Fld Z h14 x0 "com/example/impatiens/impatiens/statespace/StateReader" "bytes" "[B" (.ref b) := q6.ext E14
    have q16 : Fld Z h14 x0 "com/example/impatiens/impatiens/statespace/StateReader" "position" "I" (.int (Int32.ofNat (p0 + (own_enc 8 gs.length).length))) := q7.ext E14
    have q17 : Fld Z h14 b5 "com/example/impatiens/impatiens/itpn/Instances" "transitions" "[I" .null := q10.ext E14
    have q18 : Fld Z h14 b5 "com/example/impatiens/impatiens/itpn/Instances" "ages" "[J" .null := q11.ext E14
    have q19 : Fld Z h14 b5 "com/example/impatiens/impatiens/itpn/Instances" "counts" "[J" .null := q12.ext E14
    have q20 : Fld Z h14 b5 "com/example/impatiens/impatiens/itpn/Instances" "size" "I" (.int (0 : Int32)) := q13.ext E14
    have q21 : Exa Z h14 x0 "com/example/impatiens/impatiens/statespace/StateReader" := q8.ext E14
    have q22 : Exa Z h14 b5 "com/example/impatiens/impatiens/itpn/Instances" := A5.ext E14
    have q23 : Arv Z h14 b kB .byte (64 : Int32) (VS.map Value.int) (.int (0 : Int32)) := q9.ext E14
    have q24 : Arv Z h14 b14 k14 .int (Int32.ofNat gs.length) [] (.int (0 : Int32)) := Arv.new A14 (own_notneg _ hn2)
    have g_b14 : n0 ≤ b14 := Nat.le_trans Z5 (Nat.le_of_eq g14.symm)
    have sz_b14 : h0.size ≤ b14 := Nat.le_trans Kp5.1 (Nat.le_of_eq g14.symm)
    have Z14 : n0 ≤ h14.size := Nat.le_trans Z5 E14.1
    have Kp14 : Keep h0 h14 [x0] := Kp5.ext E14
    refine own_step (T' := T14) (g' := (mkF m 15 #[.val (.ref x0), .val (.int (Int32.ofNat gs.length)), .unset, .unset, .unset] [(.ref b14), (.ref b5), (.ref b5)])) (fun _ k => st14 _ k) ?_
    refine own_step (T' := T14) (g' := (mkF m 16 #[.val (.ref x0), .val (.int (Int32.ofNat gs.length)), .unset, .unset, .unset] [(.int (Int32.ofNat gs.length)), (.ref b14), (.ref b5), (.ref b5)])) (fun _ k => XS.iloadN X14.here hx rfl (hb hby d8_15) rfl k) ?_
    obtain ⟨T25, h25, k25, X25, e25, E25, A25, Q25, st25⟩ := newPE X14 hx hZ (hw _ (List.mem_of_getElem? (i := 70) rfl)) e14 (g := (mkF m 16 #[.val (.ref x0), .val (.int (Int32.ofNat gs.length)), .unset, .unset, .unset] [(.int (Int32.ofNat gs.length)), (.ref b14), (.ref b5), (.ref b5)])) rfl (hb hby d8_16) rfl (own_notneg _ hn2) (cap := 2) (own_cap2 _ hn2) (by decide) (by decide) (by decide) (ad := "[J") (by decide)
    obtain ⟨b25, g25⟩ : ∃ z, z = h14.size := ⟨_, rfl⟩
    rw [← g25] at A25 Q25 st25
    have ne25_b : b ≠ b25 := Nat.ne_of_lt (Nat.lt_of_lt_of_le q23.lt (Nat.le_of_eq g25.symm))
    have ne25_b14 : b14 ≠ b25 := Nat.ne_of_lt (Nat.lt_of_lt_of_le Q14.lt (Nat.le_of_eq g25.symm))
    have ne25_b5 : b5 ≠ b25 := Nat.ne_of_lt (Nat.lt_of_lt_of_le q17.lt (Nat.le_of_eq g25.symm))
    have ne25_x0 : x0 ≠ b25 := Nat.ne_of_lt (Nat.lt_of_lt_of_le q15.lt (Nat.le_of_eq g25.symm))
    have q26 : Fld Z h25 x0 "com/example/impatiens/impatiens/statespace/StateReader" "bytes" "[B" (.ref b) := q15.ext E25
    have q27 : Fld Z h25 x0 "com/example/impatiens/impatiens/statespace/StateReader" "position" "I" (.int (Int32.ofNat (p0 + (own_enc 8 gs.length).length))) := q16.ext E25
    have q28 : Fld Z h25 b5 "com/example/impatiens/impatiens/itpn/Instances" "transitions" "[I" .null := q17.ext E25
    have q29 : Fld Z h25 b5 "com/example/impatiens/impatiens/itpn/Instances" "ages" "[J" .null := q18.ext E25
    have q30 : Fld Z h25 b5 "com/example/impatiens/impatiens/itpn/Instances" "counts" "[J" .null := q19.ext E25
    have q31 : Fld Z h25 b5 "com/example/impatiens/impatiens/itpn/Instances" "size" "I" (.int (0 : Int32)) := q20.ext E25
    have q32 : Exa Z h25 x0 "com/example/impatiens/impatiens/statespace/StateReader" := q21.ext E25
    have q33 : Exa Z h25 b5 "com/example/impatiens/impatiens/itpn/Instances" := q22.ext E25
    have q34 : Exa Z h25 b14 "[I" := Q14.ext E25
    have q35 : Arv Z h25 b kB .byte (64 : Int32) (VS.map Value.int) (.int (0 : Int32)) := q23.ext E25
    have q36 : Arv Z h25 b14 k14 .int (Int32.ofNat gs.length) [] (.int (0 : Int32)) := q24.ext E25
    have q37 : Arv Z h25 b25 k25 .long (Int32.ofNat gs.length) [] (.long (0 : Int64)) := Arv.new A25 (own_notneg _ hn2)
    have g_b25 : n0 ≤ b25 := Nat.le_trans Z14 (Nat.le_of_eq g25.symm)
    have sz_b25 : h0.size ≤ b25 := Nat.le_trans Kp14.1 (Nat.le_of_eq g25.symm)
    have Z25 : n0 ≤ h25.size := Nat.le_trans Z14 E25.1
    have Kp25 : Keep h0 h25 [x0] := Kp14.ext E25
    refine own_step (T' := T25) (g' := (mkF m 18 #[.val (.ref x0), .val (.int (Int32.ofNat gs.length)), .unset, .unset, .unset] [(.ref b25), (.ref b14), (.ref b5), (.ref b5)])) (fun _ k => st25 _ k) ?_
    refine own_step (T' := T25) (g' := (mkF m 19 #[.val (.ref x0), .val (.int (Int32.ofNat gs.length)), .unset, .unset, .unset] [(.int (Int32.ofNat gs.length)), (.ref b25), (.ref b14), (.ref b5), (.ref b5)])) (fun _ k => XS.iloadN X25.here hx rfl (hb hby d8_18) rfl k) ?_
    obtain ⟨T38, h38, k38, X38, e38, E38, A38, Q38, st38⟩ := newPE X25 hx hZ (hw _ (List.mem_of_getElem? (i := 70) rfl)) e25 (g := (mkF m 19 #[.val (.ref x0), .val (.int (Int32.ofNat gs.length)), .unset, .unset, .unset] [(.int (Int32.ofNat gs.length)), (.ref b25), (.ref b14), (.ref b5), (.ref b5)])) rfl (hb hby d8_19) rfl (own_notneg _ hn2) (cap := 2) (own_cap2 _ hn2) (by decide) (by decide) (by decide) (ad := "[J") (by decide)
    obtain ⟨b38, g38⟩ : ∃ z, z = h25.size := ⟨_, rfl⟩
    rw [← g38] at A38 Q38 st38
    have ne38_b : b ≠ b38 := Nat.ne_of_lt (Nat.lt_of_lt_of_le q35.lt (Nat.le_of_eq g38.symm))
    have ne38_b14 : b14 ≠ b38 := Nat.ne_of_lt (Nat.lt_of_lt_of_le q34.lt (Nat.le_of_eq g38.symm))
    have ne38_b25 : b25 ≠ b38 := Nat.ne_of_lt (Nat.lt_of_lt_of_le Q25.lt (Nat.le_of_eq g38.symm))
    have ne38_b5 : b5 ≠ b38 := Nat.ne_of_lt (Nat.lt_of_lt_of_le q28.lt (Nat.le_of_eq g38.symm))
    have ne38_x0 : x0 ≠ b38 := Nat.ne_of_lt (Nat.lt_of_lt_of_le q26.lt (Nat.le_of_eq g38.symm))
    have q39 : Fld Z h38 x0 "com/example/impatiens/impatiens/statespace/StateReader" "bytes" "[B" (.ref b) := q26.ext E38
    have q40 : Fld Z h38 x0 "com/example/impatiens/impatiens/statespace/StateReader" "position" "I" (.int (Int32.ofNat (p0 + (own_enc 8 gs.length).length))) := q27.ext E38
    have q41 : Fld Z h38 b5 "com/example/impatiens/impatiens/itpn/Instances" "transitions" "[I" .null := q28.ext E38
    have q42 : Fld Z h38 b5 "com/example/impatiens/impatiens/itpn/Instances" "ages" "[J" .null := q29.ext E38
    have q43 : Fld Z h38 b5 "com/example/impatiens/impatiens/itpn/Instances" "counts" "[J" .null := q30.ext E38
    have q44 : Fld Z h38 b5 "com/example/impatiens/impatiens/itpn/Instances" "size" "I" (.int (0 : Int32)) := q31.ext E38
    have q45 : Exa Z h38 x0 "com/example/impatiens/impatiens/statespace/StateReader" := q32.ext E38
    have q46 : Exa Z h38 b5 "com/example/impatiens/impatiens/itpn/Instances" := q33.ext E38
    have q47 : Exa Z h38 b14 "[I" := q34.ext E38
    have q48 : Exa Z h38 b25 "[J" := Q25.ext E38
    have q49 : Arv Z h38 b kB .byte (64 : Int32) (VS.map Value.int) (.int (0 : Int32)) := q35.ext E38
    have q50 : Arv Z h38 b14 k14 .int (Int32.ofNat gs.length) [] (.int (0 : Int32)) := q36.ext E38
    have q51 : Arv Z h38 b25 k25 .long (Int32.ofNat gs.length) [] (.long (0 : Int64)) := q37.ext E38
    have q52 : Arv Z h38 b38 k38 .long (Int32.ofNat gs.length) [] (.long (0 : Int64)) := Arv.new A38 (own_notneg _ hn2)
    have g_b38 : n0 ≤ b38 := Nat.le_trans Z25 (Nat.le_of_eq g38.symm)
    have sz_b38 : h0.size ≤ b38 := Nat.le_trans Kp25.1 (Nat.le_of_eq g38.symm)
    have Z38 : n0 ≤ h38.size := Nat.le_trans Z25 E38.1
    have Kp38 : Keep h0 h38 [x0] := Kp25.ext E38
    refine own_step (T' := T38) (g' := (mkF m 21 #[.val (.ref x0), .val (.int (Int32.ofNat gs.length)), .unset, .unset, .unset] [(.ref b38), (.ref b25), (.ref b14), (.ref b5), (.ref b5)])) (fun _ k => st38 _ k) ?_
    refine own_step (T' := T38) (g' := (mkF m 22 #[.val (.ref x0), .val (.int (Int32.ofNat gs.length)), .unset, .unset, .unset] [(.int (Int32.ofNat gs.length)), (.ref b38), (.ref b25), (.ref b14), (.ref b5), (.ref b5)])) (fun _ k => XS.iloadN X38.here hx rfl (hb hby d8_21) rfl k) ?_
    obtain ⟨_, _, ⟨T53, L53, k53, n53⟩, -, X53, ⟨Lc53, hQ53, l53, y53, z53⟩, st53⟩ := X38.specialBack hx (y := (⟨"com/example/impatiens/impatiens/itpn/Instances", "<init>", "([I[J[JI)V"⟩ : MethodName)) rfl hown (mvT hZ (hw _ (List.mem_of_getElem? (i := 71) rfl))) (mvT hZ (hw _ (List.mem_of_getElem? (i := 72) rfl))) (mvT hZ (hw _ (List.mem_of_getElem? (i := 73) rfl))) (by decide) (backOf (W := 1) (rm11 l Z a0 hw [] b5 b14 b25 b38 (Int32.ofNat gs.length) .null .null .null (.int (0 : Int32)) h38 n0 Z38 q46 g_b5 q41 q42 q43 q44) hZ (hw _ (List.mem_of_getElem? (i := 73) rfl)) (hw _ (List.mem_of_getElem? (i := 55) rfl)) (by decide) (by decide)) (g := (mkF m 22 #[.val (.ref x0), .val (.int (Int32.ofNat gs.length)), .unset, .unset, .unset] [(.int (Int32.ofNat gs.length)), (.ref b38), (.ref b25), (.ref b14), (.ref b5), (.ref b5)])) rfl (by rw [hml]; rfl) (Steps.refl _) (a := b5) (argsL := [(.ref b14), (.ref b25), (.ref b38), (.int (Int32.ofNat gs.length))]) (rest := [(.ref b5)]) (lenOf pd_3 rfl) rfl (by show 2 * 0 + _ ≤ _; exact Nat.le_of_eq rfl) (hb hby d8_22) (fun _ _ => ⟨rfl, e38, (by decide : 4 + 0 ≤ _), (by decide : 10 + 0 ≤ _)⟩)
    dsimp only [Pt.U, Pt.locs, Pt.cells, Pt.slots] at X53 l53 y53 z53 st53 hQ53
    subst l53 y53 z53
    generalize e53 : T53.heap = h53 at hQ53
    obtain ⟨rfl, N53q, K53, Ei53, Ft53, Fa53, Fc53, Fn53⟩ := hQ53
    have Z53 : n0 ≤ h53.size := Nat.le_trans Z38 K53.1
    have Kp53 : Keep h0 h53 [x0] := Kp38.trans K53 (allS (Or.inr sz_b5) all0)
    have q54 : Fld Z h53 x0 "com/example/impatiens/impatiens/statespace/StateReader" "bytes" "[B" (.ref b) := q39.keep K53 (ninS ne5_x0 nin0)
    have q55 : Fld Z h53 x0 "com/example/impatiens/impatiens/statespace/StateReader" "position" "I" (.int (Int32.ofNat (p0 + (own_enc 8 gs.length).length))) := q40.keep K53 (ninS ne5_x0 nin0)
    have q56 : Exa Z h53 x0 "com/example/impatiens/impatiens/statespace/StateReader" := q45.keep K53
    have q57 : Exa Z h53 b5 "com/example/impatiens/impatiens/itpn/Instances" := q46.keep K53
    have q58 : Exa Z h53 b14 "[I" := q47.keep K53
    have q59 : Exa Z h53 b25 "[J" := q48.keep K53
    have q60 : Exa Z h53 b38 "[J" := Q38.keep K53
    have q61 : Arv Z h53 b kB .byte (64 : Int32) (VS.map Value.int) (.int (0 : Int32)) := q49.keep K53 (ninS ne5_b nin0)
    have q62 : Arv Z h53 b14 k14 .int (Int32.ofNat gs.length) [] (.int (0 : Int32)) := q50.keep K53 (ninS (Ne.symm ne14_b5) nin0)
    have q63 : Arv Z h53 b25 k25 .long (Int32.ofNat gs.length) [] (.long (0 : Int64)) := q51.keep K53 (ninS (Ne.symm ne25_b5) nin0)
    have q64 : Arv Z h53 b38 k38 .long (Int32.ofNat gs.length) [] (.long (0 : Int64)) := q52.keep K53 (ninS (Ne.symm ne38_b5) nin0)
    have N53 := Fr.app N4 N53q
    refine own_step (T' := T53) (g' := (mkF m 25 #[.val (.ref x0), .val (.int (Int32.ofNat gs.length)), .unset, .unset, .unset] [(.ref b5)])) (fun _ k => st53.trans k) ?_
    refine own_step (T' := T53) (g' := (mkF m 26 #[.val (.ref x0), .val (.int (Int32.ofNat gs.length)), .val (.ref b5), .unset, .unset] [])) (fun _ k => XS.astoreN X53.here hx rfl (hb hby d8_25) rfl rfl (l' := #[.val (.ref x0), .val (.int (Int32.ofNat gs.length)), .val (.ref b5), .unset, .unset]) rfl k) ?_
    refine own_step (T' := T53) (g' := (mkF m 27 #[.val (.ref x0), .val (.int (Int32.ofNat gs.length)), .val (.ref b5), .unset, .unset] [(.int (0 : Int32))])) (fun _ k => XS.iconst X53.here hx rfl (hb hby d8_26) k) ?_
    refine own_step (T' := T53) (g' := (mkF m 28 #[.val (.ref x0), .val (.int (Int32.ofNat gs.length)), .val (.ref b5), .val (.int (0 : Int32)), .unset] [])) (fun _ k => XS.istoreN X53.here hx rfl (hb hby d8_27) rfl (l' := #[.val (.ref x0), .val (.int (Int32.ofNat gs.length)), .val (.ref b5), .val (.int (0 : Int32)), .unset]) rfl k) ?_
    refine own_step (T' := T53) (g' := (mkF m 29 #[.val (.ref x0), .val (.int (Int32.ofNat gs.length)), .val (.ref b5), .val (.int (0 : Int32)), .unset] [(.int (0 : Int32))])) (fun _ k => XS.iconst X53.here hx rfl (hb hby d8_28) k) ?_
    refine own_step (T' := T53) (g' := (mkF m 31 #[.val (.ref x0), .val (.int (Int32.ofNat gs.length)), .val (.ref b5), .val (.int (0 : Int32)), .val (.int (0 : Int32))] [])) (fun _ k => XS.istore X53.here hx rfl (hb hby d8_29) rfl (l' := #[.val (.ref x0), .val (.int (Int32.ofNat gs.length)), .val (.ref b5), .val (.int (0 : Int32)), .val (.int (0 : Int32))]) rfl k) ?_
    exact B31 b5 b14 b25 b38 k14 k25 k38 gs [] (p0 + (own_enc 8 gs.length).length) T53 _ h53 rfl (own_drop hAt) Z53 Kp53 ⟨q56, q54, q55, q61, grr⟩ ⟨Ei53, Ft53, Fa53, Fc53, Fn53, q62, q63, q64, ⟨ne25_b14, ne38_b14, ne38_b25⟩, g_b5, g_b14, g_b25, g_b38⟩ ne14_b ne25_b ne38_b sz_b5 sz_b14 sz_b25 sz_b38 X53 e53 N53
  obtain ⟨s₂, o, q1, q2, q3, v, L, q4, q5, q6⟩ := hB
  exact ⟨s₂, o, castTop (ef_8 m x0) q1, q2, q3, v, L, q4, q5, q6⟩
set_option maxRecDepth 65536 in
set_option maxHeartbeats 40000000 in
theorem rm12 (l : Launch) (Z : State) (a0 : Array Value) (hw : ∀ d ∈ tables_1, d.before a0 Z = true) (ws : List Jvm.Cond) (x0 : Addr) (ta aa ca : Addr) (kt ka kc : ClassId) (n : Nat) (ts : List Int32) (as cs : List Int64) (h0 : Heap) (n0 : Nat) (Z0 : n0 ≤ h0.size) (hn2 : n ≤ 2) (hlen0 : as.length = n) (hIS0 : own_IS Z n0 h0 x0 ta aa ca kt ka kc n ts as cs) :
    MetFree l (⟨"com/example/impatiens/impatiens/itpn/Instances", "tick", "()V"⟩ : MethodName) (head1 (Jvm.Cond.code (⟨"com/example/impatiens/impatiens/itpn/Instances", "tick", "()V"⟩ : MethodName) prog_14_method_7_code 2 none :: ws) ({ frames := 0, cells := 0, slots := 0, locals := 0 } : Room)) (fun a U => a = #[(.ref x0)] ∧ Z.Warmed39 U.vm ∧ U.heap = h0) (fun _ _ _ _ _ => True) (fun _ U o U' => ∃ v L, o = .returned v ∧ own_QTick Z x0 ta aa ca kt ka kc n ts (as.map (· + 1)) cs h0 n0 v U'.heap L ∧ FrameEnd U o U' L ({ frames := 0, cells := 0, slots := 0, locals := 0 } : Room).cells ({ frames := 0, cells := 0, slots := 0, locals := 0 } : Room).slots) := by
  refine MetFree.of_bodySF (plainFor_of_name pn_12) hisR ?_
  intro p e s m args below meth c s₁ Bd hml0 hP hK
  obtain ⟨rfl, hZ, hh0⟩ := hP
  have hx := Bd.exec
  have hby := Bd.bytes
  have hml : c.maxLocals = 2 := hml0
  have hown : s.vm.findClass "com/example/impatiens/impatiens/itpn/Instances" = some m.cls := findClass_of_methodNamed Bd.named
  have hnm := (name_of_methodNamed Bd.named Bd.method).1
  have X00 : Stand p l e ({ frames := 0, cells := 0, slots := 0, locals := 0 } : Room) s m #[(.ref x0)] below meth c s₁ [] 0 0 := Stand.of_body Bd
  have e00 : s₁.heap = h0 := by rw [← hh0, Bd.state]; rfl
  have N00 := Fr.nil n0
  have B2 : ∀ (rs ds : List Int64) (T0 : State) (locs : List Loc) (hh : Heap), ds.length + rs.length = n → ds ++ rs.map (· + 1) = as.map (· + 1) → n0 ≤ hh.size → Keep h0 hh [aa] → own_IS Z n0 hh x0 ta aa ca kt ka kc n ts (ds ++ rs) cs → Stand p l e ({ frames := 0, cells := 0, slots := 0, locals := 0 } : Room) s m #[(.ref x0)] below meth c T0 locs 0 0 → T0.heap = hh → Fr n0 locs → own_Goes p e below s (own_QTick Z x0 ta aa ca kt ka kc n ts (as.map (· + 1)) cs h0 n0) ({ frames := 0, cells := 0, slots := 0, locals := 0 } : Room).cells ({ frames := 0, cells := 0, slots := 0, locals := 0 } : Room).slots T0 (mkF m 2 #[.val (.ref x0), .val (.int (Int32.ofNat ds.length))] []) := by
    intro rs
    induction rs with
    | nil =>
      intro ds T0 locs hh hlen hR Zh Kh hIS X0 e0 N0
      have hIS0 := hIS
      have oqi := hIS
      obtain ⟨Ei, Fti, Fai, Fci, Fni, Vti, Vai, Vci, ⟨ntai, ntci, naci⟩, gii, gti, gai, gci⟩ := oqi
      have ni_tai : x0 ≠ ta := Ei.neArv Vti (hw _ (List.mem_of_getElem? (i := 68) rfl))
      have ni_aai : x0 ≠ aa := Ei.neArv Vai (hw _ (List.mem_of_getElem? (i := 68) rfl))
      have ni_cai : x0 ≠ ca := Ei.neArv Vci (hw _ (List.mem_of_getElem? (i := 68) rfl))
      refine own_step (T' := T0) (g' := (mkF m 3 #[.val (.ref x0), .val (.int (Int32.ofNat ds.length))] [(.int (Int32.ofNat ds.length))])) (fun _ k => XS.iloadN X0.here hx rfl (hb hby d12_2) rfl k) ?_
      refine own_step (T' := T0) (g' := (mkF m 4 #[.val (.ref x0), .val (.int (Int32.ofNat ds.length))] [(.ref x0), (.int (Int32.ofNat ds.length))])) (fun _ k => XS.aloadN X0.here hx rfl (hb hby d12_3) rfl rfl k) ?_
      obtain ⟨T1, X1, e1, st1⟩ := getF X0 hx hZ hown (host := "") (Or.inl (hw _ (List.mem_of_getElem? (i := 81) rfl))) Via.refl e0 Fni (g := (mkF m 4 #[.val (.ref x0), .val (.int (Int32.ofNat ds.length))] [(.ref x0), (.int (Int32.ofNat ds.length))])) rfl rfl (hb hby d12_4)
      refine own_step (T' := T1) (g' := (mkF m 7 #[.val (.ref x0), .val (.int (Int32.ofNat ds.length))] [(.int (Int32.ofNat n)), (.int (Int32.ofNat ds.length))])) (fun _ k => st1 _ k) ?_
      have hc2 : ¬ ((Int32.ofNat ds.length) < (Int32.ofNat n)) := own_nltN _ _ (by omega) (by simp at hlen; omega)
      refine own_step (T' := T1) (g' := (mkF m 26 #[.val (.ref x0), .val (.int (Int32.ofNat ds.length))] [])) (fun _ k => XS.icmpYes X1.here hx rfl (pc0 := 7) (pc' := 26) rfl (hb hby d12_7) rfl (flt hc2).2.1 (by decide) (by decide) k) ?_
      exact own_ret X1 Bd (v := none) (fun _ => rfl) (fun fs q => X1.returnOut hx Bd.returns (hb hby d12_26) q) (show own_QTick Z x0 ta aa ca kt ka kc n ts (as.map (· + 1)) cs h0 n0 _ _ _ from by rw [e1]; exact ⟨rfl, N0, Kh, by rw [← hR]; simpa using hIS0⟩) (by decide) (by decide)
    | cons x rs ih =>
      intro ds T0 locs hh hlen hR Zh Kh hIS X0 e0 N0
      have hlt : ds.length < n := by simp at hlen; omega
      have oqi := hIS
      obtain ⟨Ei, Fti, Fai, Fci, Fni, Vti, Vai, Vci, ⟨ntai, ntci, naci⟩, gii, gti, gai, gci⟩ := oqi
      have ni_tai : x0 ≠ ta := Ei.neArv Vti (hw _ (List.mem_of_getElem? (i := 68) rfl))
      have ni_aai : x0 ≠ aa := Ei.neArv Vai (hw _ (List.mem_of_getElem? (i := 68) rfl))
      have ni_cai : x0 ≠ ca := Ei.neArv Vci (hw _ (List.mem_of_getElem? (i := 68) rfl))
      refine own_step (T' := T0) (g' := (mkF m 3 #[.val (.ref x0), .val (.int (Int32.ofNat ds.length))] [(.int (Int32.ofNat ds.length))])) (fun _ k => XS.iloadN X0.here hx rfl (hb hby d12_2) rfl k) ?_
      refine own_step (T' := T0) (g' := (mkF m 4 #[.val (.ref x0), .val (.int (Int32.ofNat ds.length))] [(.ref x0), (.int (Int32.ofNat ds.length))])) (fun _ k => XS.aloadN X0.here hx rfl (hb hby d12_3) rfl rfl k) ?_
      obtain ⟨T1, X1, e1, st1⟩ := getF X0 hx hZ hown (host := "") (Or.inl (hw _ (List.mem_of_getElem? (i := 81) rfl))) Via.refl e0 Fni (g := (mkF m 4 #[.val (.ref x0), .val (.int (Int32.ofNat ds.length))] [(.ref x0), (.int (Int32.ofNat ds.length))])) rfl rfl (hb hby d12_4)
      refine own_step (T' := T1) (g' := (mkF m 7 #[.val (.ref x0), .val (.int (Int32.ofNat ds.length))] [(.int (Int32.ofNat n)), (.int (Int32.ofNat ds.length))])) (fun _ k => st1 _ k) ?_
      have hc2 : (Int32.ofNat ds.length) < (Int32.ofNat n) := own_ltN _ _ (by omega) (by simp at hlen; omega)
      refine own_step (T' := T1) (g' := (mkF m 10 #[.val (.ref x0), .val (.int (Int32.ofNat ds.length))] [])) (fun _ k => XS.icmpNo X1.here hx rfl (hb hby d12_7) rfl (tlt hc2).2.1 k) ?_
      refine own_step (T' := T1) (g' := (mkF m 11 #[.val (.ref x0), .val (.int (Int32.ofNat ds.length))] [(.ref x0)])) (fun _ k => XS.aloadN X1.here hx rfl (hb hby d12_10) rfl rfl k) ?_
      obtain ⟨T3, X3, e3, st3⟩ := getF X1 hx hZ hown (host := "") (Or.inl (hw _ (List.mem_of_getElem? (i := 77) rfl))) Via.refl e1 Fai (g := (mkF m 11 #[.val (.ref x0), .val (.int (Int32.ofNat ds.length))] [(.ref x0)])) rfl rfl (hb hby d12_11)
      refine own_step (T' := T3) (g' := (mkF m 14 #[.val (.ref x0), .val (.int (Int32.ofNat ds.length))] [(.ref aa)])) (fun _ k => st3 _ k) ?_
      refine own_step (T' := T3) (g' := (mkF m 15 #[.val (.ref x0), .val (.int (Int32.ofNat ds.length))] [(.int (Int32.ofNat ds.length)), (.ref aa)])) (fun _ k => XS.iloadN X3.here hx rfl (hb hby d12_14) rfl k) ?_
      refine own_step (T' := T3) (g' := (mkF m 16 #[.val (.ref x0), .val (.int (Int32.ofNat ds.length))] [(.int (Int32.ofNat ds.length)), (.ref aa), (.int (Int32.ofNat ds.length)), (.ref aa)])) (fun _ k => XT.dup2 X3.here hx rfl (hb hby d12_15) rfl rfl rfl k) ?_
      obtain ⟨cl4, Ar4, hin4, hat4⟩ := own_get Vai (j := (Int32.ofNat ds.length)) (own_inb _ _ hlt (by omega)) (v := (.long x)) (own_getL ds rs x _ (own_clamp _ (by omega)))
      refine own_step (T' := T3) (g' := (mkF m 17 #[.val (.ref x0), .val (.int (Int32.ofNat ds.length))] [(.long x), (.int (Int32.ofNat ds.length)), (.ref aa)])) (fun _ k => X3.laload hx (j := (Int32.ofNat ds.length)) (v := (.long x)) (by rw [e3]; exact Ar4.1) (State.isArrayOf_alike hZ.alike Ar4.2.1) Ar4.2.2 hin4 hat4 (g := (mkF m 16 #[.val (.ref x0), .val (.int (Int32.ofNat ds.length))] [(.int (Int32.ofNat ds.length)), (.ref aa), (.int (Int32.ofNat ds.length)), (.ref aa)])) rfl rfl (hb hby d12_16) _ k) ?_
      refine own_step (T' := T3) (g' := (mkF m 18 #[.val (.ref x0), .val (.int (Int32.ofNat ds.length))] [(.long (1 : Int64)), (.long x), (.int (Int32.ofNat ds.length)), (.ref aa)])) (fun _ k => XS.lconst X3.here hx rfl (hb hby d12_17) k) ?_
      refine own_step (T' := T3) (g' := (mkF m 19 #[.val (.ref x0), .val (.int (Int32.ofNat ds.length))] [(.long (x + (1 : Int64))), (.int (Int32.ofNat ds.length)), (.ref aa)])) (fun _ k => XS.ladd X3.here hx rfl (hb hby d12_18) rfl k) ?_
      obtain ⟨cl5, Ar5, hin5, put5⟩ := own_upd Vai (j := (Int32.ofNat ds.length)) (v := (.long (x + (1 : Int64)))) (own_inb _ _ hlt (by omega)) (i := ds.length) ⟨own_clamp _ (by omega), by simp⟩ rfl
      obtain ⟨T5, h5, X5, e5, W5, st5⟩ := stJ X3 hx hZ e3 Ar5 (j := (Int32.ofNat ds.length)) hin5 (g := (mkF m 19 #[.val (.ref x0), .val (.int (Int32.ofNat ds.length))] [(.long (x + (1 : Int64))), (.int (Int32.ofNat ds.length)), (.ref aa)])) rfl rfl (hb hby d12_19)
      have q6 : Fld Z h5 x0 "com/example/impatiens/impatiens/itpn/Instances" "transitions" "[I" (.ref ta) := Fti.other W5 (Or.inl ni_aai)
      have q7 : Fld Z h5 x0 "com/example/impatiens/impatiens/itpn/Instances" "ages" "[J" (.ref aa) := Fai.other W5 (Or.inl ni_aai)
      have q8 : Fld Z h5 x0 "com/example/impatiens/impatiens/itpn/Instances" "counts" "[J" (.ref ca) := Fci.other W5 (Or.inl ni_aai)
      have q9 : Fld Z h5 x0 "com/example/impatiens/impatiens/itpn/Instances" "size" "I" (.int (Int32.ofNat n)) := Fni.other W5 (Or.inl ni_aai)
      have q10 : Exa Z h5 x0 "com/example/impatiens/impatiens/itpn/Instances" := Ei.wr W5
      have q11 : Arv Z h5 ta kt .int (Int32.ofNat n) (ts.map Value.int) (.int (0 : Int32)) := Vti.other W5 ntai
      have q12 : Arv Z h5 ca kc .long (Int32.ofNat n) (cs.map Value.long) (.long (0 : Int64)) := Vci.other W5 (Ne.symm naci)
      have q13 : Arv Z h5 aa ka .long (Int32.ofNat n) (((ds ++ [x + 1]) ++ rs).map Value.long) (.long (0 : Int64)) := own_vs (put5 _ W5) (by simp)
      have Z5 : n0 ≤ h5.size := Nat.le_trans Zh (Keep.of_wr W5).1
      have N5 := Fr.snoc X5 N0 gai
      have Kp5 : Keep h0 h5 [aa] := Kh.wr W5 (Or.inl (List.mem_of_getElem? (i := 0) rfl))
      refine own_step (T' := T5) (g' := (mkF m 20 #[.val (.ref x0), .val (.int (Int32.ofNat ds.length))] [])) (fun _ k => st5 _ k) ?_
      refine own_step (T' := T5) (g' := (mkF m 23 #[.val (.ref x0), .val (.int ((Int32.ofNat ds.length) + (1 : Int32)))] [])) (fun _ k => XS.iinc X5.here hx rfl (hb hby d12_20) rfl (l' := #[.val (.ref x0), .val (.int ((Int32.ofNat ds.length) + (1 : Int32)))]) rfl k) ?_
      have hr14 : ((Int32.ofNat ds.length) + (1 : Int32)) = (Int32.ofNat (ds ++ [x + 1]).length) := by rw [List.length_append, List.length_singleton, own_ofNat_succ]
      rw [hr14]
      refine own_step (T' := T5) (g' := (mkF m 2 #[.val (.ref x0), .val (.int (Int32.ofNat (ds ++ [x + 1]).length))] [])) (fun _ k => XS.goto X5.here hx rfl (pc0 := 23) (pc' := 2) rfl (hb hby d12_23) (by decide) (by decide) k) ?_
      exact ih (ds ++ [x + 1]) T5 _ h5 (by simp at hlen ⊢; omega) (by rw [← hR]; simp) Z5 Kp5 ⟨q10, q6, q7, q8, q9, q11, q13, q12, ⟨ntai, ntci, naci⟩, gii, gti, gai, gci⟩ X5 e5 N5
  have hB : own_Goes p e below s (own_QTick Z x0 ta aa ca kt ka kc n ts (as.map (· + 1)) cs h0 n0) ({ frames := 0, cells := 0, slots := 0, locals := 0 } : Room).cells ({ frames := 0, cells := 0, slots := 0, locals := 0 } : Room).slots s₁ (mkF m 0 #[.val (.ref x0), .unset] []) := by
    refine own_step (T' := s₁) (g' := (mkF m 1 #[.val (.ref x0), .unset] [(.int (0 : Int32))])) (fun _ k => XS.iconst X00.here hx rfl (hb hby d12_0) k) ?_
    refine own_step (T' := s₁) (g' := (mkF m 2 #[.val (.ref x0), .val (.int (0 : Int32))] [])) (fun _ k => XS.istoreN X00.here hx rfl (hb hby d12_1) rfl (l' := #[.val (.ref x0), .val (.int (0 : Int32))]) rfl k) ?_
    exact B2 as [] s₁ _ h0 (by simpa using hlen0) rfl Z0 (Keep.refl _ _) hIS0 X00 e00 N00
  obtain ⟨s₂, o, q1, q2, q3, v, L, q4, q5, q6⟩ := hB
  exact ⟨s₂, o, castTop (ef_12 m x0) q1, q2, q3, v, L, q4, q5, q6⟩
set_option maxRecDepth 65536 in
set_option maxHeartbeats 40000000 in
theorem rm13 (l : Launch) (Z : State) (a0 : Array Value) (hw : ∀ d ∈ tables_1, d.before a0 Z = true) (ws : List Jvm.Cond) (x0 : Addr) (x1 : Addr) (b : Addr) (kB : ClassId) (ta aa ca : Addr) (kt ka kc : ClassId) (gs : List (Nat × Nat × Nat)) (h0 : Heap) (n0 : Nat) (Z0 : n0 ≤ h0.size) (hn2 : gs.length ≤ 2) (hbd : ∀ g ∈ gs, g.1 < 32768 ∧ g.2.1 < 2 ^ 63 ∧ g.2.2 < 2 ^ 63) (hWR : own_WR Z n0 h0 x1 b kB []) (hIS : own_IS Z n0 h0 x0 ta aa ca kt ka kc gs.length ((own_ts 0 gs).map Int32.ofNat) (gs.map (fun g => Int64.ofNat g.2.1)) (gs.map (fun g => Int64.ofNat g.2.2))) (nb_ta : b ≠ ta) (nb_aa : b ≠ aa) (nb_ca : b ≠ ca) :
    MetFree l (⟨"com/example/impatiens/impatiens/itpn/Instances", "write", "(Lcom/example/impatiens/impatiens/statespace/StateWriter;)V"⟩ : MethodName) (head1 (Jvm.Cond.code (⟨"com/example/impatiens/impatiens/itpn/Instances", "write", "(Lcom/example/impatiens/impatiens/statespace/StateWriter;)V"⟩ : MethodName) prog_14_method_4_code 4 none :: ws) ({ frames := 1, cells := 0, slots := 0, locals := 16 } : Room)) (fun a U => a = #[(.ref x0), (.ref x1)] ∧ Z.Warmed39 U.vm ∧ U.heap = h0) (fun _ _ _ _ _ => True) (fun _ U o U' => ∃ v L, o = .returned v ∧ own_QW Z x1 b kB (own_enc 8 gs.length ++ own_encs gs) h0 n0 v U'.heap L ∧ FrameEnd U o U' L ({ frames := 1, cells := 0, slots := 0, locals := 16 } : Room).cells ({ frames := 1, cells := 0, slots := 0, locals := 16 } : Room).slots) := by
  refine MetFree.of_bodySF (plainFor_of_name pn_13) hisR ?_
  intro p e s m args below meth c s₁ Bd hml0 hP hK
  obtain ⟨rfl, hZ, hh0⟩ := hP
  have hx := Bd.exec
  have hby := Bd.bytes
  have hml : c.maxLocals = 4 := hml0
  have hown : s.vm.findClass "com/example/impatiens/impatiens/itpn/Instances" = some m.cls := findClass_of_methodNamed Bd.named
  have hnm := (name_of_methodNamed Bd.named Bd.method).1
  have X00 : Stand p l e ({ frames := 1, cells := 0, slots := 0, locals := 16 } : Room) s m #[(.ref x0), (.ref x1)] below meth c s₁ [] 0 0 := Stand.of_body Bd
  have e00 : s₁.heap = h0 := by rw [← hh0, Bd.state]; rfl
  have N00 := Fr.nil n0
  have B13 : ∀ (rs ds : List (Nat × Nat × Nat)) (T0 : State) (locs : List Loc) (hh : Heap), ds ++ rs = gs → n0 ≤ hh.size → Keep h0 hh [x1, b] → own_WR Z n0 hh x1 b kB (own_enc 8 gs.length ++ own_encs ds) → own_IS Z n0 hh x0 ta aa ca kt ka kc gs.length ((own_ts 0 gs).map Int32.ofNat) (gs.map (fun g => Int64.ofNat g.2.1)) (gs.map (fun g => Int64.ofNat g.2.2)) → Stand p l e ({ frames := 1, cells := 0, slots := 0, locals := 16 } : Room) s m #[(.ref x0), (.ref x1)] below meth c T0 locs 0 0 → T0.heap = hh → Fr n0 locs → own_Goes p e below s (own_QW Z x1 b kB (own_enc 8 gs.length ++ own_encs gs) h0 n0) ({ frames := 1, cells := 0, slots := 0, locals := 16 } : Room).cells ({ frames := 1, cells := 0, slots := 0, locals := 16 } : Room).slots T0 (mkF m 13 #[.val (.ref x0), .val (.ref x1), .val (.int (Int32.ofNat (own_sum ds))), .val (.int (Int32.ofNat ds.length))] []) := by
    intro rs
    induction rs with
    | nil =>
      intro ds T0 locs hh hgs Zh Kh hWR hIS X0 e0 N0
      have hWR0 := hWR
      have hds : ds = gs := by simpa using hgs
      have hdl : ds.length = gs.length := by rw [hds]
      rw [hds] at hWR0
      have oqw := hWR
      obtain ⟨Ew, Fbw, Flw, Ebw, Vbw, gww, gbw⟩ := oqw
      have new : x1 ≠ b := Ew.neArv Vbw (hw _ (List.mem_of_getElem? (i := 7) rfl))
      have oqi := hIS
      obtain ⟨Ei, Fti, Fai, Fci, Fni, Vti, Vai, Vci, ⟨ntai, ntci, naci⟩, gii, gti, gai, gci⟩ := oqi
      have ni_tai : x0 ≠ ta := Ei.neArv Vti (hw _ (List.mem_of_getElem? (i := 68) rfl))
      have ni_aai : x0 ≠ aa := Ei.neArv Vai (hw _ (List.mem_of_getElem? (i := 68) rfl))
      have ni_cai : x0 ≠ ca := Ei.neArv Vci (hw _ (List.mem_of_getElem? (i := 68) rfl))
      have nxw : x0 ≠ x1 := Ei.ne Ew (by decide)
      have nxb : x0 ≠ b := Ei.neArv Vbw (hw _ (List.mem_of_getElem? (i := 68) rfl))
      have nw_ta : x1 ≠ ta := Ew.neArv Vti (hw _ (List.mem_of_getElem? (i := 7) rfl))
      have nw_aa : x1 ≠ aa := Ew.neArv Vai (hw _ (List.mem_of_getElem? (i := 7) rfl))
      have nw_ca : x1 ≠ ca := Ew.neArv Vci (hw _ (List.mem_of_getElem? (i := 7) rfl))
      refine own_step (T' := T0) (g' := (mkF m 14 #[.val (.ref x0), .val (.ref x1), .val (.int (Int32.ofNat (own_sum ds))), .val (.int (Int32.ofNat ds.length))] [(.int (Int32.ofNat ds.length))])) (fun _ k => XS.iloadN X0.here hx rfl (hb hby d13_13) rfl k) ?_
      refine own_step (T' := T0) (g' := (mkF m 15 #[.val (.ref x0), .val (.ref x1), .val (.int (Int32.ofNat (own_sum ds))), .val (.int (Int32.ofNat ds.length))] [(.ref x0), (.int (Int32.ofNat ds.length))])) (fun _ k => XS.aloadN X0.here hx rfl (hb hby d13_14) rfl rfl k) ?_
      obtain ⟨T1, X1, e1, st1⟩ := getF X0 hx hZ hown (host := "") (Or.inl (hw _ (List.mem_of_getElem? (i := 81) rfl))) Via.refl e0 Fni (g := (mkF m 15 #[.val (.ref x0), .val (.ref x1), .val (.int (Int32.ofNat (own_sum ds))), .val (.int (Int32.ofNat ds.length))] [(.ref x0), (.int (Int32.ofNat ds.length))])) rfl rfl (hb hby d13_15)
      refine own_step (T' := T1) (g' := (mkF m 18 #[.val (.ref x0), .val (.ref x1), .val (.int (Int32.ofNat (own_sum ds))), .val (.int (Int32.ofNat ds.length))] [(.int (Int32.ofNat gs.length)), (.int (Int32.ofNat ds.length))])) (fun _ k => st1 _ k) ?_
      have hc2 : ¬ ((Int32.ofNat ds.length) < (Int32.ofNat gs.length)) := own_nltN _ _ (by omega) (by omega)
      refine own_step (T' := T1) (g' := (mkF m 67 #[.val (.ref x0), .val (.ref x1), .val (.int (Int32.ofNat (own_sum ds))), .val (.int (Int32.ofNat ds.length))] [])) (fun _ k => XS.icmpYes X1.here hx rfl (pc0 := 18) (pc' := 67) rfl (hb hby d13_18) rfl (flt hc2).2.1 (by decide) (by decide) k) ?_
      exact own_ret X1 Bd (v := none) (fun _ => rfl) (fun fs q => X1.returnOut hx Bd.returns (hb hby d13_67) q) (show own_QW Z x1 b kB (own_enc 8 gs.length ++ own_encs gs) h0 n0 _ _ _ from by rw [e1]; exact ⟨rfl, N0, Kh, hWR0⟩) (by decide) (by decide)
    | cons g rs ih =>
      intro ds T0 locs hh hgs Zh Kh hWR hIS X0 e0 N0
      have hlen : ds.length + (rs.length + 1) = gs.length := by rw [← hgs]; simp
      have hlt : ds.length < gs.length := by omega
      obtain ⟨hg1, hg2, hg3⟩ := hbd g (by rw [← hgs]; simp)
      have hl1 := own_enc_one gs.length (by omega)
      have hl2 := own_encs_len ds (fun x hx => hbd x (by rw [← hgs]; exact List.mem_append_left _ hx))
      have hl3 := own_enc_three g.1 (by omega)
      have hl4 := own_enc_len 8 g.2.1
      have hla : (own_enc 8 gs.length ++ own_encs ds).length = (own_enc 8 gs.length).length + (own_encs ds).length := List.length_append
      have hlb : ((own_enc 8 gs.length ++ own_encs ds) ++ own_enc 8 g.1).length = (own_enc 8 gs.length ++ own_encs ds).length + (own_enc 8 g.1).length := List.length_append
      have hgt : (((own_ts 0 gs).map Int32.ofNat).map Value.int).getD (Int32.ofNat ds.length).toNatClampNeg (.int (0 : Int32)) = .int (Int32.ofNat (own_sum ds + g.1)) := by
        rw [← hgs, own_ts_app, List.map_append, Nat.zero_add]
        exact own_getI _ _ _ _ (by rw [own_clamp _ (by omega), List.length_map, own_ts_len])
      have hga : ((gs.map (fun g => Int64.ofNat g.2.1)).map Value.long).getD (Int32.ofNat ds.length).toNatClampNeg (.long (0 : Int64)) = .long (Int64.ofNat g.2.1) := by
        rw [← hgs, List.map_append]
        exact own_getL _ _ _ _ (by rw [own_clamp _ (by omega), List.length_map])
      have hgc : ((gs.map (fun g => Int64.ofNat g.2.2)).map Value.long).getD (Int32.ofNat ds.length).toNatClampNeg (.long (0 : Int64)) = .long (Int64.ofNat g.2.2) := by
        rw [← hgs, List.map_append]
        exact own_getL _ _ _ _ (by rw [own_clamp _ (by omega), List.length_map])
      have oqw := hWR
      obtain ⟨Ew, Fbw, Flw, Ebw, Vbw, gww, gbw⟩ := oqw
      have new : x1 ≠ b := Ew.neArv Vbw (hw _ (List.mem_of_getElem? (i := 7) rfl))
      have oqi := hIS
      obtain ⟨Ei, Fti, Fai, Fci, Fni, Vti, Vai, Vci, ⟨ntai, ntci, naci⟩, gii, gti, gai, gci⟩ := oqi
      have ni_tai : x0 ≠ ta := Ei.neArv Vti (hw _ (List.mem_of_getElem? (i := 68) rfl))
      have ni_aai : x0 ≠ aa := Ei.neArv Vai (hw _ (List.mem_of_getElem? (i := 68) rfl))
      have ni_cai : x0 ≠ ca := Ei.neArv Vci (hw _ (List.mem_of_getElem? (i := 68) rfl))
      have nxw : x0 ≠ x1 := Ei.ne Ew (by decide)
      have nxb : x0 ≠ b := Ei.neArv Vbw (hw _ (List.mem_of_getElem? (i := 68) rfl))
      have nw_ta : x1 ≠ ta := Ew.neArv Vti (hw _ (List.mem_of_getElem? (i := 7) rfl))
      have nw_aa : x1 ≠ aa := Ew.neArv Vai (hw _ (List.mem_of_getElem? (i := 7) rfl))
      have nw_ca : x1 ≠ ca := Ew.neArv Vci (hw _ (List.mem_of_getElem? (i := 7) rfl))
      refine own_step (T' := T0) (g' := (mkF m 14 #[.val (.ref x0), .val (.ref x1), .val (.int (Int32.ofNat (own_sum ds))), .val (.int (Int32.ofNat ds.length))] [(.int (Int32.ofNat ds.length))])) (fun _ k => XS.iloadN X0.here hx rfl (hb hby d13_13) rfl k) ?_
      refine own_step (T' := T0) (g' := (mkF m 15 #[.val (.ref x0), .val (.ref x1), .val (.int (Int32.ofNat (own_sum ds))), .val (.int (Int32.ofNat ds.length))] [(.ref x0), (.int (Int32.ofNat ds.length))])) (fun _ k => XS.aloadN X0.here hx rfl (hb hby d13_14) rfl rfl k) ?_
      obtain ⟨T1, X1, e1, st1⟩ := getF X0 hx hZ hown (host := "") (Or.inl (hw _ (List.mem_of_getElem? (i := 81) rfl))) Via.refl e0 Fni (g := (mkF m 15 #[.val (.ref x0), .val (.ref x1), .val (.int (Int32.ofNat (own_sum ds))), .val (.int (Int32.ofNat ds.length))] [(.ref x0), (.int (Int32.ofNat ds.length))])) rfl rfl (hb hby d13_15)
      refine own_step (T' := T1) (g' := (mkF m 18 #[.val (.ref x0), .val (.ref x1), .val (.int (Int32.ofNat (own_sum ds))), .val (.int (Int32.ofNat ds.length))] [(.int (Int32.ofNat gs.length)), (.int (Int32.ofNat ds.length))])) (fun _ k => st1 _ k) ?_
      have hc2 : (Int32.ofNat ds.length) < (Int32.ofNat gs.length) := own_ltN _ _ (by omega) hlt
      refine own_step (T' := T1) (g' := (mkF m 21 #[.val (.ref x0), .val (.ref x1), .val (.int (Int32.ofNat (own_sum ds))), .val (.int (Int32.ofNat ds.length))] [])) (fun _ k => XS.icmpNo X1.here hx rfl (hb hby d13_18) rfl (tlt hc2).2.1 k) ?_
      refine own_step (T' := T1) (g' := (mkF m 22 #[.val (.ref x0), .val (.ref x1), .val (.int (Int32.ofNat (own_sum ds))), .val (.int (Int32.ofNat ds.length))] [(.ref x1)])) (fun _ k => XS.aloadN X1.here hx rfl (hb hby d13_21) rfl rfl k) ?_
      refine own_step (T' := T1) (g' := (mkF m 23 #[.val (.ref x0), .val (.ref x1), .val (.int (Int32.ofNat (own_sum ds))), .val (.int (Int32.ofNat ds.length))] [(.ref x0), (.ref x1)])) (fun _ k => XS.aloadN X1.here hx rfl (hb hby d13_22) rfl rfl k) ?_
      obtain ⟨T3, X3, e3, st3⟩ := getF X1 hx hZ hown (host := "") (Or.inl (hw _ (List.mem_of_getElem? (i := 75) rfl))) Via.refl e1 Fti (g := (mkF m 23 #[.val (.ref x0), .val (.ref x1), .val (.int (Int32.ofNat (own_sum ds))), .val (.int (Int32.ofNat ds.length))] [(.ref x0), (.ref x1)])) rfl rfl (hb hby d13_23)
      refine own_step (T' := T3) (g' := (mkF m 26 #[.val (.ref x0), .val (.ref x1), .val (.int (Int32.ofNat (own_sum ds))), .val (.int (Int32.ofNat ds.length))] [(.ref ta), (.ref x1)])) (fun _ k => st3 _ k) ?_
      refine own_step (T' := T3) (g' := (mkF m 27 #[.val (.ref x0), .val (.ref x1), .val (.int (Int32.ofNat (own_sum ds))), .val (.int (Int32.ofNat ds.length))] [(.int (Int32.ofNat ds.length)), (.ref ta), (.ref x1)])) (fun _ k => XS.iloadN X3.here hx rfl (hb hby d13_26) rfl k) ?_
      obtain ⟨cl4, Ar4, hin4, hat4⟩ := own_get Vti (j := (Int32.ofNat ds.length)) (own_inb _ _ hlt (by omega)) (v := (.int (Int32.ofNat (own_sum ds + g.1)))) hgt
      refine own_step (T' := T3) (g' := (mkF m 28 #[.val (.ref x0), .val (.ref x1), .val (.int (Int32.ofNat (own_sum ds))), .val (.int (Int32.ofNat ds.length))] [(.int (Int32.ofNat (own_sum ds + g.1))), (.ref x1)])) (fun _ k => X3.iaload hx (j := (Int32.ofNat ds.length)) (v := (.int (Int32.ofNat (own_sum ds + g.1)))) (by rw [e3]; exact Ar4.1) (State.isArrayOf_alike hZ.alike Ar4.2.1) Ar4.2.2 hin4 hat4 (g := (mkF m 27 #[.val (.ref x0), .val (.ref x1), .val (.int (Int32.ofNat (own_sum ds))), .val (.int (Int32.ofNat ds.length))] [(.int (Int32.ofNat ds.length)), (.ref ta), (.ref x1)])) rfl rfl (hb hby d13_27) _ k) ?_
      refine own_step (T' := T3) (g' := (mkF m 29 #[.val (.ref x0), .val (.ref x1), .val (.int (Int32.ofNat (own_sum ds))), .val (.int (Int32.ofNat ds.length))] [(.int (Int32.ofNat (own_sum ds))), (.int (Int32.ofNat (own_sum ds + g.1))), (.ref x1)])) (fun _ k => XS.iloadN X3.here hx rfl (hb hby d13_28) rfl k) ?_
      refine own_step (T' := T3) (g' := (mkF m 30 #[.val (.ref x0), .val (.ref x1), .val (.int (Int32.ofNat (own_sum ds))), .val (.int (Int32.ofNat ds.length))] [(.int ((Int32.ofNat (own_sum ds + g.1)) - (Int32.ofNat (own_sum ds)))), (.ref x1)])) (fun _ k => XS.isub X3.here hx rfl (hb hby d13_29) rfl k) ?_
      refine own_step (T' := T3) (g' := (mkF m 31 #[.val (.ref x0), .val (.ref x1), .val (.int (Int32.ofNat (own_sum ds))), .val (.int (Int32.ofNat ds.length))] [(.long (((Int32.ofNat (own_sum ds + g.1)) - (Int32.ofNat (own_sum ds))).toInt64)), (.ref x1)])) (fun _ k => XS.i2l X3.here hx rfl (hb hby d13_30) rfl k) ?_
      obtain ⟨cq5, kq5, q5a, q5b, q5c⟩ := isOf hZ e3 Ew
      obtain ⟨_, _, ⟨T5, L5, k5, n5⟩, -, X5, ⟨Lc5, hQ5, l5, y5, z5⟩, st5⟩ := X3.virtualBack hx (y := (⟨"com/example/impatiens/impatiens/statespace/StateWriter", "writeLong", "(J)V"⟩ : MethodName)) (z := (⟨"com/example/impatiens/impatiens/statespace/StateWriter", "writeLong", "(J)V"⟩ : MethodName)) hown (mvT hZ (hw _ (List.mem_of_getElem? (i := 93) rfl))) (mvT hZ (hw _ (List.mem_of_getElem? (i := 19) rfl))) (notFace_of_selects (args := #[]) (mvT hZ (hw _ (List.mem_of_getElem? (i := 21) rfl)))) (mvT hZ (hw _ (List.mem_of_getElem? (i := 21) rfl))) (mvT hZ (hw _ (List.mem_of_getElem? (i := 20) rfl))) (by decide) (backOf (W := 0) (rm4 l Z a0 hw [] x1 (((Int32.ofNat (own_sum ds + g.1)) - (Int32.ofNat (own_sum ds))).toInt64) b kB (own_enc 8 gs.length ++ own_encs ds) g.1 hh n0 Zh (by rw [own_subN, own_i2l _ (by omega)]) (by omega) (by omega) ⟨Ew, Fbw, Flw, Ebw, Vbw, gww, gbw⟩) hZ (hw _ (List.mem_of_getElem? (i := 22) rfl)) (hw _ (List.mem_of_getElem? (i := 8) rfl)) (by decide) (by decide)) q5a q5c (g := (mkF m 31 #[.val (.ref x0), .val (.ref x1), .val (.int (Int32.ofNat (own_sum ds))), .val (.int (Int32.ofNat ds.length))] [(.long (((Int32.ofNat (own_sum ds + g.1)) - (Int32.ofNat (own_sum ds))).toInt64)), (.ref x1)])) rfl (by rw [hml]; rfl) (Steps.refl _) (argsL := [(.long (((Int32.ofNat (own_sum ds + g.1)) - (Int32.ofNat (own_sum ds))).toInt64))]) (rest := []) (lenOf pd_4 rfl) rfl (by show 2 * 0 + _ ≤ _; exact Nat.le_of_eq rfl) (hb hby d13_31) (fun _ _ => ⟨rfl, e3, (by decide : 0 + 0 ≤ _), (by decide : 0 + 0 ≤ _)⟩)
      dsimp only [Pt.U, Pt.locs, Pt.cells, Pt.slots] at X5 l5 y5 z5 st5 hQ5
      subst l5 y5 z5
      generalize e5 : T5.heap = h5 at hQ5
      obtain ⟨rfl, N5q, K5, wr5⟩ := hQ5
      have Z5 : n0 ≤ h5.size := Nat.le_trans Zh K5.1
      have Kp5 : Keep h0 h5 [x1, b] := Kh.trans K5 (allS (Or.inl (List.mem_of_getElem? (i := 0) rfl)) (allS (Or.inl (List.mem_of_getElem? (i := 1) rfl)) all0))
      have q6 : Fld Z h5 x0 "com/example/impatiens/impatiens/itpn/Instances" "transitions" "[I" (.ref ta) := Fti.keep K5 (ninS nxw (ninS nxb nin0))
      have q7 : Fld Z h5 x0 "com/example/impatiens/impatiens/itpn/Instances" "ages" "[J" (.ref aa) := Fai.keep K5 (ninS nxw (ninS nxb nin0))
      have q8 : Fld Z h5 x0 "com/example/impatiens/impatiens/itpn/Instances" "counts" "[J" (.ref ca) := Fci.keep K5 (ninS nxw (ninS nxb nin0))
      have q9 : Fld Z h5 x0 "com/example/impatiens/impatiens/itpn/Instances" "size" "I" (.int (Int32.ofNat gs.length)) := Fni.keep K5 (ninS nxw (ninS nxb nin0))
      have q10 : Exa Z h5 x1 "com/example/impatiens/impatiens/statespace/StateWriter" := Ew.keep K5
      have q11 : Exa Z h5 b "[B" := Ebw.keep K5
      have q12 : Exa Z h5 x0 "com/example/impatiens/impatiens/itpn/Instances" := Ei.keep K5
      have q13 : Arv Z h5 ta kt .int (Int32.ofNat gs.length) (((own_ts 0 gs).map Int32.ofNat).map Value.int) (.int (0 : Int32)) := Vti.keep K5 (ninS (Ne.symm nw_ta) (ninS (Ne.symm nb_ta) nin0))
      have q14 : Arv Z h5 aa ka .long (Int32.ofNat gs.length) ((gs.map (fun g => Int64.ofNat g.2.1)).map Value.long) (.long (0 : Int64)) := Vai.keep K5 (ninS (Ne.symm nw_aa) (ninS (Ne.symm nb_aa) nin0))
      have q15 : Arv Z h5 ca kc .long (Int32.ofNat gs.length) ((gs.map (fun g => Int64.ofNat g.2.2)).map Value.long) (.long (0 : Int64)) := Vci.keep K5 (ninS (Ne.symm nw_ca) (ninS (Ne.symm nb_ca) nin0))
      have N5 := Fr.app N0 N5q
      obtain ⟨EW5, FbW5, FlW5, EbW5, VbW5, gwW5, gbW5⟩ := wr5
      refine own_step (T' := T5) (g' := (mkF m 34 #[.val (.ref x0), .val (.ref x1), .val (.int (Int32.ofNat (own_sum ds))), .val (.int (Int32.ofNat ds.length))] [])) (fun _ k => st5.trans k) ?_
      refine own_step (T' := T5) (g' := (mkF m 35 #[.val (.ref x0), .val (.ref x1), .val (.int (Int32.ofNat (own_sum ds))), .val (.int (Int32.ofNat ds.length))] [(.ref x1)])) (fun _ k => XS.aloadN X5.here hx rfl (hb hby d13_34) rfl rfl k) ?_
      refine own_step (T' := T5) (g' := (mkF m 36 #[.val (.ref x0), .val (.ref x1), .val (.int (Int32.ofNat (own_sum ds))), .val (.int (Int32.ofNat ds.length))] [(.ref x0), (.ref x1)])) (fun _ k => XS.aloadN X5.here hx rfl (hb hby d13_35) rfl rfl k) ?_
      obtain ⟨T16, X16, e16, st16⟩ := getF X5 hx hZ hown (host := "") (Or.inl (hw _ (List.mem_of_getElem? (i := 77) rfl))) Via.refl e5 q7 (g := (mkF m 36 #[.val (.ref x0), .val (.ref x1), .val (.int (Int32.ofNat (own_sum ds))), .val (.int (Int32.ofNat ds.length))] [(.ref x0), (.ref x1)])) rfl rfl (hb hby d13_36)
      refine own_step (T' := T16) (g' := (mkF m 39 #[.val (.ref x0), .val (.ref x1), .val (.int (Int32.ofNat (own_sum ds))), .val (.int (Int32.ofNat ds.length))] [(.ref aa), (.ref x1)])) (fun _ k => st16 _ k) ?_
      refine own_step (T' := T16) (g' := (mkF m 40 #[.val (.ref x0), .val (.ref x1), .val (.int (Int32.ofNat (own_sum ds))), .val (.int (Int32.ofNat ds.length))] [(.int (Int32.ofNat ds.length)), (.ref aa), (.ref x1)])) (fun _ k => XS.iloadN X16.here hx rfl (hb hby d13_39) rfl k) ?_
      obtain ⟨cl17, Ar17, hin17, hat17⟩ := own_get q14 (j := (Int32.ofNat ds.length)) (own_inb _ _ hlt (by omega)) (v := (.long (Int64.ofNat g.2.1))) hga
      refine own_step (T' := T16) (g' := (mkF m 41 #[.val (.ref x0), .val (.ref x1), .val (.int (Int32.ofNat (own_sum ds))), .val (.int (Int32.ofNat ds.length))] [(.long (Int64.ofNat g.2.1)), (.ref x1)])) (fun _ k => X16.laload hx (j := (Int32.ofNat ds.length)) (v := (.long (Int64.ofNat g.2.1))) (by rw [e16]; exact Ar17.1) (State.isArrayOf_alike hZ.alike Ar17.2.1) Ar17.2.2 hin17 hat17 (g := (mkF m 40 #[.val (.ref x0), .val (.ref x1), .val (.int (Int32.ofNat (own_sum ds))), .val (.int (Int32.ofNat ds.length))] [(.int (Int32.ofNat ds.length)), (.ref aa), (.ref x1)])) rfl rfl (hb hby d13_40) _ k) ?_
      obtain ⟨cq18, kq18, q18a, q18b, q18c⟩ := isOf hZ e16 EW5
      obtain ⟨_, _, ⟨T18, L18, k18, n18⟩, -, X18, ⟨Lc18, hQ18, l18, y18, z18⟩, st18⟩ := X16.virtualBack hx (y := (⟨"com/example/impatiens/impatiens/statespace/StateWriter", "writeLong", "(J)V"⟩ : MethodName)) (z := (⟨"com/example/impatiens/impatiens/statespace/StateWriter", "writeLong", "(J)V"⟩ : MethodName)) hown (mvT hZ (hw _ (List.mem_of_getElem? (i := 93) rfl))) (mvT hZ (hw _ (List.mem_of_getElem? (i := 19) rfl))) (notFace_of_selects (args := #[]) (mvT hZ (hw _ (List.mem_of_getElem? (i := 21) rfl)))) (mvT hZ (hw _ (List.mem_of_getElem? (i := 21) rfl))) (mvT hZ (hw _ (List.mem_of_getElem? (i := 20) rfl))) (by decide) (backOf (W := 0) (rm4 l Z a0 hw [] x1 (Int64.ofNat g.2.1) b kB ((own_enc 8 gs.length ++ own_encs ds) ++ own_enc 8 g.1) g.2.1 h5 n0 Z5 rfl hg2 (by rw [List.length_append]; omega) ⟨EW5, FbW5, FlW5, EbW5, VbW5, gww, gbw⟩) hZ (hw _ (List.mem_of_getElem? (i := 22) rfl)) (hw _ (List.mem_of_getElem? (i := 8) rfl)) (by decide) (by decide)) q18a q18c (g := (mkF m 41 #[.val (.ref x0), .val (.ref x1), .val (.int (Int32.ofNat (own_sum ds))), .val (.int (Int32.ofNat ds.length))] [(.long (Int64.ofNat g.2.1)), (.ref x1)])) rfl (by rw [hml]; rfl) (Steps.refl _) (argsL := [(.long (Int64.ofNat g.2.1))]) (rest := []) (lenOf pd_4 rfl) rfl (by show 2 * 0 + _ ≤ _; exact Nat.le_of_eq rfl) (hb hby d13_41) (fun _ _ => ⟨rfl, e16, (by decide : 0 + 0 ≤ _), (by decide : 0 + 0 ≤ _)⟩)
      dsimp only [Pt.U, Pt.locs, Pt.cells, Pt.slots] at X18 l18 y18 z18 st18 hQ18
      subst l18 y18 z18
      generalize e18 : T18.heap = h18 at hQ18
      obtain ⟨rfl, N18q, K18, wr18⟩ := hQ18
      have Z18 : n0 ≤ h18.size := Nat.le_trans Z5 K18.1
      have Kp18 : Keep h0 h18 [x1, b] := Kp5.trans K18 (allS (Or.inl (List.mem_of_getElem? (i := 0) rfl)) (allS (Or.inl (List.mem_of_getElem? (i := 1) rfl)) all0))
      have q19 : Fld Z h18 x0 "com/example/impatiens/impatiens/itpn/Instances" "transitions" "[I" (.ref ta) := q6.keep K18 (ninS nxw (ninS nxb nin0))
      have q20 : Fld Z h18 x0 "com/example/impatiens/impatiens/itpn/Instances" "ages" "[J" (.ref aa) := q7.keep K18 (ninS nxw (ninS nxb nin0))
      have q21 : Fld Z h18 x0 "com/example/impatiens/impatiens/itpn/Instances" "counts" "[J" (.ref ca) := q8.keep K18 (ninS nxw (ninS nxb nin0))
      have q22 : Fld Z h18 x0 "com/example/impatiens/impatiens/itpn/Instances" "size" "I" (.int (Int32.ofNat gs.length)) := q9.keep K18 (ninS nxw (ninS nxb nin0))
      have q23 : Exa Z h18 x1 "com/example/impatiens/impatiens/statespace/StateWriter" := EW5.keep K18
      have q24 : Exa Z h18 b "[B" := EbW5.keep K18
      have q25 : Exa Z h18 x0 "com/example/impatiens/impatiens/itpn/Instances" := q12.keep K18
      have q26 : Arv Z h18 ta kt .int (Int32.ofNat gs.length) (((own_ts 0 gs).map Int32.ofNat).map Value.int) (.int (0 : Int32)) := q13.keep K18 (ninS (Ne.symm nw_ta) (ninS (Ne.symm nb_ta) nin0))
      have q27 : Arv Z h18 aa ka .long (Int32.ofNat gs.length) ((gs.map (fun g => Int64.ofNat g.2.1)).map Value.long) (.long (0 : Int64)) := q14.keep K18 (ninS (Ne.symm nw_aa) (ninS (Ne.symm nb_aa) nin0))
      have q28 : Arv Z h18 ca kc .long (Int32.ofNat gs.length) ((gs.map (fun g => Int64.ofNat g.2.2)).map Value.long) (.long (0 : Int64)) := q15.keep K18 (ninS (Ne.symm nw_ca) (ninS (Ne.symm nb_ca) nin0))
      have N18 := Fr.app N5 N18q
      obtain ⟨EW18, FbW18, FlW18, EbW18, VbW18, gwW18, gbW18⟩ := wr18
      refine own_step (T' := T18) (g' := (mkF m 44 #[.val (.ref x0), .val (.ref x1), .val (.int (Int32.ofNat (own_sum ds))), .val (.int (Int32.ofNat ds.length))] [])) (fun _ k => st18.trans k) ?_
      refine own_step (T' := T18) (g' := (mkF m 45 #[.val (.ref x0), .val (.ref x1), .val (.int (Int32.ofNat (own_sum ds))), .val (.int (Int32.ofNat ds.length))] [(.ref x1)])) (fun _ k => XS.aloadN X18.here hx rfl (hb hby d13_44) rfl rfl k) ?_
      refine own_step (T' := T18) (g' := (mkF m 46 #[.val (.ref x0), .val (.ref x1), .val (.int (Int32.ofNat (own_sum ds))), .val (.int (Int32.ofNat ds.length))] [(.ref x0), (.ref x1)])) (fun _ k => XS.aloadN X18.here hx rfl (hb hby d13_45) rfl rfl k) ?_
      obtain ⟨T29, X29, e29, st29⟩ := getF X18 hx hZ hown (host := "") (Or.inl (hw _ (List.mem_of_getElem? (i := 79) rfl))) Via.refl e18 q21 (g := (mkF m 46 #[.val (.ref x0), .val (.ref x1), .val (.int (Int32.ofNat (own_sum ds))), .val (.int (Int32.ofNat ds.length))] [(.ref x0), (.ref x1)])) rfl rfl (hb hby d13_46)
      refine own_step (T' := T29) (g' := (mkF m 49 #[.val (.ref x0), .val (.ref x1), .val (.int (Int32.ofNat (own_sum ds))), .val (.int (Int32.ofNat ds.length))] [(.ref ca), (.ref x1)])) (fun _ k => st29 _ k) ?_
      refine own_step (T' := T29) (g' := (mkF m 50 #[.val (.ref x0), .val (.ref x1), .val (.int (Int32.ofNat (own_sum ds))), .val (.int (Int32.ofNat ds.length))] [(.int (Int32.ofNat ds.length)), (.ref ca), (.ref x1)])) (fun _ k => XS.iloadN X29.here hx rfl (hb hby d13_49) rfl k) ?_
      obtain ⟨cl30, Ar30, hin30, hat30⟩ := own_get q28 (j := (Int32.ofNat ds.length)) (own_inb _ _ hlt (by omega)) (v := (.long (Int64.ofNat g.2.2))) hgc
      refine own_step (T' := T29) (g' := (mkF m 51 #[.val (.ref x0), .val (.ref x1), .val (.int (Int32.ofNat (own_sum ds))), .val (.int (Int32.ofNat ds.length))] [(.long (Int64.ofNat g.2.2)), (.ref x1)])) (fun _ k => X29.laload hx (j := (Int32.ofNat ds.length)) (v := (.long (Int64.ofNat g.2.2))) (by rw [e29]; exact Ar30.1) (State.isArrayOf_alike hZ.alike Ar30.2.1) Ar30.2.2 hin30 hat30 (g := (mkF m 50 #[.val (.ref x0), .val (.ref x1), .val (.int (Int32.ofNat (own_sum ds))), .val (.int (Int32.ofNat ds.length))] [(.int (Int32.ofNat ds.length)), (.ref ca), (.ref x1)])) rfl rfl (hb hby d13_50) _ k) ?_
      obtain ⟨cq31, kq31, q31a, q31b, q31c⟩ := isOf hZ e29 EW18
      obtain ⟨_, _, ⟨T31, L31, k31, n31⟩, -, X31, ⟨Lc31, hQ31, l31, y31, z31⟩, st31⟩ := X29.virtualBack hx (y := (⟨"com/example/impatiens/impatiens/statespace/StateWriter", "writeLong", "(J)V"⟩ : MethodName)) (z := (⟨"com/example/impatiens/impatiens/statespace/StateWriter", "writeLong", "(J)V"⟩ : MethodName)) hown (mvT hZ (hw _ (List.mem_of_getElem? (i := 93) rfl))) (mvT hZ (hw _ (List.mem_of_getElem? (i := 19) rfl))) (notFace_of_selects (args := #[]) (mvT hZ (hw _ (List.mem_of_getElem? (i := 21) rfl)))) (mvT hZ (hw _ (List.mem_of_getElem? (i := 21) rfl))) (mvT hZ (hw _ (List.mem_of_getElem? (i := 20) rfl))) (by decide) (backOf (W := 0) (rm4 l Z a0 hw [] x1 (Int64.ofNat g.2.2) b kB (((own_enc 8 gs.length ++ own_encs ds) ++ own_enc 8 g.1) ++ own_enc 8 g.2.1) g.2.2 h18 n0 Z18 rfl hg3 (by rw [List.length_append, List.length_append]; omega) ⟨EW18, FbW18, FlW18, EbW18, VbW18, gww, gbw⟩) hZ (hw _ (List.mem_of_getElem? (i := 22) rfl)) (hw _ (List.mem_of_getElem? (i := 8) rfl)) (by decide) (by decide)) q31a q31c (g := (mkF m 51 #[.val (.ref x0), .val (.ref x1), .val (.int (Int32.ofNat (own_sum ds))), .val (.int (Int32.ofNat ds.length))] [(.long (Int64.ofNat g.2.2)), (.ref x1)])) rfl (by rw [hml]; rfl) (Steps.refl _) (argsL := [(.long (Int64.ofNat g.2.2))]) (rest := []) (lenOf pd_4 rfl) rfl (by show 2 * 0 + _ ≤ _; exact Nat.le_of_eq rfl) (hb hby d13_51) (fun _ _ => ⟨rfl, e29, (by decide : 0 + 0 ≤ _), (by decide : 0 + 0 ≤ _)⟩)
      dsimp only [Pt.U, Pt.locs, Pt.cells, Pt.slots] at X31 l31 y31 z31 st31 hQ31
      subst l31 y31 z31
      generalize e31 : T31.heap = h31 at hQ31
      obtain ⟨rfl, N31q, K31, wr31⟩ := hQ31
      have Z31 : n0 ≤ h31.size := Nat.le_trans Z18 K31.1
      have Kp31 : Keep h0 h31 [x1, b] := Kp18.trans K31 (allS (Or.inl (List.mem_of_getElem? (i := 0) rfl)) (allS (Or.inl (List.mem_of_getElem? (i := 1) rfl)) all0))
      have q32 : Fld Z h31 x0 "com/example/impatiens/impatiens/itpn/Instances" "transitions" "[I" (.ref ta) := q19.keep K31 (ninS nxw (ninS nxb nin0))
      have q33 : Fld Z h31 x0 "com/example/impatiens/impatiens/itpn/Instances" "ages" "[J" (.ref aa) := q20.keep K31 (ninS nxw (ninS nxb nin0))
      have q34 : Fld Z h31 x0 "com/example/impatiens/impatiens/itpn/Instances" "counts" "[J" (.ref ca) := q21.keep K31 (ninS nxw (ninS nxb nin0))
      have q35 : Fld Z h31 x0 "com/example/impatiens/impatiens/itpn/Instances" "size" "I" (.int (Int32.ofNat gs.length)) := q22.keep K31 (ninS nxw (ninS nxb nin0))
      have q36 : Exa Z h31 x1 "com/example/impatiens/impatiens/statespace/StateWriter" := EW18.keep K31
      have q37 : Exa Z h31 b "[B" := EbW18.keep K31
      have q38 : Exa Z h31 x0 "com/example/impatiens/impatiens/itpn/Instances" := q25.keep K31
      have q39 : Arv Z h31 ta kt .int (Int32.ofNat gs.length) (((own_ts 0 gs).map Int32.ofNat).map Value.int) (.int (0 : Int32)) := q26.keep K31 (ninS (Ne.symm nw_ta) (ninS (Ne.symm nb_ta) nin0))
      have q40 : Arv Z h31 aa ka .long (Int32.ofNat gs.length) ((gs.map (fun g => Int64.ofNat g.2.1)).map Value.long) (.long (0 : Int64)) := q27.keep K31 (ninS (Ne.symm nw_aa) (ninS (Ne.symm nb_aa) nin0))
      have q41 : Arv Z h31 ca kc .long (Int32.ofNat gs.length) ((gs.map (fun g => Int64.ofNat g.2.2)).map Value.long) (.long (0 : Int64)) := q28.keep K31 (ninS (Ne.symm nw_ca) (ninS (Ne.symm nb_ca) nin0))
      have N31 := Fr.app N18 N31q
      obtain ⟨EW31, FbW31, FlW31, EbW31, VbW31, gwW31, gbW31⟩ := wr31
      refine own_step (T' := T31) (g' := (mkF m 54 #[.val (.ref x0), .val (.ref x1), .val (.int (Int32.ofNat (own_sum ds))), .val (.int (Int32.ofNat ds.length))] [])) (fun _ k => st31.trans k) ?_
      refine own_step (T' := T31) (g' := (mkF m 55 #[.val (.ref x0), .val (.ref x1), .val (.int (Int32.ofNat (own_sum ds))), .val (.int (Int32.ofNat ds.length))] [(.ref x0)])) (fun _ k => XS.aloadN X31.here hx rfl (hb hby d13_54) rfl rfl k) ?_
      obtain ⟨T42, X42, e42, st42⟩ := getF X31 hx hZ hown (host := "") (Or.inl (hw _ (List.mem_of_getElem? (i := 75) rfl))) Via.refl e31 q32 (g := (mkF m 55 #[.val (.ref x0), .val (.ref x1), .val (.int (Int32.ofNat (own_sum ds))), .val (.int (Int32.ofNat ds.length))] [(.ref x0)])) rfl rfl (hb hby d13_55)
      refine own_step (T' := T42) (g' := (mkF m 58 #[.val (.ref x0), .val (.ref x1), .val (.int (Int32.ofNat (own_sum ds))), .val (.int (Int32.ofNat ds.length))] [(.ref ta)])) (fun _ k => st42 _ k) ?_
      refine own_step (T' := T42) (g' := (mkF m 59 #[.val (.ref x0), .val (.ref x1), .val (.int (Int32.ofNat (own_sum ds))), .val (.int (Int32.ofNat ds.length))] [(.int (Int32.ofNat ds.length)), (.ref ta)])) (fun _ k => XS.iloadN X42.here hx rfl (hb hby d13_58) rfl k) ?_
      obtain ⟨cl43, Ar43, hin43, hat43⟩ := own_get q39 (j := (Int32.ofNat ds.length)) (own_inb _ _ hlt (by omega)) (v := (.int (Int32.ofNat (own_sum ds + g.1)))) hgt
      refine own_step (T' := T42) (g' := (mkF m 60 #[.val (.ref x0), .val (.ref x1), .val (.int (Int32.ofNat (own_sum ds))), .val (.int (Int32.ofNat ds.length))] [(.int (Int32.ofNat (own_sum ds + g.1)))])) (fun _ k => X42.iaload hx (j := (Int32.ofNat ds.length)) (v := (.int (Int32.ofNat (own_sum ds + g.1)))) (by rw [e42]; exact Ar43.1) (State.isArrayOf_alike hZ.alike Ar43.2.1) Ar43.2.2 hin43 hat43 (g := (mkF m 59 #[.val (.ref x0), .val (.ref x1), .val (.int (Int32.ofNat (own_sum ds))), .val (.int (Int32.ofNat ds.length))] [(.int (Int32.ofNat ds.length)), (.ref ta)])) rfl rfl (hb hby d13_59) _ k) ?_
      refine own_step (T' := T42) (g' := (mkF m 61 #[.val (.ref x0), .val (.ref x1), .val (.int (Int32.ofNat (own_sum ds + g.1))), .val (.int (Int32.ofNat ds.length))] [])) (fun _ k => XS.istoreN X42.here hx rfl (hb hby d13_60) rfl (l' := #[.val (.ref x0), .val (.ref x1), .val (.int (Int32.ofNat (own_sum ds + g.1))), .val (.int (Int32.ofNat ds.length))]) rfl k) ?_
      refine own_step (T' := T42) (g' := (mkF m 64 #[.val (.ref x0), .val (.ref x1), .val (.int (Int32.ofNat (own_sum ds + g.1))), .val (.int ((Int32.ofNat ds.length) + (1 : Int32)))] [])) (fun _ k => XS.iinc X42.here hx rfl (hb hby d13_61) rfl (l' := #[.val (.ref x0), .val (.ref x1), .val (.int (Int32.ofNat (own_sum ds + g.1))), .val (.int ((Int32.ofNat ds.length) + (1 : Int32)))]) rfl k) ?_
      have hr44 : ((Int32.ofNat ds.length) + (1 : Int32)) = (Int32.ofNat (ds ++ [g]).length) := by rw [List.length_append, List.length_singleton, own_ofNat_succ]
      rw [hr44]
      have hr45 : (Int32.ofNat (own_sum ds + g.1)) = (Int32.ofNat (own_sum (ds ++ [g]))) := by rw [own_sum_snoc]
      rw [hr45]
      refine own_step (T' := T42) (g' := (mkF m 13 #[.val (.ref x0), .val (.ref x1), .val (.int (Int32.ofNat (own_sum (ds ++ [g])))), .val (.int (Int32.ofNat (ds ++ [g]).length))] [])) (fun _ k => XS.goto X42.here hx rfl (pc0 := 64) (pc' := 13) rfl (hb hby d13_64) (by decide) (by decide) k) ?_
      exact ih (ds ++ [g]) T42 _ h31 (by rw [← hgs, List.append_assoc]; rfl) Z31 Kp31 (own_wrc (vs := ((((own_enc 8 gs.length ++ own_encs ds) ++ own_enc 8 g.1) ++ own_enc 8 g.2.1) ++ own_enc 8 g.2.2)) ⟨EW31, FbW31, FlW31, EbW31, VbW31, gww, gbw⟩ (by rw [own_encs_snoc]; simp only [List.append_assoc])) ⟨q38, q32, q33, q34, q35, q39, q40, q41, ⟨ntai, ntci, naci⟩, gii, gti, gai, gci⟩ X42 e42 N31
  have oqw := hWR
  obtain ⟨Ew, Fbw, Flw, Ebw, Vbw, gww, gbw⟩ := oqw
  have new : x1 ≠ b := Ew.neArv Vbw (hw _ (List.mem_of_getElem? (i := 7) rfl))
  have oqi := hIS
  obtain ⟨Ei, Fti, Fai, Fci, Fni, Vti, Vai, Vci, ⟨ntai, ntci, naci⟩, gii, gti, gai, gci⟩ := oqi
  have ni_tai : x0 ≠ ta := Ei.neArv Vti (hw _ (List.mem_of_getElem? (i := 68) rfl))
  have ni_aai : x0 ≠ aa := Ei.neArv Vai (hw _ (List.mem_of_getElem? (i := 68) rfl))
  have ni_cai : x0 ≠ ca := Ei.neArv Vci (hw _ (List.mem_of_getElem? (i := 68) rfl))
  have nxw : x0 ≠ x1 := Ei.ne Ew (by decide)
  have nxb : x0 ≠ b := Ei.neArv Vbw (hw _ (List.mem_of_getElem? (i := 68) rfl))
  have nw_ta : x1 ≠ ta := Ew.neArv Vti (hw _ (List.mem_of_getElem? (i := 7) rfl))
  have nw_aa : x1 ≠ aa := Ew.neArv Vai (hw _ (List.mem_of_getElem? (i := 7) rfl))
  have nw_ca : x1 ≠ ca := Ew.neArv Vci (hw _ (List.mem_of_getElem? (i := 7) rfl))
  have hB : own_Goes p e below s (own_QW Z x1 b kB (own_enc 8 gs.length ++ own_encs gs) h0 n0) ({ frames := 1, cells := 0, slots := 0, locals := 16 } : Room).cells ({ frames := 1, cells := 0, slots := 0, locals := 16 } : Room).slots s₁ (mkF m 0 #[.val (.ref x0), .val (.ref x1), .unset, .unset] []) := by
    refine own_step (T' := s₁) (g' := (mkF m 1 #[.val (.ref x0), .val (.ref x1), .unset, .unset] [(.ref x1)])) (fun _ k => XS.aloadN X00.here hx rfl (hb hby d13_0) rfl rfl k) ?_
    refine own_step (T' := s₁) (g' := (mkF m 2 #[.val (.ref x0), .val (.ref x1), .unset, .unset] [(.ref x0), (.ref x1)])) (fun _ k => XS.aloadN X00.here hx rfl (hb hby d13_1) rfl rfl k) ?_
    obtain ⟨T1, X1, e1, st1⟩ := getF X00 hx hZ hown (host := "") (Or.inl (hw _ (List.mem_of_getElem? (i := 81) rfl))) Via.refl e00 Fni (g := (mkF m 2 #[.val (.ref x0), .val (.ref x1), .unset, .unset] [(.ref x0), (.ref x1)])) rfl rfl (hb hby d13_2)
    refine own_step (T' := T1) (g' := (mkF m 5 #[.val (.ref x0), .val (.ref x1), .unset, .unset] [(.int (Int32.ofNat gs.length)), (.ref x1)])) (fun _ k => st1 _ k) ?_
    refine own_step (T' := T1) (g' := (mkF m 6 #[.val (.ref x0), .val (.ref x1), .unset, .unset] [(.long ((Int32.ofNat gs.length).toInt64)), (.ref x1)])) (fun _ k => XS.i2l X1.here hx rfl (hb hby d13_5) rfl k) ?_
    obtain ⟨cq2, kq2, q2a, q2b, q2c⟩ := isOf hZ e1 Ew
    obtain ⟨_, _, ⟨T2, L2, k2, n2⟩, -, X2, ⟨Lc2, hQ2, l2, y2, z2⟩, st2⟩ := X1.virtualBack hx (y := (⟨"com/example/impatiens/impatiens/statespace/StateWriter", "writeLong", "(J)V"⟩ : MethodName)) (z := (⟨"com/example/impatiens/impatiens/statespace/StateWriter", "writeLong", "(J)V"⟩ : MethodName)) hown (mvT hZ (hw _ (List.mem_of_getElem? (i := 93) rfl))) (mvT hZ (hw _ (List.mem_of_getElem? (i := 19) rfl))) (notFace_of_selects (args := #[]) (mvT hZ (hw _ (List.mem_of_getElem? (i := 21) rfl)))) (mvT hZ (hw _ (List.mem_of_getElem? (i := 21) rfl))) (mvT hZ (hw _ (List.mem_of_getElem? (i := 20) rfl))) (by decide) (backOf (W := 0) (rm4 l Z a0 hw [] x1 ((Int32.ofNat gs.length).toInt64) b kB [] gs.length h0 n0 Z0 (own_i2l _ (by omega)) (by omega) (by simp) ⟨Ew, Fbw, Flw, Ebw, Vbw, gww, gbw⟩) hZ (hw _ (List.mem_of_getElem? (i := 22) rfl)) (hw _ (List.mem_of_getElem? (i := 8) rfl)) (by decide) (by decide)) q2a q2c (g := (mkF m 6 #[.val (.ref x0), .val (.ref x1), .unset, .unset] [(.long ((Int32.ofNat gs.length).toInt64)), (.ref x1)])) rfl (by rw [hml]; rfl) (Steps.refl _) (argsL := [(.long ((Int32.ofNat gs.length).toInt64))]) (rest := []) (lenOf pd_4 rfl) rfl (by show 2 * 0 + _ ≤ _; exact Nat.le_of_eq rfl) (hb hby d13_6) (fun _ _ => ⟨rfl, e1, (by decide : 0 + 0 ≤ _), (by decide : 0 + 0 ≤ _)⟩)
    dsimp only [Pt.U, Pt.locs, Pt.cells, Pt.slots] at X2 l2 y2 z2 st2 hQ2
    subst l2 y2 z2
    generalize e2 : T2.heap = h2 at hQ2
    obtain ⟨rfl, N2q, K2, wr2⟩ := hQ2
    have Z2 : n0 ≤ h2.size := Nat.le_trans Z0 K2.1
    have Kp2 : Keep h0 h2 [x1, b] := (Keep.refl h0 [x1, b]).trans K2 (allS (Or.inl (List.mem_of_getElem? (i := 0) rfl)) (allS (Or.inl (List.mem_of_getElem? (i := 1) rfl)) all0))
    have q3 : Fld Z h2 x0 "com/example/impatiens/impatiens/itpn/Instances" "transitions" "[I" (.ref ta) := Fti.keep K2 (ninS nxw (ninS nxb nin0))
    have q4 : Fld Z h2 x0 "com/example/impatiens/impatiens/itpn/Instances" "ages" "[J" (.ref aa) := Fai.keep K2 (ninS nxw (ninS nxb nin0))
    have q5 : Fld Z h2 x0 "com/example/impatiens/impatiens/itpn/Instances" "counts" "[J" (.ref ca) := Fci.keep K2 (ninS nxw (ninS nxb nin0))
    have q6 : Fld Z h2 x0 "com/example/impatiens/impatiens/itpn/Instances" "size" "I" (.int (Int32.ofNat gs.length)) := Fni.keep K2 (ninS nxw (ninS nxb nin0))
    have q7 : Exa Z h2 x1 "com/example/impatiens/impatiens/statespace/StateWriter" := Ew.keep K2
    have q8 : Exa Z h2 b "[B" := Ebw.keep K2
    have q9 : Exa Z h2 x0 "com/example/impatiens/impatiens/itpn/Instances" := Ei.keep K2
    have q10 : Arv Z h2 ta kt .int (Int32.ofNat gs.length) (((own_ts 0 gs).map Int32.ofNat).map Value.int) (.int (0 : Int32)) := Vti.keep K2 (ninS (Ne.symm nw_ta) (ninS (Ne.symm nb_ta) nin0))
    have q11 : Arv Z h2 aa ka .long (Int32.ofNat gs.length) ((gs.map (fun g => Int64.ofNat g.2.1)).map Value.long) (.long (0 : Int64)) := Vai.keep K2 (ninS (Ne.symm nw_aa) (ninS (Ne.symm nb_aa) nin0))
    have q12 : Arv Z h2 ca kc .long (Int32.ofNat gs.length) ((gs.map (fun g => Int64.ofNat g.2.2)).map Value.long) (.long (0 : Int64)) := Vci.keep K2 (ninS (Ne.symm nw_ca) (ninS (Ne.symm nb_ca) nin0))
    have N2 := Fr.app N00 N2q
    obtain ⟨EW2, FbW2, FlW2, EbW2, VbW2, gwW2, gbW2⟩ := wr2
    refine own_step (T' := T2) (g' := (mkF m 9 #[.val (.ref x0), .val (.ref x1), .unset, .unset] [])) (fun _ k => st2.trans k) ?_
    refine own_step (T' := T2) (g' := (mkF m 10 #[.val (.ref x0), .val (.ref x1), .unset, .unset] [(.int (0 : Int32))])) (fun _ k => XS.iconst X2.here hx rfl (hb hby d13_9) k) ?_
    refine own_step (T' := T2) (g' := (mkF m 11 #[.val (.ref x0), .val (.ref x1), .val (.int (0 : Int32)), .unset] [])) (fun _ k => XS.istoreN X2.here hx rfl (hb hby d13_10) rfl (l' := #[.val (.ref x0), .val (.ref x1), .val (.int (0 : Int32)), .unset]) rfl k) ?_
    refine own_step (T' := T2) (g' := (mkF m 12 #[.val (.ref x0), .val (.ref x1), .val (.int (0 : Int32)), .unset] [(.int (0 : Int32))])) (fun _ k => XS.iconst X2.here hx rfl (hb hby d13_11) k) ?_
    refine own_step (T' := T2) (g' := (mkF m 13 #[.val (.ref x0), .val (.ref x1), .val (.int (0 : Int32)), .val (.int (0 : Int32))] [])) (fun _ k => XS.istoreN X2.here hx rfl (hb hby d13_12) rfl (l' := #[.val (.ref x0), .val (.ref x1), .val (.int (0 : Int32)), .val (.int (0 : Int32))]) rfl k) ?_
    exact B13 gs [] T2 _ h2 rfl Z2 Kp2 (own_wrc (vs := [] ++ own_enc 8 gs.length) ⟨EW2, FbW2, FlW2, EbW2, VbW2, gww, gbw⟩ (by simp [own_encs])) ⟨q9, q3, q4, q5, q6, q10, q11, q12, ⟨ntai, ntci, naci⟩, gii, gti, gai, gci⟩ X2 e2 N2
  obtain ⟨s₂, o, q1, q2, q3, v, L, q4, q5, q6⟩ := hB
  exact ⟨s₂, o, castTop (ef_13 m x0 x1) q1, q2, q3, v, L, q4, q5, q6⟩
set_option maxRecDepth 65536 in
set_option maxHeartbeats 40000000 in
theorem rm1 (l : Launch) (Z : State) (a0 : Array Value) (hw : ∀ d ∈ tables_1, d.before a0 Z = true) (ws : List Jvm.Cond) (p0 : Int64) (p2 : Int64) (h0 : Heap) (n0 : Nat) (Z0 : n0 ≤ h0.size) :
    MetFree l (⟨"java/lang/Math", "max", "(JJ)J"⟩ : MethodName) (head1 (Jvm.Cond.code (⟨"java/lang/Math", "max", "(JJ)J"⟩ : MethodName) jdk_29_method_66_code 4 (some .long) :: ws) ({ frames := 0, cells := 0, slots := 0, locals := 0 } : Room)) (fun a U => a = #[(.long p0), (.long p2)] ∧ Z.Warmed39 U.vm ∧ U.heap = h0) (fun _ _ _ _ _ => True) (fun _ U o U' => ∃ v L, o = .returned v ∧ own_Pure ((.long (f1_0 p0 p2))) h0 n0 v U'.heap L ∧ FrameEnd U o U' L ({ frames := 0, cells := 0, slots := 0, locals := 0 } : Room).cells ({ frames := 0, cells := 0, slots := 0, locals := 0 } : Room).slots) := by
  refine MetFree.of_bodySF (Jvm.Free.JP.mathPlain rfl (by decide +kernel)) hisR ?_
  intro p e s m args below meth c s₁ Bd hml0 hP hK
  obtain ⟨rfl, hZ, hh0⟩ := hP
  have hx := Bd.exec
  have hby := Bd.bytes
  have hml : c.maxLocals = 4 := hml0
  have hown : s.vm.findClass "java/lang/Math" = some m.cls := findClass_of_methodNamed Bd.named
  have X00 : Stand p l e ({ frames := 0, cells := 0, slots := 0, locals := 0 } : Room) s m #[(.long p0), (.long p2)] below meth c s₁ [] 0 0 := Stand.of_body Bd
  have e00 : s₁.heap = h0 := by rw [← hh0, Bd.state]; rfl
  have B11 : ∀ (T0 : State) (locs : List Loc) (x0 : Int64) (x2 : Int64) (t0 : Int64), Stand p l e ({ frames := 0, cells := 0, slots := 0, locals := 0 } : Room) s m #[(.long p0), (.long p2)] below meth c T0 locs 0 0 → T0.heap = h0 → Fr n0 locs → f1_11 t0 = f1_0 p0 p2 → own_Goes p e below s (own_Pure ((.long (f1_0 p0 p2))) h0 n0) ({ frames := 0, cells := 0, slots := 0, locals := 0 } : Room).cells ({ frames := 0, cells := 0, slots := 0, locals := 0 } : Room).slots T0 (mkF m 11 #[.val (.long x0), .second, .val (.long x2), .second] [(.long t0)]) := by
    intro T0 locs x0 x2 t0   X0 e0 N0 hf
    exact own_ret X0 Bd (v := some (.long t0)) (fun q => by rw [Bd.returns] at q; cases q) (fun fs q => own_retL X0 hx Bd.returns (hb hby d1_11) q) (show own_Pure ((.long (f1_0 p0 p2))) h0 n0 _ _ _ from ⟨congrArg (fun z => some (Value.long z)) hf, N0, e0⟩) (by decide) (by decide)
  have B10 : ∀ (T0 : State) (locs : List Loc) (x0 : Int64) (x2 : Int64), Stand p l e ({ frames := 0, cells := 0, slots := 0, locals := 0 } : Room) s m #[(.long p0), (.long p2)] below meth c T0 locs 0 0 → T0.heap = h0 → Fr n0 locs → f1_10 x2 = f1_0 p0 p2 → own_Goes p e below s (own_Pure ((.long (f1_0 p0 p2))) h0 n0) ({ frames := 0, cells := 0, slots := 0, locals := 0 } : Room).cells ({ frames := 0, cells := 0, slots := 0, locals := 0 } : Room).slots T0 (mkF m 10 #[.val (.long x0), .second, .val (.long x2), .second] []) := by
    intro T0 locs x0 x2   X0 e0 N0 hf
    refine own_step (T' := T0) (g' := (mkF m 11 #[.val (.long x0), .second, .val (.long x2), .second] [(.long x2)])) (fun _ k => XS.lloadN X0.here hx rfl (hb hby d1_10) rfl k) ?_
    exact B11 T0 _ x0 x2 x2   X0 e0 N0 hf
  have B6 : ∀ (T0 : State) (locs : List Loc) (x0 : Int64) (x2 : Int64), Stand p l e ({ frames := 0, cells := 0, slots := 0, locals := 0 } : Room) s m #[(.long p0), (.long p2)] below meth c T0 locs 0 0 → T0.heap = h0 → Fr n0 locs → f1_6 x0 = f1_0 p0 p2 → own_Goes p e below s (own_Pure ((.long (f1_0 p0 p2))) h0 n0) ({ frames := 0, cells := 0, slots := 0, locals := 0 } : Room).cells ({ frames := 0, cells := 0, slots := 0, locals := 0 } : Room).slots T0 (mkF m 6 #[.val (.long x0), .second, .val (.long x2), .second] []) := by
    intro T0 locs x0 x2   X0 e0 N0 hf
    refine own_step (T' := T0) (g' := (mkF m 7 #[.val (.long x0), .second, .val (.long x2), .second] [(.long x0)])) (fun _ k => XS.lloadN X0.here hx rfl (hb hby d1_6) rfl k) ?_
    refine own_step (T' := T0) (g' := (mkF m 11 #[.val (.long x0), .second, .val (.long x2), .second] [(.long x0)])) (fun _ k => XS.goto X0.here hx rfl (pc0 := 7) (pc' := 11) rfl (hb hby d1_7) (by decide) (by decide) k) ?_
    exact B11 T0 _ x0 x2 x0   X0 e0 N0 hf
  have B0 : ∀ (T0 : State) (locs : List Loc) (x0 : Int64) (x2 : Int64), Stand p l e ({ frames := 0, cells := 0, slots := 0, locals := 0 } : Room) s m #[(.long p0), (.long p2)] below meth c T0 locs 0 0 → T0.heap = h0 → Fr n0 locs → f1_0 x0 x2 = f1_0 p0 p2 → own_Goes p e below s (own_Pure ((.long (f1_0 p0 p2))) h0 n0) ({ frames := 0, cells := 0, slots := 0, locals := 0 } : Room).cells ({ frames := 0, cells := 0, slots := 0, locals := 0 } : Room).slots T0 (mkF m 0 #[.val (.long x0), .second, .val (.long x2), .second] []) := by
    intro T0 locs x0 x2   X0 e0 N0 hf
    refine own_step (T' := T0) (g' := (mkF m 1 #[.val (.long x0), .second, .val (.long x2), .second] [(.long x0)])) (fun _ k => XS.lloadN X0.here hx rfl (hb hby d1_0) rfl k) ?_
    refine own_step (T' := T0) (g' := (mkF m 2 #[.val (.long x0), .second, .val (.long x2), .second] [(.long x2), (.long x0)])) (fun _ k => XS.lloadN X0.here hx rfl (hb hby d1_1) rfl k) ?_
    refine own_step (T' := T0) (g' := (mkF m 3 #[.val (.long x0), .second, .val (.long x2), .second] [(.int (lcmpW x0 x2))])) (fun _ k => XS.lcmp X0.here hx rfl (hb hby d1_2) rfl k) ?_
    by_cases hc : (lcmpW x0 x2) < (0 : Int32)
    · refine own_step (T' := T0) (g' := (mkF m 10 #[.val (.long x0), .second, .val (.long x2), .second] [])) (fun _ k => XS.ifYes X0.here hx rfl (pc0 := 3) (pc' := 10) rfl (hb hby d1_3) rfl ((if0 _ _).trans (tlt hc).1) (by decide) (by decide) k) ?_
      exact B10 T0 _ x0 x2   X0 e0 N0 ((if_pos hc).symm.trans hf)
    · refine own_step (T' := T0) (g' := (mkF m 6 #[.val (.long x0), .second, .val (.long x2), .second] [])) (fun _ k => XS.ifNo X0.here hx rfl (hb hby d1_3) rfl ((if0 _ _).trans (flt hc).1) k) ?_
      exact B6 T0 _ x0 x2   X0 e0 N0 ((if_neg hc).symm.trans hf)
  have hB := B0 s₁ [] p0 p2  X00 e00 (Fr.nil n0) rfl
  obtain ⟨s₂, o, q1, q2, q3, v, L, q4, q5, q6⟩ := hB
  exact ⟨s₂, o, castTop (ef_1 m p0 p2) q1, q2, q3, v, L, q4, q5, q6⟩
set_option maxRecDepth 65536 in
set_option maxHeartbeats 40000000 in
theorem own_road0 (l : Launch) (Z : State) (a0 : Array Value) (hw : ∀ d ∈ tables_1, d.before a0 Z = true) (ws : List Jvm.Cond) (x0 : Int32) (x1 : Int32) (x2 : Int64) (x4 : Int64) (x6 : Int64) (x8 : Int64) (n0 : Nat) {p : Program} {e : Env} {s : State} {m : MethodId} {below : List Frame} {meth : Method} {c : Code} {s₁ : State} (Bd : BodyLoose p l x (head1 (Jvm.Cond.code x code maxLocals ret :: ws) room_1) code maxLocals ret e s m #[(.int x0), (.int x1), (.long x2), (.long x4), (.long x6), (.long x8)] below meth c s₁) (hml : c.maxLocals = 26) (hZ : Z.Warmed39 s.vm) (ut ug ua ub uc ud : Nat) (hT : ut ≤ 32767) (hG : ug ≤ 32767) (hA : ua < 2 ^ 63 - 1) (hB : ub < 2 ^ 63 - 1) (hC : uc < 2 ^ 63) (hD : ud < 2 ^ 63) : ∀ (T0 : State) (locs : List Loc) (hh : Heap), n0 ≤ hh.size → Stand p l e room_1 (s.setVm s.vm) m #[(.int x0), (.int x1), (.long x2), (.long x4), (.long x6), (.long x8)] below meth c T0 locs 0 0 → T0.heap = hh → Fr n0 locs → own_GoesW p e below s (own_Law n0) 32 1408 T0 (mkF m 72 #[.val (.int x0), .val (.int x1), .val (.long x2), .second, .val (.long x4), .second, .val (.long x6), .second, .val (.long x8), .second, .val (.int (Int32.ofNat 0)), .val (.int (Int32.ofNat ut)), .val (.int (Int32.ofNat ug)), .val (.long (Int64.ofNat ua)), .second, .val (.long (Int64.ofNat ub)), .second, .val (.long (Int64.ofNat uc)), .second, .val (.long (Int64.ofNat ud)), .second, .unset, .unset, .unset, .unset, .unset] []) := by
  have hx := Bd.exec
  have hby := Bd.bytes
  have hown : s.vm.findClass "com/example/impatiens/impatiens/itpn/InstancesTickPinLaw" = some m.cls := findClass_of_methodNamed Bd.named
  have wS : ∀ a ∈ Bundle.stringAtoms, a.before a0 Z = true := fun d hd => by
    simp only [Bundle.stringAtoms, List.mem_cons, List.not_mem_nil, or_false] at hd
    rcases hd with rfl | rfl | rfl | rfl | rfl | rfl | rfl
    · exact (hw _ (List.mem_of_getElem? (i := 39) rfl))
    · exact (hw _ (List.mem_of_getElem? (i := 40) rfl))
    · exact (hw _ (List.mem_of_getElem? (i := 15) rfl))
    · exact (hw _ (List.mem_of_getElem? (i := 41) rfl))
    · exact (hw _ (List.mem_of_getElem? (i := 42) rfl))
    · exact (hw _ (List.mem_of_getElem? (i := 43) rfl))
    · exact (hw _ (List.mem_of_getElem? (i := 44) rfl))
  have hS0 : s.Since s.vm 0 := (State.WarmedH.refl s).since _
  have hZs : Z.Warmed39 (s.setVm s.vm).vm := hZ
  have howns : (s.setVm s.vm).vm.findClass "com/example/impatiens/impatiens/itpn/InstancesTickPinLaw" = some m.cls := hown
  have hut : ut < 2 ^ 63 := by omega
  have hut31 : ut < 2 ^ 31 := by omega
  have hug : ug < 2 ^ 63 := by omega
  have hug31 : ug < 2 ^ 31 := by omega
  have hua : ua < 2 ^ 63 := by omega
  have hub : ub < 2 ^ 63 := by omega
  have hua1 : ua + 1 < 2 ^ 63 := by omega
  have hub1 : ub + 1 < 2 ^ 63 := by omega
  have hl1 := own_enc_three ut (by omega)
  have hl2 := own_enc_len 8 ua
  have hl3 := own_enc_len 8 uc
  have hl4 := own_enc_three ug (by omega)
  have hl5 := own_enc_len 8 ub
  have hl6 := own_enc_len 8 ud
  have hl0 := own_enc_one 0 (by decide)
  have hG1 : ∀ g ∈ ([] : List (Nat × Nat × Nat)), g.1 < 32768 ∧ g.2.1 < 2 ^ 63 ∧ g.2.2 < 2 ^ 63 := by simp
  have hG2 : ∀ g ∈ ([] : List (Nat × Nat × Nat)), g.1 < 32768 ∧ g.2.1 < 2 ^ 63 ∧ g.2.2 < 2 ^ 63 := by simp
  have hE1 := own_encs_len _ hG1
  have hE2 := own_encs_len _ hG2
  have hV1 : (own_enc 8 0 ++ own_encs ([] : List (Nat × Nat × Nat))).length ≤ 64 := by rw [List.length_append]; simp only [List.length_cons, List.length_nil] at hE1; omega
  have hV2 : (own_enc 8 0 ++ own_encs ([] : List (Nat × Nat × Nat))).length ≤ 64 := by rw [List.length_append]; simp only [List.length_cons, List.length_nil] at hE2; omega
  have hA1 : (own_enc 8 0 ++ own_encs ([] : List (Nat × Nat × Nat))).drop 0 = own_enc 8 ([] : List (Nat × Nat × Nat)).length ++ (own_encs ([] : List (Nat × Nat × Nat)) ++ []) := by simp
  have B197_0 : ∀ (T0 : State) (locs : List Loc) (hh : Heap) (w1 i1 w2 b2 r2 : Addr) (k2 : ClassId), n0 ≤ hh.size → own_WR Z n0 hh w2 b2 k2 (own_enc 8 0 ++ own_encs ([] : List (Nat × Nat × Nat))) → own_RD Z n0 hh r2 b2 k2 0 (own_enc 8 0 ++ own_encs ([] : List (Nat × Nat × Nat))) → ∀ (vm1 : Vm) (kv : Nat), s.Since vm1 kv → kv ≤ hh.size → Z.Warmed39 (s.setVm vm1).vm → (s.setVm vm1).vm.findClass "com/example/impatiens/impatiens/itpn/InstancesTickPinLaw" = some m.cls → Stand p l e room_1 (s.setVm vm1) m #[(.int x0), (.int x1), (.long x2), (.long x4), (.long x6), (.long x8)] below meth c T0 locs 14 330 → T0.heap = hh → Fr n0 locs → own_GoesW p e below s (own_Law n0) 32 1408 T0 (mkF m 197 #[.val (.int x0), .val (.int x1), .val (.long x2), .second, .val (.long x4), .second, .val (.long x6), .second, .val (.long x8), .second, .val (.int (Int32.ofNat 0)), .val (.int (Int32.ofNat ut)), .val (.int (Int32.ofNat ug)), .val (.long (Int64.ofNat ua)), .second, .val (.long (Int64.ofNat ub)), .second, .val (.long (Int64.ofNat uc)), .second, .val (.long (Int64.ofNat ud)), .second, .val (.ref w1), .val (.ref i1), .val (.ref w2), .val (.ref r2), .unset] []) := by
    intro T0 locs hh w1 i1 w2 b2 r2 k2 Zh hWR hRD vm1 kv hSv hkv hZv hownv X0 e0 N0
    have oqw := hWR
    obtain ⟨Ew, Fbw, Flw, Ebw, Vbw, gww, gbw⟩ := oqw
    have new : w2 ≠ b2 := Ew.neArv Vbw (hw _ (List.mem_of_getElem? (i := 7) rfl))
    have oqr := hRD
    obtain ⟨Er, Fbr, Fpr, Vbr, grr⟩ := oqr
    have ner : r2 ≠ b2 := Er.neArv Vbr (hw _ (List.mem_of_getElem? (i := 27) rfl))
    have nwr : w2 ≠ r2 := Ew.ne Er (by decide)
    refine own_stepW (T' := T0) (g' := (mkF m 199 #[.val (.int x0), .val (.int x1), .val (.long x2), .second, .val (.long x4), .second, .val (.long x6), .second, .val (.long x8), .second, .val (.int (Int32.ofNat 0)), .val (.int (Int32.ofNat ut)), .val (.int (Int32.ofNat ug)), .val (.long (Int64.ofNat ua)), .second, .val (.long (Int64.ofNat ub)), .second, .val (.long (Int64.ofNat uc)), .second, .val (.long (Int64.ofNat ud)), .second, .val (.ref w1), .val (.ref i1), .val (.ref w2), .val (.ref r2), .unset] [(.ref r2)])) (fun _ k => XS.aload X0.here hx rfl (hb hby at_197) rfl rfl k) ?_
    have hat0 : (own_enc 8 0 ++ own_encs ([] : List (Nat × Nat × Nat))).drop 0 = own_enc 8 0 ++ ([] : List Int32) := by simp [own_encs]
    obtain ⟨cqu1, kqu1, qu1a, qu1b, qu1c⟩ := isOf hZv e0 Er
    obtain ⟨_, _, ⟨Tu1, Lu1, ku1, nu1⟩, -, Xu1, ⟨Lcu1, hQu1, lu1, yu1, zu1⟩, stu1⟩ := X0.virtualBack hx (y := (⟨"com/example/impatiens/impatiens/statespace/StateReader", "readLong", "()J"⟩ : MethodName)) (z := (⟨"com/example/impatiens/impatiens/statespace/StateReader", "readLong", "()J"⟩ : MethodName)) hownv (mvT hZv (hw _ (List.mem_of_getElem? (i := 94) rfl))) (mvT hZv (hw _ (List.mem_of_getElem? (i := 58) rfl))) (notFace_of_selects (args := #[]) (mvT hZv (hw _ (List.mem_of_getElem? (i := 60) rfl)))) (mvT hZv (hw _ (List.mem_of_getElem? (i := 60) rfl))) (mvT hZv (hw _ (List.mem_of_getElem? (i := 59) rfl))) (by decide) (backOf (W := 0) (rm9 l Z a0 hw [] r2 b2 k2 (own_enc 8 0 ++ own_encs ([] : List (Nat × Nat × Nat))) ([] : List Int32) 0 0 hh n0 Zh (by decide) hV2 hat0 ⟨Er, Fbr, Fpr, Vbw, grr⟩) hZv (hw _ (List.mem_of_getElem? (i := 61) rfl)) (hw _ (List.mem_of_getElem? (i := 28) rfl)) (by decide) (by decide)) qu1a qu1c (g := (mkF m 199 #[.val (.int x0), .val (.int x1), .val (.long x2), .second, .val (.long x4), .second, .val (.long x6), .second, .val (.long x8), .second, .val (.int (Int32.ofNat 0)), .val (.int (Int32.ofNat ut)), .val (.int (Int32.ofNat ug)), .val (.long (Int64.ofNat ua)), .second, .val (.long (Int64.ofNat ub)), .second, .val (.long (Int64.ofNat uc)), .second, .val (.long (Int64.ofNat ud)), .second, .val (.ref w1), .val (.ref i1), .val (.ref w2), .val (.ref r2), .unset] [(.ref r2)])) rfl (by rw [hml]; rfl) (Steps.refl _) (argsL := []) (rest := []) (lenOf pd_1 rfl) rfl (by show 2 * 0 + _ ≤ _; exact Nat.le_of_eq rfl) (hb hby at_199) (fun _ _ => ⟨rfl, e0, (by decide : 14 + 0 ≤ _), (by decide : 330 + 0 ≤ _)⟩)
    dsimp only [Pt.U, Pt.locs, Pt.cells, Pt.slots] at Xu1 lu1 yu1 zu1 stu1 hQu1
    subst lu1 yu1 zu1
    generalize eu1 : Tu1.heap = hu1 at hQu1
    obtain ⟨rfl, Nu1q, Ku1, rdu1⟩ := hQu1
    have Zu1 : n0 ≤ hu1.size := Nat.le_trans Zh Ku1.1
    have hku1 := Nat.le_trans hkv Ku1.1
    have qu2 : Fld Z hu1 w2 "com/example/impatiens/impatiens/statespace/StateWriter" "bytes" "[B" (.ref b2) := Fbw.keep Ku1 (ninS nwr nin0)
    have qu3 : Fld Z hu1 w2 "com/example/impatiens/impatiens/statespace/StateWriter" "length" "I" (.int (Int32.ofNat (own_enc 8 0 ++ own_encs ([] : List (Nat × Nat × Nat))).length)) := Flw.keep Ku1 (ninS nwr nin0)
    have qu4 : Exa Z hu1 w2 "com/example/impatiens/impatiens/statespace/StateWriter" := Ew.keep Ku1
    have qu5 : Exa Z hu1 b2 "[B" := Ebw.keep Ku1
    have qu6 : Exa Z hu1 r2 "com/example/impatiens/impatiens/statespace/StateReader" := Er.keep Ku1
    have qu7 : Arv Z hu1 b2 k2 .byte (64 : Int32) ((own_enc 8 0 ++ own_encs ([] : List (Nat × Nat × Nat))).map Value.int) (.int (0 : Int32)) := Vbw.keep Ku1 (ninS (Ne.symm ner) nin0)
    have Nu1 := Fr.app N0 Nu1q
    obtain ⟨ERu1, FbRu1, FpRu1, VbRu1, grRu1⟩ := rdu1
    refine own_stepW (T' := Tu1) (g' := (mkF m 202 #[.val (.int x0), .val (.int x1), .val (.long x2), .second, .val (.long x4), .second, .val (.long x6), .second, .val (.long x8), .second, .val (.int (Int32.ofNat 0)), .val (.int (Int32.ofNat ut)), .val (.int (Int32.ofNat ug)), .val (.long (Int64.ofNat ua)), .second, .val (.long (Int64.ofNat ub)), .second, .val (.long (Int64.ofNat uc)), .second, .val (.long (Int64.ofNat ud)), .second, .val (.ref w1), .val (.ref i1), .val (.ref w2), .val (.ref r2), .unset] [(.long (Int64.ofNat 0))])) (fun _ k => stu1.trans k) ?_
    refine own_stepW (T' := Tu1) (g' := (mkF m 204 #[.val (.int x0), .val (.int x1), .val (.long x2), .second, .val (.long x4), .second, .val (.long x6), .second, .val (.long x8), .second, .val (.int (Int32.ofNat 0)), .val (.int (Int32.ofNat ut)), .val (.int (Int32.ofNat ug)), .val (.long (Int64.ofNat ua)), .second, .val (.long (Int64.ofNat ub)), .second, .val (.long (Int64.ofNat uc)), .second, .val (.long (Int64.ofNat ud)), .second, .val (.ref w1), .val (.ref i1), .val (.ref w2), .val (.ref r2), .unset] [(.int (Int32.ofNat 0)), (.long (Int64.ofNat 0))])) (fun _ k => XS.iload Xu1.here hx rfl (hb hby at_202) rfl k) ?_
    refine own_stepW (T' := Tu1) (g' := (mkF m 205 #[.val (.int x0), .val (.int x1), .val (.long x2), .second, .val (.long x4), .second, .val (.long x6), .second, .val (.long x8), .second, .val (.int (Int32.ofNat 0)), .val (.int (Int32.ofNat ut)), .val (.int (Int32.ofNat ug)), .val (.long (Int64.ofNat ua)), .second, .val (.long (Int64.ofNat ub)), .second, .val (.long (Int64.ofNat uc)), .second, .val (.long (Int64.ofNat ud)), .second, .val (.ref w1), .val (.ref i1), .val (.ref w2), .val (.ref r2), .unset] [(.long ((Int32.ofNat 0).toInt64)), (.long (Int64.ofNat 0))])) (fun _ k => XS.i2l Xu1.here hx rfl (hb hby at_204) rfl k) ?_
    refine own_stepW (T' := Tu1) (g' := (mkF m 206 #[.val (.int x0), .val (.int x1), .val (.long x2), .second, .val (.long x4), .second, .val (.long x6), .second, .val (.long x8), .second, .val (.int (Int32.ofNat 0)), .val (.int (Int32.ofNat ut)), .val (.int (Int32.ofNat ug)), .val (.long (Int64.ofNat ua)), .second, .val (.long (Int64.ofNat ub)), .second, .val (.long (Int64.ofNat uc)), .second, .val (.long (Int64.ofNat ud)), .second, .val (.ref w1), .val (.ref i1), .val (.ref w2), .val (.ref r2), .unset] [(.int (lcmpW (Int64.ofNat 0) ((Int32.ofNat 0).toInt64)))])) (fun _ k => XS.lcmp Xu1.here hx rfl (hb hby at_205) rfl k) ?_
    have hcu8 : (lcmpW (Int64.ofNat 0) ((Int32.ofNat 0).toInt64)) = (0 : Int32) := own_cmpeq (own_i2l 0 (by decide)).symm
    refine own_stepW (T' := Tu1) (g' := (mkF m 209 #[.val (.int x0), .val (.int x1), .val (.long x2), .second, .val (.long x4), .second, .val (.long x6), .second, .val (.long x8), .second, .val (.int (Int32.ofNat 0)), .val (.int (Int32.ofNat ut)), .val (.int (Int32.ofNat ug)), .val (.long (Int64.ofNat ua)), .second, .val (.long (Int64.ofNat ub)), .second, .val (.long (Int64.ofNat uc)), .second, .val (.long (Int64.ofNat ud)), .second, .val (.ref w1), .val (.ref i1), .val (.ref w2), .val (.ref r2), .unset] [])) (fun _ k => XS.ifNo Xu1.here hx rfl (hb hby at_206) rfl ((if0 _ _).trans (teq hcu8).2) k) ?_
    refine own_stepW (T' := Tu1) (g' := (mkF m 210 #[.val (.int x0), .val (.int x1), .val (.long x2), .second, .val (.long x4), .second, .val (.long x6), .second, .val (.long x8), .second, .val (.int (Int32.ofNat 0)), .val (.int (Int32.ofNat ut)), .val (.int (Int32.ofNat ug)), .val (.long (Int64.ofNat ua)), .second, .val (.long (Int64.ofNat ub)), .second, .val (.long (Int64.ofNat uc)), .second, .val (.long (Int64.ofNat ud)), .second, .val (.ref w1), .val (.ref i1), .val (.ref w2), .val (.ref r2), .unset] [(.int (1 : Int32))])) (fun _ k => XS.iconst Xu1.here hx rfl (hb hby at_209) k) ?_
    refine own_stepW (T' := Tu1) (g' := (mkF m 214 #[.val (.int x0), .val (.int x1), .val (.long x2), .second, .val (.long x4), .second, .val (.long x6), .second, .val (.long x8), .second, .val (.int (Int32.ofNat 0)), .val (.int (Int32.ofNat ut)), .val (.int (Int32.ofNat ug)), .val (.long (Int64.ofNat ua)), .second, .val (.long (Int64.ofNat ub)), .second, .val (.long (Int64.ofNat uc)), .second, .val (.long (Int64.ofNat ud)), .second, .val (.ref w1), .val (.ref i1), .val (.ref w2), .val (.ref r2), .unset] [(.int (1 : Int32))])) (fun _ k => XS.goto Xu1.here hx rfl (pc0 := 210) (pc' := 214) rfl (hb hby at_210) (by decide) (by decide) k) ?_
    refine own_stepW (T' := Tu1) (g' := (mkF m 216 #[.val (.int x0), .val (.int x1), .val (.long x2), .second, .val (.long x4), .second, .val (.long x6), .second, .val (.long x8), .second, .val (.int (Int32.ofNat 0)), .val (.int (Int32.ofNat ut)), .val (.int (Int32.ofNat ug)), .val (.long (Int64.ofNat ua)), .second, .val (.long (Int64.ofNat ub)), .second, .val (.long (Int64.ofNat uc)), .second, .val (.long (Int64.ofNat ud)), .second, .val (.ref w1), .val (.ref i1), .val (.ref w2), .val (.ref r2), .val (.int (1 : Int32))] [])) (fun _ k => XS.istore Xu1.here hx rfl (hb hby at_214) rfl (l' := #[.val (.int x0), .val (.int x1), .val (.long x2), .second, .val (.long x4), .second, .val (.long x6), .second, .val (.long x8), .second, .val (.int (Int32.ofNat 0)), .val (.int (Int32.ofNat ut)), .val (.int (Int32.ofNat ug)), .val (.long (Int64.ofNat ua)), .second, .val (.long (Int64.ofNat ub)), .second, .val (.long (Int64.ofNat uc)), .second, .val (.long (Int64.ofNat ud)), .second, .val (.ref w1), .val (.ref i1), .val (.ref w2), .val (.ref r2), .val (.int (1 : Int32))]) rfl k) ?_
    refine own_stepW (T' := Tu1) (g' := (mkF m 218 #[.val (.int x0), .val (.int x1), .val (.long x2), .second, .val (.long x4), .second, .val (.long x6), .second, .val (.long x8), .second, .val (.int (Int32.ofNat 0)), .val (.int (Int32.ofNat ut)), .val (.int (Int32.ofNat ug)), .val (.long (Int64.ofNat ua)), .second, .val (.long (Int64.ofNat ub)), .second, .val (.long (Int64.ofNat uc)), .second, .val (.long (Int64.ofNat ud)), .second, .val (.ref w1), .val (.ref i1), .val (.ref w2), .val (.ref r2), .val (.int (1 : Int32))] [(.int (1 : Int32))])) (fun _ k => XS.iload Xu1.here hx rfl (hb hby at_216) rfl k) ?_
    have hcu9 : ¬ ((1 : Int32) = (0 : Int32)) := by decide
    refine own_stepW (T' := Tu1) (g' := (mkF m 221 #[.val (.int x0), .val (.int x1), .val (.long x2), .second, .val (.long x4), .second, .val (.long x6), .second, .val (.long x8), .second, .val (.int (Int32.ofNat 0)), .val (.int (Int32.ofNat ut)), .val (.int (Int32.ofNat ug)), .val (.long (Int64.ofNat ua)), .second, .val (.long (Int64.ofNat ub)), .second, .val (.long (Int64.ofNat uc)), .second, .val (.long (Int64.ofNat ud)), .second, .val (.ref w1), .val (.ref i1), .val (.ref w2), .val (.ref r2), .val (.int (1 : Int32))] [])) (fun _ k => XS.ifNo Xu1.here hx rfl (hb hby at_218) rfl ((if0 _ _).trans (feq hcu9).1) k) ?_
    refine own_stepW (T' := Tu1) (g' := (mkF m 223 #[.val (.int x0), .val (.int x1), .val (.long x2), .second, .val (.long x4), .second, .val (.long x6), .second, .val (.long x8), .second, .val (.int (Int32.ofNat 0)), .val (.int (Int32.ofNat ut)), .val (.int (Int32.ofNat ug)), .val (.long (Int64.ofNat ua)), .second, .val (.long (Int64.ofNat ub)), .second, .val (.long (Int64.ofNat uc)), .second, .val (.long (Int64.ofNat ud)), .second, .val (.ref w1), .val (.ref i1), .val (.ref w2), .val (.ref r2), .val (.int (1 : Int32))] [(.int (Int32.ofNat 0))])) (fun _ k => XS.iload Xu1.here hx rfl (hb hby at_221) rfl k) ?_
    refine own_stepW (T' := Tu1) (g' := (mkF m 224 #[.val (.int x0), .val (.int x1), .val (.long x2), .second, .val (.long x4), .second, .val (.long x6), .second, .val (.long x8), .second, .val (.int (Int32.ofNat 0)), .val (.int (Int32.ofNat ut)), .val (.int (Int32.ofNat ug)), .val (.long (Int64.ofNat ua)), .second, .val (.long (Int64.ofNat ub)), .second, .val (.long (Int64.ofNat uc)), .second, .val (.long (Int64.ofNat ud)), .second, .val (.ref w1), .val (.ref i1), .val (.ref w2), .val (.ref r2), .val (.int (1 : Int32))] [(.int (1 : Int32)), (.int (Int32.ofNat 0))])) (fun _ k => XS.iconst Xu1.here hx rfl (hb hby at_223) k) ?_
    have hcu10 : (Int32.ofNat 0) < (1 : Int32) := by decide
    refine own_stepW (T' := Tu1) (g' := (mkF m 270 #[.val (.int x0), .val (.int x1), .val (.long x2), .second, .val (.long x4), .second, .val (.long x6), .second, .val (.long x8), .second, .val (.int (Int32.ofNat 0)), .val (.int (Int32.ofNat ut)), .val (.int (Int32.ofNat ug)), .val (.long (Int64.ofNat ua)), .second, .val (.long (Int64.ofNat ub)), .second, .val (.long (Int64.ofNat uc)), .second, .val (.long (Int64.ofNat ud)), .second, .val (.ref w1), .val (.ref i1), .val (.ref w2), .val (.ref r2), .val (.int (1 : Int32))] [])) (fun _ k => XS.icmpYes Xu1.here hx rfl (pc0 := 224) (pc' := 270) rfl (hb hby at_224) rfl (tlt hcu10).1 (by decide) (by decide) k) ?_
    refine own_stepW (T' := Tu1) (g' := (mkF m 272 #[.val (.int x0), .val (.int x1), .val (.long x2), .second, .val (.long x4), .second, .val (.long x6), .second, .val (.long x8), .second, .val (.int (Int32.ofNat 0)), .val (.int (Int32.ofNat ut)), .val (.int (Int32.ofNat ug)), .val (.long (Int64.ofNat ua)), .second, .val (.long (Int64.ofNat ub)), .second, .val (.long (Int64.ofNat uc)), .second, .val (.long (Int64.ofNat ud)), .second, .val (.ref w1), .val (.ref i1), .val (.ref w2), .val (.ref r2), .val (.int (1 : Int32))] [(.int (1 : Int32))])) (fun _ k => XS.iload Xu1.here hx rfl (hb hby at_270) rfl k) ?_
    have hcu11 : ¬ ((1 : Int32) = (0 : Int32)) := by decide
    refine own_stepW (T' := Tu1) (g' := (mkF m 275 #[.val (.int x0), .val (.int x1), .val (.long x2), .second, .val (.long x4), .second, .val (.long x6), .second, .val (.long x8), .second, .val (.int (Int32.ofNat 0)), .val (.int (Int32.ofNat ut)), .val (.int (Int32.ofNat ug)), .val (.long (Int64.ofNat ua)), .second, .val (.long (Int64.ofNat ub)), .second, .val (.long (Int64.ofNat uc)), .second, .val (.long (Int64.ofNat ud)), .second, .val (.ref w1), .val (.ref i1), .val (.ref w2), .val (.ref r2), .val (.int (1 : Int32))] [])) (fun _ k => XS.ifNo Xu1.here hx rfl (hb hby at_272) rfl ((if0 _ _).trans (feq hcu11).1) k) ?_
    refine own_stepW (T' := Tu1) (g' := (mkF m 277 #[.val (.int x0), .val (.int x1), .val (.long x2), .second, .val (.long x4), .second, .val (.long x6), .second, .val (.long x8), .second, .val (.int (Int32.ofNat 0)), .val (.int (Int32.ofNat ut)), .val (.int (Int32.ofNat ug)), .val (.long (Int64.ofNat ua)), .second, .val (.long (Int64.ofNat ub)), .second, .val (.long (Int64.ofNat uc)), .second, .val (.long (Int64.ofNat ud)), .second, .val (.ref w1), .val (.ref i1), .val (.ref w2), .val (.ref r2), .val (.int (1 : Int32))] [(.int (Int32.ofNat 0))])) (fun _ k => XS.iload Xu1.here hx rfl (hb hby at_275) rfl k) ?_
    refine own_stepW (T' := Tu1) (g' := (mkF m 278 #[.val (.int x0), .val (.int x1), .val (.long x2), .second, .val (.long x4), .second, .val (.long x6), .second, .val (.long x8), .second, .val (.int (Int32.ofNat 0)), .val (.int (Int32.ofNat ut)), .val (.int (Int32.ofNat ug)), .val (.long (Int64.ofNat ua)), .second, .val (.long (Int64.ofNat ub)), .second, .val (.long (Int64.ofNat uc)), .second, .val (.long (Int64.ofNat ud)), .second, .val (.ref w1), .val (.ref i1), .val (.ref w2), .val (.ref r2), .val (.int (1 : Int32))] [(.int (2 : Int32)), (.int (Int32.ofNat 0))])) (fun _ k => XS.iconst Xu1.here hx rfl (hb hby at_277) k) ?_
    have hcu12 : (Int32.ofNat 0) < (2 : Int32) := by decide
    refine own_stepW (T' := Tu1) (g' := (mkF m 324 #[.val (.int x0), .val (.int x1), .val (.long x2), .second, .val (.long x4), .second, .val (.long x6), .second, .val (.long x8), .second, .val (.int (Int32.ofNat 0)), .val (.int (Int32.ofNat ut)), .val (.int (Int32.ofNat ug)), .val (.long (Int64.ofNat ua)), .second, .val (.long (Int64.ofNat ub)), .second, .val (.long (Int64.ofNat uc)), .second, .val (.long (Int64.ofNat ud)), .second, .val (.ref w1), .val (.ref i1), .val (.ref w2), .val (.ref r2), .val (.int (1 : Int32))] [])) (fun _ k => XS.icmpYes Xu1.here hx rfl (pc0 := 278) (pc' := 324) rfl (hb hby at_278) rfl (tlt hcu12).1 (by decide) (by decide) k) ?_
    refine own_stepW (T' := Tu1) (g' := (mkF m 326 #[.val (.int x0), .val (.int x1), .val (.long x2), .second, .val (.long x4), .second, .val (.long x6), .second, .val (.long x8), .second, .val (.int (Int32.ofNat 0)), .val (.int (Int32.ofNat ut)), .val (.int (Int32.ofNat ug)), .val (.long (Int64.ofNat ua)), .second, .val (.long (Int64.ofNat ub)), .second, .val (.long (Int64.ofNat uc)), .second, .val (.long (Int64.ofNat ud)), .second, .val (.ref w1), .val (.ref i1), .val (.ref w2), .val (.ref r2), .val (.int (1 : Int32))] [(.int (1 : Int32))])) (fun _ k => XS.iload Xu1.here hx rfl (hb hby at_324) rfl k) ?_
    have hcu13 : ¬ ((1 : Int32) = (0 : Int32)) := by decide
    refine own_stepW (T' := Tu1) (g' := (mkF m 329 #[.val (.int x0), .val (.int x1), .val (.long x2), .second, .val (.long x4), .second, .val (.long x6), .second, .val (.long x8), .second, .val (.int (Int32.ofNat 0)), .val (.int (Int32.ofNat ut)), .val (.int (Int32.ofNat ug)), .val (.long (Int64.ofNat ua)), .second, .val (.long (Int64.ofNat ub)), .second, .val (.long (Int64.ofNat uc)), .second, .val (.long (Int64.ofNat ud)), .second, .val (.ref w1), .val (.ref i1), .val (.ref w2), .val (.ref r2), .val (.int (1 : Int32))] [])) (fun _ k => XS.ifNo Xu1.here hx rfl (hb hby at_326) rfl ((if0 _ _).trans (feq hcu13).1) k) ?_
    refine own_stepW (T' := Tu1) (g' := (mkF m 331 #[.val (.int x0), .val (.int x1), .val (.long x2), .second, .val (.long x4), .second, .val (.long x6), .second, .val (.long x8), .second, .val (.int (Int32.ofNat 0)), .val (.int (Int32.ofNat ut)), .val (.int (Int32.ofNat ug)), .val (.long (Int64.ofNat ua)), .second, .val (.long (Int64.ofNat ub)), .second, .val (.long (Int64.ofNat uc)), .second, .val (.long (Int64.ofNat ud)), .second, .val (.ref w1), .val (.ref i1), .val (.ref w2), .val (.ref r2), .val (.int (1 : Int32))] [(.ref r2)])) (fun _ k => XS.aload Xu1.here hx rfl (hb hby at_329) rfl rfl k) ?_
    obtain ⟨cqu14, kqu14, qu14a, qu14b, qu14c⟩ := isOf hZv eu1 ERu1
    obtain ⟨_, _, ⟨Tu14, Lu14, ku14, nu14⟩, -, Xu14, ⟨Lcu14, hQu14, lu14, yu14, zu14⟩, stu14⟩ := Xu1.virtualBack hx (y := (⟨"com/example/impatiens/impatiens/statespace/StateReader", "position", "()I"⟩ : MethodName)) (z := (⟨"com/example/impatiens/impatiens/statespace/StateReader", "position", "()I"⟩ : MethodName)) hownv (mvT hZv (hw _ (List.mem_of_getElem? (i := 95) rfl))) (mvT hZv (hw _ (List.mem_of_getElem? (i := 96) rfl))) (notFace_of_selects (args := #[]) (mvT hZv (hw _ (List.mem_of_getElem? (i := 98) rfl)))) (mvT hZv (hw _ (List.mem_of_getElem? (i := 98) rfl))) (mvT hZv (hw _ (List.mem_of_getElem? (i := 97) rfl))) (by decide) (backOf (W := 0) (rm14 l Z a0 hw [] r2 b2 k2 (0 + (own_enc 8 0).length) (own_enc 8 0 ++ own_encs ([] : List (Nat × Nat × Nat))) hu1 n0 Zu1 ⟨ERu1, FbRu1, FpRu1, qu7, grr⟩) hZv (hw _ (List.mem_of_getElem? (i := 99) rfl)) (hw _ (List.mem_of_getElem? (i := 28) rfl)) (by decide) (by decide)) qu14a qu14c (g := (mkF m 331 #[.val (.int x0), .val (.int x1), .val (.long x2), .second, .val (.long x4), .second, .val (.long x6), .second, .val (.long x8), .second, .val (.int (Int32.ofNat 0)), .val (.int (Int32.ofNat ut)), .val (.int (Int32.ofNat ug)), .val (.long (Int64.ofNat ua)), .second, .val (.long (Int64.ofNat ub)), .second, .val (.long (Int64.ofNat uc)), .second, .val (.long (Int64.ofNat ud)), .second, .val (.ref w1), .val (.ref i1), .val (.ref w2), .val (.ref r2), .val (.int (1 : Int32))] [(.ref r2)])) rfl (by rw [hml]; rfl) (Steps.refl _) (argsL := []) (rest := []) (lenOf pd_6 rfl) rfl (by show 2 * 0 + _ ≤ _; exact Nat.le_of_eq rfl) (hb hby at_331) (fun _ _ => ⟨rfl, eu1, (by decide : 14 + 0 ≤ _), (by decide : 330 + 0 ≤ _)⟩)
    dsimp only [Pt.U, Pt.locs, Pt.cells, Pt.slots] at Xu14 lu14 yu14 zu14 stu14 hQu14
    subst lu14 yu14 zu14
    obtain ⟨rfl, Nu14q, eu14⟩ := hQu14
    have Nu14 := Fr.app Nu1 Nu14q
    refine own_stepW (T' := Tu14) (g' := (mkF m 334 #[.val (.int x0), .val (.int x1), .val (.long x2), .second, .val (.long x4), .second, .val (.long x6), .second, .val (.long x8), .second, .val (.int (Int32.ofNat 0)), .val (.int (Int32.ofNat ut)), .val (.int (Int32.ofNat ug)), .val (.long (Int64.ofNat ua)), .second, .val (.long (Int64.ofNat ub)), .second, .val (.long (Int64.ofNat uc)), .second, .val (.long (Int64.ofNat ud)), .second, .val (.ref w1), .val (.ref i1), .val (.ref w2), .val (.ref r2), .val (.int (1 : Int32))] [(.int (Int32.ofNat (0 + (own_enc 8 0).length)))])) (fun _ k => stu14.trans k) ?_
    refine own_stepW (T' := Tu14) (g' := (mkF m 336 #[.val (.int x0), .val (.int x1), .val (.long x2), .second, .val (.long x4), .second, .val (.long x6), .second, .val (.long x8), .second, .val (.int (Int32.ofNat 0)), .val (.int (Int32.ofNat ut)), .val (.int (Int32.ofNat ug)), .val (.long (Int64.ofNat ua)), .second, .val (.long (Int64.ofNat ub)), .second, .val (.long (Int64.ofNat uc)), .second, .val (.long (Int64.ofNat ud)), .second, .val (.ref w1), .val (.ref i1), .val (.ref w2), .val (.ref r2), .val (.int (1 : Int32))] [(.ref w2), (.int (Int32.ofNat (0 + (own_enc 8 0).length)))])) (fun _ k => XS.aload Xu14.here hx rfl (hb hby at_334) rfl rfl k) ?_
    obtain ⟨cqu15, kqu15, qu15a, qu15b, qu15c⟩ := isOf hZv eu14 qu4
    obtain ⟨_, _, ⟨Tu15, Lu15, ku15, nu15⟩, -, Xu15, ⟨Lcu15, hQu15, lu15, yu15, zu15⟩, stu15⟩ := Xu14.virtualBack hx (y := (⟨"com/example/impatiens/impatiens/statespace/StateWriter", "length", "()I"⟩ : MethodName)) (z := (⟨"com/example/impatiens/impatiens/statespace/StateWriter", "length", "()I"⟩ : MethodName)) hownv (mvT hZv (hw _ (List.mem_of_getElem? (i := 100) rfl))) (mvT hZv (hw _ (List.mem_of_getElem? (i := 101) rfl))) (notFace_of_selects (args := #[]) (mvT hZv (hw _ (List.mem_of_getElem? (i := 103) rfl)))) (mvT hZv (hw _ (List.mem_of_getElem? (i := 103) rfl))) (mvT hZv (hw _ (List.mem_of_getElem? (i := 102) rfl))) (by decide) (backOf (W := 1) (rm15 l Z a0 hw [] w2 b2 k2 (own_enc 8 0 ++ own_encs ([] : List (Nat × Nat × Nat))) hu1 n0 Zu1 ⟨qu4, qu2, qu3, qu5, qu7, gww, gbw⟩) hZv (hw _ (List.mem_of_getElem? (i := 104) rfl)) (hw _ (List.mem_of_getElem? (i := 8) rfl)) (by decide) (by decide)) qu15a qu15c (g := (mkF m 336 #[.val (.int x0), .val (.int x1), .val (.long x2), .second, .val (.long x4), .second, .val (.long x6), .second, .val (.long x8), .second, .val (.int (Int32.ofNat 0)), .val (.int (Int32.ofNat ut)), .val (.int (Int32.ofNat ug)), .val (.long (Int64.ofNat ua)), .second, .val (.long (Int64.ofNat ub)), .second, .val (.long (Int64.ofNat uc)), .second, .val (.long (Int64.ofNat ud)), .second, .val (.ref w1), .val (.ref i1), .val (.ref w2), .val (.ref r2), .val (.int (1 : Int32))] [(.ref w2), (.int (Int32.ofNat (0 + (own_enc 8 0).length)))])) rfl (by rw [hml]; rfl) (Steps.refl _) (argsL := []) (rest := [(.int (Int32.ofNat (0 + (own_enc 8 0).length)))]) (lenOf pd_6 rfl) rfl (by show 2 * 0 + _ ≤ _; exact Nat.le_of_eq rfl) (hb hby at_336) (fun _ _ => ⟨rfl, eu14, (by decide : 14 + 0 ≤ _), (by decide : 330 + 0 ≤ _)⟩)
    dsimp only [Pt.U, Pt.locs, Pt.cells, Pt.slots] at Xu15 lu15 yu15 zu15 stu15 hQu15
    subst lu15 yu15 zu15
    obtain ⟨rfl, Nu15q, eu15⟩ := hQu15
    have Nu15 := Fr.app Nu14 Nu15q
    refine own_stepW (T' := Tu15) (g' := (mkF m 339 #[.val (.int x0), .val (.int x1), .val (.long x2), .second, .val (.long x4), .second, .val (.long x6), .second, .val (.long x8), .second, .val (.int (Int32.ofNat 0)), .val (.int (Int32.ofNat ut)), .val (.int (Int32.ofNat ug)), .val (.long (Int64.ofNat ua)), .second, .val (.long (Int64.ofNat ub)), .second, .val (.long (Int64.ofNat uc)), .second, .val (.long (Int64.ofNat ud)), .second, .val (.ref w1), .val (.ref i1), .val (.ref w2), .val (.ref r2), .val (.int (1 : Int32))] [(.int (Int32.ofNat (own_enc 8 0 ++ own_encs ([] : List (Nat × Nat × Nat))).length)), (.int (Int32.ofNat (0 + (own_enc 8 0).length)))])) (fun _ k => stu15.trans k) ?_
    have hcu16 : (Int32.ofNat (0 + (own_enc 8 0).length)) = (Int32.ofNat (own_enc 8 0 ++ own_encs ([] : List (Nat × Nat × Nat))).length) := own_posN _ _ (by simp [own_encs, Nat.add_assoc])
    refine own_stepW (T' := Tu15) (g' := (mkF m 342 #[.val (.int x0), .val (.int x1), .val (.long x2), .second, .val (.long x4), .second, .val (.long x6), .second, .val (.long x8), .second, .val (.int (Int32.ofNat 0)), .val (.int (Int32.ofNat ut)), .val (.int (Int32.ofNat ug)), .val (.long (Int64.ofNat ua)), .second, .val (.long (Int64.ofNat ub)), .second, .val (.long (Int64.ofNat uc)), .second, .val (.long (Int64.ofNat ud)), .second, .val (.ref w1), .val (.ref i1), .val (.ref w2), .val (.ref r2), .val (.int (1 : Int32))] [])) (fun _ k => XS.icmpNo Xu15.here hx rfl (hb hby at_339) rfl (teq hcu16).2 k) ?_
    refine own_stepW (T' := Tu15) (g' := (mkF m 343 #[.val (.int x0), .val (.int x1), .val (.long x2), .second, .val (.long x4), .second, .val (.long x6), .second, .val (.long x8), .second, .val (.int (Int32.ofNat 0)), .val (.int (Int32.ofNat ut)), .val (.int (Int32.ofNat ug)), .val (.long (Int64.ofNat ua)), .second, .val (.long (Int64.ofNat ub)), .second, .val (.long (Int64.ofNat uc)), .second, .val (.long (Int64.ofNat ud)), .second, .val (.ref w1), .val (.ref i1), .val (.ref w2), .val (.ref r2), .val (.int (1 : Int32))] [(.int (1 : Int32))])) (fun _ k => XS.iconst Xu15.here hx rfl (hb hby at_342) k) ?_
    refine own_stepW (T' := Tu15) (g' := (mkF m 347 #[.val (.int x0), .val (.int x1), .val (.long x2), .second, .val (.long x4), .second, .val (.long x6), .second, .val (.long x8), .second, .val (.int (Int32.ofNat 0)), .val (.int (Int32.ofNat ut)), .val (.int (Int32.ofNat ug)), .val (.long (Int64.ofNat ua)), .second, .val (.long (Int64.ofNat ub)), .second, .val (.long (Int64.ofNat uc)), .second, .val (.long (Int64.ofNat ud)), .second, .val (.ref w1), .val (.ref i1), .val (.ref w2), .val (.ref r2), .val (.int (1 : Int32))] [(.int (1 : Int32))])) (fun _ k => XS.goto Xu15.here hx rfl (pc0 := 343) (pc' := 347) rfl (hb hby at_343) (by decide) (by decide) k) ?_
    exact own_retW Xu15 Bd hSv (by rw [eu15]; exact hku1) (v := some (.int ((1 : Int32) &&& 1))) (fun q => by rw [Bd.returns] at q; cases q) (fun fs q => retN Xu15 hx (t := .boolean) Bd.returns (by simp) (hb hby at_347) q) (show own_Law n0 _ _ _ from ⟨rfl, Nu15⟩) (by decide) (by decide)
  have B167_0 : ∀ (T0 : State) (locs : List Loc) (hh : Heap) (w1 i1 ta aa ca : Addr) (kt ka kc : ClassId), n0 ≤ hh.size → own_IS Z n0 hh i1 ta aa ca kt ka kc ([] : List (Nat × Nat × Nat)).length ((own_ts 0 ([] : List (Nat × Nat × Nat))).map Int32.ofNat) (([] : List (Nat × Nat × Nat)).map (fun g => Int64.ofNat g.2.1)) (([] : List (Nat × Nat × Nat)).map (fun g => Int64.ofNat g.2.2)) → ∀ (vm1 : Vm) (kv : Nat), s.Since vm1 kv → kv ≤ hh.size → Z.Warmed39 (s.setVm vm1).vm → (s.setVm vm1).vm.findClass "com/example/impatiens/impatiens/itpn/InstancesTickPinLaw" = some m.cls → Stand p l e room_1 (s.setVm vm1) m #[(.int x0), (.int x1), (.long x2), (.long x4), (.long x6), (.long x8)] below meth c T0 locs 9 170 → T0.heap = hh → Fr n0 locs → own_GoesW p e below s (own_Law n0) 32 1408 T0 (mkF m 167 #[.val (.int x0), .val (.int x1), .val (.long x2), .second, .val (.long x4), .second, .val (.long x6), .second, .val (.long x8), .second, .val (.int (Int32.ofNat 0)), .val (.int (Int32.ofNat ut)), .val (.int (Int32.ofNat ug)), .val (.long (Int64.ofNat ua)), .second, .val (.long (Int64.ofNat ub)), .second, .val (.long (Int64.ofNat uc)), .second, .val (.long (Int64.ofNat ud)), .second, .val (.ref w1), .val (.ref i1), .unset, .unset, .unset] []) := by
    intro T0 locs hh w1 i1 ta aa ca kt ka kc Zh hIS vm1 kv hSv hkv hZv hownv X0 e0 N0
    have oqi := hIS
    obtain ⟨Ei, Fti, Fai, Fci, Fni, Vti, Vai, Vci, ⟨ntai, ntci, naci⟩, gii, gti, gai, gci⟩ := oqi
    have ni_tai : i1 ≠ ta := Ei.neArv Vti (hw _ (List.mem_of_getElem? (i := 68) rfl))
    have ni_aai : i1 ≠ aa := Ei.neArv Vai (hw _ (List.mem_of_getElem? (i := 68) rfl))
    have ni_cai : i1 ≠ ca := Ei.neArv Vci (hw _ (List.mem_of_getElem? (i := 68) rfl))
    obtain ⟨Tu1, hu1, Xu1, eu1, Eu1, Au1, Du1, -, stu1⟩ := newO X0 hx hZv hownv (hw _ (List.mem_of_getElem? (i := 6) rfl)) (hw _ (List.mem_of_getElem? (i := 7) rfl)) (hw _ (List.mem_of_getElem? (i := 8) rfl)) e0 (g := (mkF m 167 #[.val (.int x0), .val (.int x1), .val (.long x2), .second, .val (.long x4), .second, .val (.long x6), .second, .val (.long x8), .second, .val (.int (Int32.ofNat 0)), .val (.int (Int32.ofNat ut)), .val (.int (Int32.ofNat ug)), .val (.long (Int64.ofNat ua)), .second, .val (.long (Int64.ofNat ub)), .second, .val (.long (Int64.ofNat uc)), .second, .val (.long (Int64.ofNat ud)), .second, .val (.ref w1), .val (.ref i1), .unset, .unset, .unset] [])) rfl (hb hby at_167) (by decide) (by decide)
    obtain ⟨bu1, gu1⟩ : ∃ z, z = hh.size := ⟨_, rfl⟩
    rw [← gu1] at Au1 Du1 stu1
    have neu1_aa : aa ≠ bu1 := Nat.ne_of_lt (Nat.lt_of_lt_of_le Vai.lt (Nat.le_of_eq gu1.symm))
    have neu1_ca : ca ≠ bu1 := Nat.ne_of_lt (Nat.lt_of_lt_of_le Vci.lt (Nat.le_of_eq gu1.symm))
    have neu1_i1 : i1 ≠ bu1 := Nat.ne_of_lt (Nat.lt_of_lt_of_le Fti.lt (Nat.le_of_eq gu1.symm))
    have neu1_ta : ta ≠ bu1 := Nat.ne_of_lt (Nat.lt_of_lt_of_le Vti.lt (Nat.le_of_eq gu1.symm))
    have qu2 : Fld Z hu1 i1 "com/example/impatiens/impatiens/itpn/Instances" "transitions" "[I" (.ref ta) := Fti.ext Eu1
    have qu3 : Fld Z hu1 i1 "com/example/impatiens/impatiens/itpn/Instances" "ages" "[J" (.ref aa) := Fai.ext Eu1
    have qu4 : Fld Z hu1 i1 "com/example/impatiens/impatiens/itpn/Instances" "counts" "[J" (.ref ca) := Fci.ext Eu1
    have qu5 : Fld Z hu1 i1 "com/example/impatiens/impatiens/itpn/Instances" "size" "I" (.int (Int32.ofNat ([] : List (Nat × Nat × Nat)).length)) := Fni.ext Eu1
    have qu6 : Exa Z hu1 i1 "com/example/impatiens/impatiens/itpn/Instances" := Ei.ext Eu1
    have qu7 : Arv Z hu1 ta kt .int (Int32.ofNat ([] : List (Nat × Nat × Nat)).length) (((own_ts 0 ([] : List (Nat × Nat × Nat))).map Int32.ofNat).map Value.int) (.int (0 : Int32)) := Vti.ext Eu1
    have qu8 : Arv Z hu1 aa ka .long (Int32.ofNat ([] : List (Nat × Nat × Nat)).length) ((([] : List (Nat × Nat × Nat)).map (fun g => Int64.ofNat g.2.1)).map Value.long) (.long (0 : Int64)) := Vai.ext Eu1
    have qu9 : Arv Z hu1 ca kc .long (Int32.ofNat ([] : List (Nat × Nat × Nat)).length) ((([] : List (Nat × Nat × Nat)).map (fun g => Int64.ofNat g.2.2)).map Value.long) (.long (0 : Int64)) := Vci.ext Eu1
    have qu10 : Fld Z hu1 bu1 "com/example/impatiens/impatiens/statespace/StateWriter" "bytes" "[B" .null := Du1 (Or.inl (hw _ (List.mem_of_getElem? (i := 17) rfl))) (ty := (.array .byte)) (by decide)
    have qu11 : Fld Z hu1 bu1 "com/example/impatiens/impatiens/statespace/StateWriter" "length" "I" (.int (0 : Int32)) := Du1 (Or.inl (hw _ (List.mem_of_getElem? (i := 24) rfl))) (ty := .int) (by decide)
    have g_bu1 : n0 ≤ bu1 := Nat.le_trans Zh (Nat.le_of_eq gu1.symm)
    have Zu1 : n0 ≤ hu1.size := Nat.le_trans Zh Eu1.1
    have hku1 := Nat.le_trans hkv Eu1.1
    refine own_stepW (T' := Tu1) (g' := (mkF m 170 #[.val (.int x0), .val (.int x1), .val (.long x2), .second, .val (.long x4), .second, .val (.long x6), .second, .val (.long x8), .second, .val (.int (Int32.ofNat 0)), .val (.int (Int32.ofNat ut)), .val (.int (Int32.ofNat ug)), .val (.long (Int64.ofNat ua)), .second, .val (.long (Int64.ofNat ub)), .second, .val (.long (Int64.ofNat uc)), .second, .val (.long (Int64.ofNat ud)), .second, .val (.ref w1), .val (.ref i1), .unset, .unset, .unset] [(.ref bu1)])) (fun _ k => stu1 _ k) ?_
    refine own_stepW (T' := Tu1) (g' := (mkF m 171 #[.val (.int x0), .val (.int x1), .val (.long x2), .second, .val (.long x4), .second, .val (.long x6), .second, .val (.long x8), .second, .val (.int (Int32.ofNat 0)), .val (.int (Int32.ofNat ut)), .val (.int (Int32.ofNat ug)), .val (.long (Int64.ofNat ua)), .second, .val (.long (Int64.ofNat ub)), .second, .val (.long (Int64.ofNat uc)), .second, .val (.long (Int64.ofNat ud)), .second, .val (.ref w1), .val (.ref i1), .unset, .unset, .unset] [(.ref bu1), (.ref bu1)])) (fun _ k => XS.dup Xu1.here hx rfl (hb hby at_170) rfl rfl k) ?_
    obtain ⟨_, _, ⟨Tu12, Lu12, ku12, nu12⟩, -, Xu12, ⟨Lcu12, hQu12, lu12, yu12, zu12⟩, stu12⟩ := Xu1.specialBack hx (y := (⟨"com/example/impatiens/impatiens/statespace/StateWriter", "<init>", "()V"⟩ : MethodName)) rfl hownv (mvT hZv (hw _ (List.mem_of_getElem? (i := 9) rfl))) (mvT hZv (hw _ (List.mem_of_getElem? (i := 10) rfl))) (mvT hZv (hw _ (List.mem_of_getElem? (i := 11) rfl))) (by decide) (backOf (W := 1) (rm2 l Z a0 hw [] bu1 .null hu1 n0 Zu1 Au1 g_bu1 qu10 qu11) hZv (hw _ (List.mem_of_getElem? (i := 11) rfl)) (hw _ (List.mem_of_getElem? (i := 8) rfl)) (by decide) (by decide)) (g := (mkF m 171 #[.val (.int x0), .val (.int x1), .val (.long x2), .second, .val (.long x4), .second, .val (.long x6), .second, .val (.long x8), .second, .val (.int (Int32.ofNat 0)), .val (.int (Int32.ofNat ut)), .val (.int (Int32.ofNat ug)), .val (.long (Int64.ofNat ua)), .second, .val (.long (Int64.ofNat ub)), .second, .val (.long (Int64.ofNat uc)), .second, .val (.long (Int64.ofNat ud)), .second, .val (.ref w1), .val (.ref i1), .unset, .unset, .unset] [(.ref bu1), (.ref bu1)])) rfl (by rw [hml]; rfl) (Steps.refl _) (a := bu1) (argsL := []) (rest := [(.ref bu1)]) (lenOf pd_7 rfl) rfl (by show 2 * 0 + _ ≤ _; exact Nat.le_of_eq rfl) (hb hby at_171) (fun _ _ => ⟨rfl, eu1, (by decide : 10 + 1 ≤ _), (by decide : 172 + 64 ≤ _)⟩)
    dsimp only [Pt.U, Pt.locs, Pt.cells, Pt.slots] at Xu12 lu12 yu12 zu12 stu12 hQu12
    subst lu12 yu12 zu12
    generalize eu12 : Tu12.heap = hu12 at hQu12
    obtain ⟨rfl, Nu12q, Ku12, bbu12, kbu12, szbu12, wru12⟩ := hQu12
    have Zu12 : n0 ≤ hu12.size := Nat.le_trans Zu1 Ku12.1
    have hku12 := Nat.le_trans hku1 Ku12.1
    have qu13 : Fld Z hu12 i1 "com/example/impatiens/impatiens/itpn/Instances" "transitions" "[I" (.ref ta) := qu2.keep Ku12 (ninS neu1_i1 nin0)
    have qu14 : Fld Z hu12 i1 "com/example/impatiens/impatiens/itpn/Instances" "ages" "[J" (.ref aa) := qu3.keep Ku12 (ninS neu1_i1 nin0)
    have qu15 : Fld Z hu12 i1 "com/example/impatiens/impatiens/itpn/Instances" "counts" "[J" (.ref ca) := qu4.keep Ku12 (ninS neu1_i1 nin0)
    have qu16 : Fld Z hu12 i1 "com/example/impatiens/impatiens/itpn/Instances" "size" "I" (.int (Int32.ofNat ([] : List (Nat × Nat × Nat)).length)) := qu5.keep Ku12 (ninS neu1_i1 nin0)
    have qu17 : Exa Z hu12 i1 "com/example/impatiens/impatiens/itpn/Instances" := qu6.keep Ku12
    have qu18 : Exa Z hu12 bu1 "com/example/impatiens/impatiens/statespace/StateWriter" := Au1.keep Ku12
    have qu19 : Arv Z hu12 ta kt .int (Int32.ofNat ([] : List (Nat × Nat × Nat)).length) (((own_ts 0 ([] : List (Nat × Nat × Nat))).map Int32.ofNat).map Value.int) (.int (0 : Int32)) := qu7.keep Ku12 (ninS neu1_ta nin0)
    have qu20 : Arv Z hu12 aa ka .long (Int32.ofNat ([] : List (Nat × Nat × Nat)).length) ((([] : List (Nat × Nat × Nat)).map (fun g => Int64.ofNat g.2.1)).map Value.long) (.long (0 : Int64)) := qu8.keep Ku12 (ninS neu1_aa nin0)
    have qu21 : Arv Z hu12 ca kc .long (Int32.ofNat ([] : List (Nat × Nat × Nat)).length) ((([] : List (Nat × Nat × Nat)).map (fun g => Int64.ofNat g.2.2)).map Value.long) (.long (0 : Int64)) := qu9.keep Ku12 (ninS neu1_ca nin0)
    have Nu12 := Fr.app N0 Nu12q
    have nbu12_aa : aa ≠ bbu12 := Nat.ne_of_lt (Nat.lt_of_lt_of_le qu8.lt szbu12)
    have nbu12_bu1 : bu1 ≠ bbu12 := Nat.ne_of_lt (Nat.lt_of_lt_of_le qu10.lt szbu12)
    have nbu12_ca : ca ≠ bbu12 := Nat.ne_of_lt (Nat.lt_of_lt_of_le qu9.lt szbu12)
    have nbu12_i1 : i1 ≠ bbu12 := Nat.ne_of_lt (Nat.lt_of_lt_of_le qu2.lt szbu12)
    have nbu12_ta : ta ≠ bbu12 := Nat.ne_of_lt (Nat.lt_of_lt_of_le qu7.lt szbu12)
    obtain ⟨EIu12, FbIu12, FlIu12, EbIu12, VbIu12, gwIu12, gbIu12⟩ := wru12
    refine own_stepW (T' := Tu12) (g' := (mkF m 174 #[.val (.int x0), .val (.int x1), .val (.long x2), .second, .val (.long x4), .second, .val (.long x6), .second, .val (.long x8), .second, .val (.int (Int32.ofNat 0)), .val (.int (Int32.ofNat ut)), .val (.int (Int32.ofNat ug)), .val (.long (Int64.ofNat ua)), .second, .val (.long (Int64.ofNat ub)), .second, .val (.long (Int64.ofNat uc)), .second, .val (.long (Int64.ofNat ud)), .second, .val (.ref w1), .val (.ref i1), .unset, .unset, .unset] [(.ref bu1)])) (fun _ k => stu12.trans k) ?_
    refine own_stepW (T' := Tu12) (g' := (mkF m 176 #[.val (.int x0), .val (.int x1), .val (.long x2), .second, .val (.long x4), .second, .val (.long x6), .second, .val (.long x8), .second, .val (.int (Int32.ofNat 0)), .val (.int (Int32.ofNat ut)), .val (.int (Int32.ofNat ug)), .val (.long (Int64.ofNat ua)), .second, .val (.long (Int64.ofNat ub)), .second, .val (.long (Int64.ofNat uc)), .second, .val (.long (Int64.ofNat ud)), .second, .val (.ref w1), .val (.ref i1), .val (.ref bu1), .unset, .unset] [])) (fun _ k => XS.astore Xu12.here hx rfl (hb hby at_174) rfl rfl (l' := #[.val (.int x0), .val (.int x1), .val (.long x2), .second, .val (.long x4), .second, .val (.long x6), .second, .val (.long x8), .second, .val (.int (Int32.ofNat 0)), .val (.int (Int32.ofNat ut)), .val (.int (Int32.ofNat ug)), .val (.long (Int64.ofNat ua)), .second, .val (.long (Int64.ofNat ub)), .second, .val (.long (Int64.ofNat uc)), .second, .val (.long (Int64.ofNat ud)), .second, .val (.ref w1), .val (.ref i1), .val (.ref bu1), .unset, .unset]) rfl k) ?_
    refine own_stepW (T' := Tu12) (g' := (mkF m 178 #[.val (.int x0), .val (.int x1), .val (.long x2), .second, .val (.long x4), .second, .val (.long x6), .second, .val (.long x8), .second, .val (.int (Int32.ofNat 0)), .val (.int (Int32.ofNat ut)), .val (.int (Int32.ofNat ug)), .val (.long (Int64.ofNat ua)), .second, .val (.long (Int64.ofNat ub)), .second, .val (.long (Int64.ofNat uc)), .second, .val (.long (Int64.ofNat ud)), .second, .val (.ref w1), .val (.ref i1), .val (.ref bu1), .unset, .unset] [(.ref i1)])) (fun _ k => XS.aload Xu12.here hx rfl (hb hby at_176) rfl rfl k) ?_
    refine own_stepW (T' := Tu12) (g' := (mkF m 180 #[.val (.int x0), .val (.int x1), .val (.long x2), .second, .val (.long x4), .second, .val (.long x6), .second, .val (.long x8), .second, .val (.int (Int32.ofNat 0)), .val (.int (Int32.ofNat ut)), .val (.int (Int32.ofNat ug)), .val (.long (Int64.ofNat ua)), .second, .val (.long (Int64.ofNat ub)), .second, .val (.long (Int64.ofNat uc)), .second, .val (.long (Int64.ofNat ud)), .second, .val (.ref w1), .val (.ref i1), .val (.ref bu1), .unset, .unset] [(.ref bu1), (.ref i1)])) (fun _ k => XS.aload Xu12.here hx rfl (hb hby at_178) rfl rfl k) ?_
    obtain ⟨cqu22, kqu22, qu22a, qu22b, qu22c⟩ := isOf hZv eu12 qu17
    obtain ⟨_, _, ⟨Tu22, Lu22, ku22, nu22⟩, -, Xu22, ⟨Lcu22, hQu22, lu22, yu22, zu22⟩, stu22⟩ := Xu12.virtualBack hx (y := (⟨"com/example/impatiens/impatiens/itpn/Instances", "write", "(Lcom/example/impatiens/impatiens/statespace/StateWriter;)V"⟩ : MethodName)) (z := (⟨"com/example/impatiens/impatiens/itpn/Instances", "write", "(Lcom/example/impatiens/impatiens/statespace/StateWriter;)V"⟩ : MethodName)) hownv (mvT hZv (hw _ (List.mem_of_getElem? (i := 88) rfl))) (mvT hZv (hw _ (List.mem_of_getElem? (i := 89) rfl))) (notFace_of_selects (args := #[]) (mvT hZv (hw _ (List.mem_of_getElem? (i := 91) rfl)))) (mvT hZv (hw _ (List.mem_of_getElem? (i := 91) rfl))) (mvT hZv (hw _ (List.mem_of_getElem? (i := 90) rfl))) (by decide) (backOf (W := 0) (rm13 l Z a0 hw [] i1 bu1 bbu12 kbu12 ta aa ca kt ka kc ([] : List (Nat × Nat × Nat)) hu12 n0 Zu12 (by simp) hG2 ⟨EIu12, FbIu12, FlIu12, EbIu12, VbIu12, gwIu12, gbIu12⟩ ⟨qu17, qu13, qu14, qu15, qu16, qu19, qu20, qu21, ⟨ntai, ntci, naci⟩, gii, gti, gai, gci⟩ (Ne.symm nbu12_ta) (Ne.symm nbu12_aa) (Ne.symm nbu12_ca)) hZv (hw _ (List.mem_of_getElem? (i := 92) rfl)) (hw _ (List.mem_of_getElem? (i := 55) rfl)) (by decide) (by decide)) qu22a qu22c (g := (mkF m 180 #[.val (.int x0), .val (.int x1), .val (.long x2), .second, .val (.long x4), .second, .val (.long x6), .second, .val (.long x8), .second, .val (.int (Int32.ofNat 0)), .val (.int (Int32.ofNat ut)), .val (.int (Int32.ofNat ug)), .val (.long (Int64.ofNat ua)), .second, .val (.long (Int64.ofNat ub)), .second, .val (.long (Int64.ofNat uc)), .second, .val (.long (Int64.ofNat ud)), .second, .val (.ref w1), .val (.ref i1), .val (.ref bu1), .unset, .unset] [(.ref bu1), (.ref i1)])) rfl (by rw [hml]; rfl) (Steps.refl _) (argsL := [(.ref bu1)]) (rest := []) (lenOf pd_8 rfl) rfl (by show 2 * 0 + _ ≤ _; exact Nat.le_of_eq rfl) (hb hby at_180) (fun _ _ => ⟨rfl, eu12, (by decide : 11 + 0 ≤ _), (by decide : 236 + 0 ≤ _)⟩)
    dsimp only [Pt.U, Pt.locs, Pt.cells, Pt.slots] at Xu22 lu22 yu22 zu22 stu22 hQu22
    subst lu22 yu22 zu22
    generalize eu22 : Tu22.heap = hu22 at hQu22
    obtain ⟨rfl, Nu22q, Ku22, wru22⟩ := hQu22
    have Zu22 : n0 ≤ hu22.size := Nat.le_trans Zu12 Ku22.1
    have hku22 := Nat.le_trans hku12 Ku22.1
    have qu23 : Fld Z hu22 i1 "com/example/impatiens/impatiens/itpn/Instances" "transitions" "[I" (.ref ta) := qu13.keep Ku22 (ninS neu1_i1 (ninS nbu12_i1 nin0))
    have qu24 : Fld Z hu22 i1 "com/example/impatiens/impatiens/itpn/Instances" "ages" "[J" (.ref aa) := qu14.keep Ku22 (ninS neu1_i1 (ninS nbu12_i1 nin0))
    have qu25 : Fld Z hu22 i1 "com/example/impatiens/impatiens/itpn/Instances" "counts" "[J" (.ref ca) := qu15.keep Ku22 (ninS neu1_i1 (ninS nbu12_i1 nin0))
    have qu26 : Fld Z hu22 i1 "com/example/impatiens/impatiens/itpn/Instances" "size" "I" (.int (Int32.ofNat ([] : List (Nat × Nat × Nat)).length)) := qu16.keep Ku22 (ninS neu1_i1 (ninS nbu12_i1 nin0))
    have qu27 : Exa Z hu22 i1 "com/example/impatiens/impatiens/itpn/Instances" := qu17.keep Ku22
    have qu28 : Exa Z hu22 bu1 "com/example/impatiens/impatiens/statespace/StateWriter" := EIu12.keep Ku22
    have qu29 : Exa Z hu22 bbu12 "[B" := EbIu12.keep Ku22
    have qu30 : Arv Z hu22 ta kt .int (Int32.ofNat ([] : List (Nat × Nat × Nat)).length) (((own_ts 0 ([] : List (Nat × Nat × Nat))).map Int32.ofNat).map Value.int) (.int (0 : Int32)) := qu19.keep Ku22 (ninS neu1_ta (ninS nbu12_ta nin0))
    have qu31 : Arv Z hu22 aa ka .long (Int32.ofNat ([] : List (Nat × Nat × Nat)).length) ((([] : List (Nat × Nat × Nat)).map (fun g => Int64.ofNat g.2.1)).map Value.long) (.long (0 : Int64)) := qu20.keep Ku22 (ninS neu1_aa (ninS nbu12_aa nin0))
    have qu32 : Arv Z hu22 ca kc .long (Int32.ofNat ([] : List (Nat × Nat × Nat)).length) ((([] : List (Nat × Nat × Nat)).map (fun g => Int64.ofNat g.2.2)).map Value.long) (.long (0 : Int64)) := qu21.keep Ku22 (ninS neu1_ca (ninS nbu12_ca nin0))
    have Nu22 := Fr.app Nu12 Nu22q
    obtain ⟨EBu22, FbBu22, FlBu22, EbBu22, VbBu22, gwBu22, gbBu22⟩ := wru22
    have nwbu22 : bu1 ≠ bbu12 := EBu22.neArv VbBu22 (hw _ (List.mem_of_getElem? (i := 7) rfl))
    refine own_stepW (T' := Tu22) (g' := (mkF m 183 #[.val (.int x0), .val (.int x1), .val (.long x2), .second, .val (.long x4), .second, .val (.long x6), .second, .val (.long x8), .second, .val (.int (Int32.ofNat 0)), .val (.int (Int32.ofNat ut)), .val (.int (Int32.ofNat ug)), .val (.long (Int64.ofNat ua)), .second, .val (.long (Int64.ofNat ub)), .second, .val (.long (Int64.ofNat uc)), .second, .val (.long (Int64.ofNat ud)), .second, .val (.ref w1), .val (.ref i1), .val (.ref bu1), .unset, .unset] [])) (fun _ k => stu22.trans k) ?_
    obtain ⟨Tu33, hu33, Xu33, eu33, Eu33, Au33, Du33, -, stu33⟩ := newO Xu22 hx hZv hownv (hw _ (List.mem_of_getElem? (i := 26) rfl)) (hw _ (List.mem_of_getElem? (i := 27) rfl)) (hw _ (List.mem_of_getElem? (i := 28) rfl)) eu22 (g := (mkF m 183 #[.val (.int x0), .val (.int x1), .val (.long x2), .second, .val (.long x4), .second, .val (.long x6), .second, .val (.long x8), .second, .val (.int (Int32.ofNat 0)), .val (.int (Int32.ofNat ut)), .val (.int (Int32.ofNat ug)), .val (.long (Int64.ofNat ua)), .second, .val (.long (Int64.ofNat ub)), .second, .val (.long (Int64.ofNat uc)), .second, .val (.long (Int64.ofNat ud)), .second, .val (.ref w1), .val (.ref i1), .val (.ref bu1), .unset, .unset] [])) rfl (hb hby at_183) (by decide) (by decide)
    obtain ⟨bu33, gu33⟩ : ∃ z, z = hu22.size := ⟨_, rfl⟩
    rw [← gu33] at Au33 Du33 stu33
    have neu33_bbu12 : bbu12 ≠ bu33 := Nat.ne_of_lt (Nat.lt_of_lt_of_le EbBu22.lt (Nat.le_of_eq gu33.symm))
    have neu33_bu1 : bu1 ≠ bu33 := Nat.ne_of_lt (Nat.lt_of_lt_of_le FbBu22.lt (Nat.le_of_eq gu33.symm))
    have qu34 : Fld Z hu33 bu1 "com/example/impatiens/impatiens/statespace/StateWriter" "bytes" "[B" (.ref bbu12) := FbBu22.ext Eu33
    have qu35 : Fld Z hu33 bu1 "com/example/impatiens/impatiens/statespace/StateWriter" "length" "I" (.int (Int32.ofNat (own_enc 8 0 ++ own_encs ([] : List (Nat × Nat × Nat))).length)) := FlBu22.ext Eu33
    have qu36 : Exa Z hu33 bu1 "com/example/impatiens/impatiens/statespace/StateWriter" := EBu22.ext Eu33
    have qu37 : Exa Z hu33 bbu12 "[B" := EbBu22.ext Eu33
    have qu38 : Arv Z hu33 bbu12 kbu12 .byte (64 : Int32) ((own_enc 8 0 ++ own_encs ([] : List (Nat × Nat × Nat))).map Value.int) (.int (0 : Int32)) := VbBu22.ext Eu33
    have qu39 : Fld Z hu33 bu33 "com/example/impatiens/impatiens/statespace/StateReader" "bytes" "[B" .null := Du33 (Or.inr (hw _ (List.mem_of_getElem? (i := 52) rfl))) (ty := (.array .byte)) (by decide)
    have qu40 : Fld Z hu33 bu33 "com/example/impatiens/impatiens/statespace/StateReader" "position" "I" (.int (0 : Int32)) := Du33 (Or.inl (hw _ (List.mem_of_getElem? (i := 63) rfl))) (ty := .int) (by decide)
    have g_bu33 : n0 ≤ bu33 := Nat.le_trans Zu22 (Nat.le_of_eq gu33.symm)
    have Zu33 : n0 ≤ hu33.size := Nat.le_trans Zu22 Eu33.1
    have hku33 := Nat.le_trans hku22 Eu33.1
    refine own_stepW (T' := Tu33) (g' := (mkF m 186 #[.val (.int x0), .val (.int x1), .val (.long x2), .second, .val (.long x4), .second, .val (.long x6), .second, .val (.long x8), .second, .val (.int (Int32.ofNat 0)), .val (.int (Int32.ofNat ut)), .val (.int (Int32.ofNat ug)), .val (.long (Int64.ofNat ua)), .second, .val (.long (Int64.ofNat ub)), .second, .val (.long (Int64.ofNat uc)), .second, .val (.long (Int64.ofNat ud)), .second, .val (.ref w1), .val (.ref i1), .val (.ref bu1), .unset, .unset] [(.ref bu33)])) (fun _ k => stu33 _ k) ?_
    refine own_stepW (T' := Tu33) (g' := (mkF m 187 #[.val (.int x0), .val (.int x1), .val (.long x2), .second, .val (.long x4), .second, .val (.long x6), .second, .val (.long x8), .second, .val (.int (Int32.ofNat 0)), .val (.int (Int32.ofNat ut)), .val (.int (Int32.ofNat ug)), .val (.long (Int64.ofNat ua)), .second, .val (.long (Int64.ofNat ub)), .second, .val (.long (Int64.ofNat uc)), .second, .val (.long (Int64.ofNat ud)), .second, .val (.ref w1), .val (.ref i1), .val (.ref bu1), .unset, .unset] [(.ref bu33), (.ref bu33)])) (fun _ k => XS.dup Xu33.here hx rfl (hb hby at_186) rfl rfl k) ?_
    refine own_stepW (T' := Tu33) (g' := (mkF m 189 #[.val (.int x0), .val (.int x1), .val (.long x2), .second, .val (.long x4), .second, .val (.long x6), .second, .val (.long x8), .second, .val (.int (Int32.ofNat 0)), .val (.int (Int32.ofNat ut)), .val (.int (Int32.ofNat ug)), .val (.long (Int64.ofNat ua)), .second, .val (.long (Int64.ofNat ub)), .second, .val (.long (Int64.ofNat uc)), .second, .val (.long (Int64.ofNat ud)), .second, .val (.ref w1), .val (.ref i1), .val (.ref bu1), .unset, .unset] [(.ref bu1), (.ref bu33), (.ref bu33)])) (fun _ k => XS.aload Xu33.here hx rfl (hb hby at_187) rfl rfl k) ?_
    obtain ⟨cqu41, kqu41, qu41a, qu41b, qu41c⟩ := isOf hZv eu33 qu36
    obtain ⟨_, _, ⟨Tu41, Lu41, ku41, nu41⟩, -, Xu41, ⟨Lcu41, hQu41, lu41, yu41, zu41⟩, stu41⟩ := Xu33.virtualBack hx (y := (⟨"com/example/impatiens/impatiens/statespace/StateWriter", "buffer", "()[B"⟩ : MethodName)) (z := (⟨"com/example/impatiens/impatiens/statespace/StateWriter", "buffer", "()[B"⟩ : MethodName)) hownv (mvT hZv (hw _ (List.mem_of_getElem? (i := 29) rfl))) (mvT hZv (hw _ (List.mem_of_getElem? (i := 30) rfl))) (notFace_of_selects (args := #[]) (mvT hZv (hw _ (List.mem_of_getElem? (i := 32) rfl)))) (mvT hZv (hw _ (List.mem_of_getElem? (i := 32) rfl))) (mvT hZv (hw _ (List.mem_of_getElem? (i := 31) rfl))) (by decide) (backOf (W := 2) (rm5 l Z a0 hw [] bu1 bbu12 kbu12 (own_enc 8 0 ++ own_encs ([] : List (Nat × Nat × Nat))) hu33 n0 Zu33 ⟨qu36, qu34, qu35, qu37, qu38, gwBu22, gbBu22⟩) hZv (hw _ (List.mem_of_getElem? (i := 33) rfl)) (hw _ (List.mem_of_getElem? (i := 8) rfl)) (by decide) (by decide)) qu41a qu41c (g := (mkF m 189 #[.val (.int x0), .val (.int x1), .val (.long x2), .second, .val (.long x4), .second, .val (.long x6), .second, .val (.long x8), .second, .val (.int (Int32.ofNat 0)), .val (.int (Int32.ofNat ut)), .val (.int (Int32.ofNat ug)), .val (.long (Int64.ofNat ua)), .second, .val (.long (Int64.ofNat ub)), .second, .val (.long (Int64.ofNat uc)), .second, .val (.long (Int64.ofNat ud)), .second, .val (.ref w1), .val (.ref i1), .val (.ref bu1), .unset, .unset] [(.ref bu1), (.ref bu33), (.ref bu33)])) rfl (by rw [hml]; rfl) (Steps.refl _) (argsL := []) (rest := [(.ref bu33), (.ref bu33)]) (lenOf pd_9 rfl) rfl (by show 2 * 0 + _ ≤ _; exact Nat.le_of_eq rfl) (hb hby at_189) (fun _ _ => ⟨rfl, eu33, (by decide : 12 + 0 ≤ _), (by decide : 238 + 0 ≤ _)⟩)
    dsimp only [Pt.U, Pt.locs, Pt.cells, Pt.slots] at Xu41 lu41 yu41 zu41 stu41 hQu41
    subst lu41 yu41 zu41
    obtain ⟨rfl, Nu41q, eu41⟩ := hQu41
    have Nu41 := Fr.app Nu22 Nu41q
    refine own_stepW (T' := Tu41) (g' := (mkF m 192 #[.val (.int x0), .val (.int x1), .val (.long x2), .second, .val (.long x4), .second, .val (.long x6), .second, .val (.long x8), .second, .val (.int (Int32.ofNat 0)), .val (.int (Int32.ofNat ut)), .val (.int (Int32.ofNat ug)), .val (.long (Int64.ofNat ua)), .second, .val (.long (Int64.ofNat ub)), .second, .val (.long (Int64.ofNat uc)), .second, .val (.long (Int64.ofNat ud)), .second, .val (.ref w1), .val (.ref i1), .val (.ref bu1), .unset, .unset] [(.ref bbu12), (.ref bu33), (.ref bu33)])) (fun _ k => stu41.trans k) ?_
    obtain ⟨_, _, ⟨Tu42, Lu42, ku42, nu42⟩, -, Xu42, hSu42, hgru42, ⟨Lcu42, hQu42, lu42, yu42, zu42⟩, stu42⟩ := Xu41.specialBackS hx (y := (⟨"com/example/impatiens/impatiens/statespace/StateReader", "<init>", "([B)V"⟩ : MethodName)) rfl hownv (mvT hZv (hw _ (List.mem_of_getElem? (i := 34) rfl))) (mvT hZv (hw _ (List.mem_of_getElem? (i := 35) rfl))) (mvT hZv (hw _ (List.mem_of_getElem? (i := 36) rfl))) (by decide) (backOfS (W := 1) (rm6 l Z a0 hw [] bu33 bbu12 kbu12 (own_enc 8 0 ++ own_encs ([] : List (Nat × Nat × Nat))) .null hu33 n0 Zu33 Au33 g_bu33 qu39 qu40 qu37 qu38) hZv (hw _ (List.mem_of_getElem? (i := 36) rfl)) (hw _ (List.mem_of_getElem? (i := 28) rfl)) (by decide) (by decide)) (g := (mkF m 192 #[.val (.int x0), .val (.int x1), .val (.long x2), .second, .val (.long x4), .second, .val (.long x6), .second, .val (.long x8), .second, .val (.int (Int32.ofNat 0)), .val (.int (Int32.ofNat ut)), .val (.int (Int32.ofNat ug)), .val (.long (Int64.ofNat ua)), .second, .val (.long (Int64.ofNat ub)), .second, .val (.long (Int64.ofNat uc)), .second, .val (.long (Int64.ofNat ud)), .second, .val (.ref w1), .val (.ref i1), .val (.ref bu1), .unset, .unset] [(.ref bbu12), (.ref bu33), (.ref bu33)])) rfl (by rw [hml]; rfl) (Steps.refl _) (a := bu33) (argsL := [(.ref bbu12)]) (rest := [(.ref bu33)]) (lenOf pd_10 rfl) rfl (by show 2 * 0 + _ ≤ _; exact Nat.le_of_eq rfl) (hb hby at_192) (fun _ _ => ⟨rfl, eu41, (by decide : 12 + 2 ≤ _), (by decide : 238 + 92 ≤ _)⟩)
    dsimp only [Pt.U, Pt.locs, Pt.cells, Pt.slots] at Xu42 lu42 yu42 zu42 stu42 hQu42 hSu42 hgru42
    subst lu42 yu42 zu42
    generalize eu42 : Tu42.heap = hu42 at hQu42 hSu42 hgru42
    obtain ⟨rfl, Nu42q, Ku42, rdu42⟩ := hQu42
    have Zu42 : n0 ≤ hu42.size := Nat.le_trans Zu33 Ku42.1
    obtain ⟨Xu42r, hSu42r, hZu42, hownu42⟩ := rebS hSv (Nat.le_trans hku33 (Nat.le_of_eq (congrArg Array.size eu41.symm))) Xu42 hSu42 hgru42 hZv hownv
    have qu43 : Fld Z hu42 bu1 "com/example/impatiens/impatiens/statespace/StateWriter" "bytes" "[B" (.ref bbu12) := qu34.keep Ku42 (ninS neu33_bu1 nin0)
    have qu44 : Fld Z hu42 bu1 "com/example/impatiens/impatiens/statespace/StateWriter" "length" "I" (.int (Int32.ofNat (own_enc 8 0 ++ own_encs ([] : List (Nat × Nat × Nat))).length)) := qu35.keep Ku42 (ninS neu33_bu1 nin0)
    have qu45 : Exa Z hu42 bu1 "com/example/impatiens/impatiens/statespace/StateWriter" := qu36.keep Ku42
    have qu46 : Exa Z hu42 bbu12 "[B" := qu37.keep Ku42
    have qu47 : Exa Z hu42 bu33 "com/example/impatiens/impatiens/statespace/StateReader" := Au33.keep Ku42
    have qu48 : Arv Z hu42 bbu12 kbu12 .byte (64 : Int32) ((own_enc 8 0 ++ own_encs ([] : List (Nat × Nat × Nat))).map Value.int) (.int (0 : Int32)) := qu38.keep Ku42 (ninS neu33_bbu12 nin0)
    have Nu42 := Fr.app Nu41 Nu42q
    obtain ⟨EDu42, FbDu42, FpDu42, VbDu42, grDu42⟩ := rdu42
    refine own_stepW (T' := Tu42) (g' := (mkF m 195 #[.val (.int x0), .val (.int x1), .val (.long x2), .second, .val (.long x4), .second, .val (.long x6), .second, .val (.long x8), .second, .val (.int (Int32.ofNat 0)), .val (.int (Int32.ofNat ut)), .val (.int (Int32.ofNat ug)), .val (.long (Int64.ofNat ua)), .second, .val (.long (Int64.ofNat ub)), .second, .val (.long (Int64.ofNat uc)), .second, .val (.long (Int64.ofNat ud)), .second, .val (.ref w1), .val (.ref i1), .val (.ref bu1), .unset, .unset] [(.ref bu33)])) (fun _ k => stu42.trans k) ?_
    refine own_stepW (T' := Tu42) (g' := (mkF m 197 #[.val (.int x0), .val (.int x1), .val (.long x2), .second, .val (.long x4), .second, .val (.long x6), .second, .val (.long x8), .second, .val (.int (Int32.ofNat 0)), .val (.int (Int32.ofNat ut)), .val (.int (Int32.ofNat ug)), .val (.long (Int64.ofNat ua)), .second, .val (.long (Int64.ofNat ub)), .second, .val (.long (Int64.ofNat uc)), .second, .val (.long (Int64.ofNat ud)), .second, .val (.ref w1), .val (.ref i1), .val (.ref bu1), .val (.ref bu33), .unset] [])) (fun _ k => XS.astore Xu42r.here hx rfl (hb hby at_195) rfl rfl (l' := #[.val (.int x0), .val (.int x1), .val (.long x2), .second, .val (.long x4), .second, .val (.long x6), .second, .val (.long x8), .second, .val (.int (Int32.ofNat 0)), .val (.int (Int32.ofNat ut)), .val (.int (Int32.ofNat ug)), .val (.long (Int64.ofNat ua)), .second, .val (.long (Int64.ofNat ub)), .second, .val (.long (Int64.ofNat uc)), .second, .val (.long (Int64.ofNat ud)), .second, .val (.ref w1), .val (.ref i1), .val (.ref bu1), .val (.ref bu33), .unset]) rfl k) ?_
    exact B197_0 Tu42 _ hu42 w1 i1 bu1 bbu12 bu33 kbu12 Zu42 ⟨qu45, qu43, qu44, qu46, qu48, gwBu22, gbBu22⟩ ⟨EDu42, FbDu42, FpDu42, qu48, grDu42⟩ _ _ hSu42r (Nat.le_refl hu42.size) hZu42 hownu42 Xu42r eu42 Nu42
  have B145_0 : ∀ (T0 : State) (locs : List Loc) (hh : Heap) (w1 b1 : Addr) (k1 : ClassId), n0 ≤ hh.size → own_WR Z n0 hh w1 b1 k1 (own_enc 8 0 ++ own_encs ([] : List (Nat × Nat × Nat))) → Stand p l e room_1 (s.setVm s.vm) m #[(.int x0), (.int x1), (.long x2), (.long x4), (.long x6), (.long x8)] below meth c T0 locs 2 66 → T0.heap = hh → Fr n0 locs → own_GoesW p e below s (own_Law n0) 32 1408 T0 (mkF m 145 #[.val (.int x0), .val (.int x1), .val (.long x2), .second, .val (.long x4), .second, .val (.long x6), .second, .val (.long x8), .second, .val (.int (Int32.ofNat 0)), .val (.int (Int32.ofNat ut)), .val (.int (Int32.ofNat ug)), .val (.long (Int64.ofNat ua)), .second, .val (.long (Int64.ofNat ub)), .second, .val (.long (Int64.ofNat uc)), .second, .val (.long (Int64.ofNat ud)), .second, .val (.ref w1), .unset, .unset, .unset, .unset] []) := by
    intro T0 locs hh w1 b1 k1 Zh hWR X0 e0 N0
    have oqw := hWR
    obtain ⟨Ew, Fbw, Flw, Ebw, Vbw, gww, gbw⟩ := oqw
    have new : w1 ≠ b1 := Ew.neArv Vbw (hw _ (List.mem_of_getElem? (i := 7) rfl))
    obtain ⟨Tu1, hu1, Xu1, eu1, Eu1, Au1, Du1, -, stu1⟩ := newO X0 hx hZs howns (hw _ (List.mem_of_getElem? (i := 26) rfl)) (hw _ (List.mem_of_getElem? (i := 27) rfl)) (hw _ (List.mem_of_getElem? (i := 28) rfl)) e0 (g := (mkF m 145 #[.val (.int x0), .val (.int x1), .val (.long x2), .second, .val (.long x4), .second, .val (.long x6), .second, .val (.long x8), .second, .val (.int (Int32.ofNat 0)), .val (.int (Int32.ofNat ut)), .val (.int (Int32.ofNat ug)), .val (.long (Int64.ofNat ua)), .second, .val (.long (Int64.ofNat ub)), .second, .val (.long (Int64.ofNat uc)), .second, .val (.long (Int64.ofNat ud)), .second, .val (.ref w1), .unset, .unset, .unset, .unset] [])) rfl (hb hby at_145) (by decide) (by decide)
    obtain ⟨bu1, gu1⟩ : ∃ z, z = hh.size := ⟨_, rfl⟩
    rw [← gu1] at Au1 Du1 stu1
    have neu1_b1 : b1 ≠ bu1 := Nat.ne_of_lt (Nat.lt_of_lt_of_le Ebw.lt (Nat.le_of_eq gu1.symm))
    have neu1_w1 : w1 ≠ bu1 := Nat.ne_of_lt (Nat.lt_of_lt_of_le Fbw.lt (Nat.le_of_eq gu1.symm))
    have qu2 : Fld Z hu1 w1 "com/example/impatiens/impatiens/statespace/StateWriter" "bytes" "[B" (.ref b1) := Fbw.ext Eu1
    have qu3 : Fld Z hu1 w1 "com/example/impatiens/impatiens/statespace/StateWriter" "length" "I" (.int (Int32.ofNat (own_enc 8 0 ++ own_encs ([] : List (Nat × Nat × Nat))).length)) := Flw.ext Eu1
    have qu4 : Exa Z hu1 w1 "com/example/impatiens/impatiens/statespace/StateWriter" := Ew.ext Eu1
    have qu5 : Exa Z hu1 b1 "[B" := Ebw.ext Eu1
    have qu6 : Arv Z hu1 b1 k1 .byte (64 : Int32) ((own_enc 8 0 ++ own_encs ([] : List (Nat × Nat × Nat))).map Value.int) (.int (0 : Int32)) := Vbw.ext Eu1
    have qu7 : Fld Z hu1 bu1 "com/example/impatiens/impatiens/statespace/StateReader" "bytes" "[B" .null := Du1 (Or.inr (hw _ (List.mem_of_getElem? (i := 52) rfl))) (ty := (.array .byte)) (by decide)
    have qu8 : Fld Z hu1 bu1 "com/example/impatiens/impatiens/statespace/StateReader" "position" "I" (.int (0 : Int32)) := Du1 (Or.inl (hw _ (List.mem_of_getElem? (i := 63) rfl))) (ty := .int) (by decide)
    have g_bu1 : n0 ≤ bu1 := Nat.le_trans Zh (Nat.le_of_eq gu1.symm)
    have Zu1 : n0 ≤ hu1.size := Nat.le_trans Zh Eu1.1
    have hku1 := Nat.le_trans (Nat.zero_le _) Eu1.1
    refine own_stepW (T' := Tu1) (g' := (mkF m 148 #[.val (.int x0), .val (.int x1), .val (.long x2), .second, .val (.long x4), .second, .val (.long x6), .second, .val (.long x8), .second, .val (.int (Int32.ofNat 0)), .val (.int (Int32.ofNat ut)), .val (.int (Int32.ofNat ug)), .val (.long (Int64.ofNat ua)), .second, .val (.long (Int64.ofNat ub)), .second, .val (.long (Int64.ofNat uc)), .second, .val (.long (Int64.ofNat ud)), .second, .val (.ref w1), .unset, .unset, .unset, .unset] [(.ref bu1)])) (fun _ k => stu1 _ k) ?_
    refine own_stepW (T' := Tu1) (g' := (mkF m 149 #[.val (.int x0), .val (.int x1), .val (.long x2), .second, .val (.long x4), .second, .val (.long x6), .second, .val (.long x8), .second, .val (.int (Int32.ofNat 0)), .val (.int (Int32.ofNat ut)), .val (.int (Int32.ofNat ug)), .val (.long (Int64.ofNat ua)), .second, .val (.long (Int64.ofNat ub)), .second, .val (.long (Int64.ofNat uc)), .second, .val (.long (Int64.ofNat ud)), .second, .val (.ref w1), .unset, .unset, .unset, .unset] [(.ref bu1), (.ref bu1)])) (fun _ k => XS.dup Xu1.here hx rfl (hb hby at_148) rfl rfl k) ?_
    refine own_stepW (T' := Tu1) (g' := (mkF m 151 #[.val (.int x0), .val (.int x1), .val (.long x2), .second, .val (.long x4), .second, .val (.long x6), .second, .val (.long x8), .second, .val (.int (Int32.ofNat 0)), .val (.int (Int32.ofNat ut)), .val (.int (Int32.ofNat ug)), .val (.long (Int64.ofNat ua)), .second, .val (.long (Int64.ofNat ub)), .second, .val (.long (Int64.ofNat uc)), .second, .val (.long (Int64.ofNat ud)), .second, .val (.ref w1), .unset, .unset, .unset, .unset] [(.ref w1), (.ref bu1), (.ref bu1)])) (fun _ k => XS.aload Xu1.here hx rfl (hb hby at_149) rfl rfl k) ?_
    obtain ⟨cqu9, kqu9, qu9a, qu9b, qu9c⟩ := isOf hZs eu1 qu4
    obtain ⟨_, _, ⟨Tu9, Lu9, ku9, nu9⟩, -, Xu9, ⟨Lcu9, hQu9, lu9, yu9, zu9⟩, stu9⟩ := Xu1.virtualBack hx (y := (⟨"com/example/impatiens/impatiens/statespace/StateWriter", "buffer", "()[B"⟩ : MethodName)) (z := (⟨"com/example/impatiens/impatiens/statespace/StateWriter", "buffer", "()[B"⟩ : MethodName)) howns (mvT hZs (hw _ (List.mem_of_getElem? (i := 29) rfl))) (mvT hZs (hw _ (List.mem_of_getElem? (i := 30) rfl))) (notFace_of_selects (args := #[]) (mvT hZs (hw _ (List.mem_of_getElem? (i := 32) rfl)))) (mvT hZs (hw _ (List.mem_of_getElem? (i := 32) rfl))) (mvT hZs (hw _ (List.mem_of_getElem? (i := 31) rfl))) (by decide) (backOf (W := 2) (rm5 l Z a0 hw [] w1 b1 k1 (own_enc 8 0 ++ own_encs ([] : List (Nat × Nat × Nat))) hu1 n0 Zu1 ⟨qu4, qu2, qu3, qu5, qu6, gww, gbw⟩) hZs (hw _ (List.mem_of_getElem? (i := 33) rfl)) (hw _ (List.mem_of_getElem? (i := 8) rfl)) (by decide) (by decide)) qu9a qu9c (g := (mkF m 151 #[.val (.int x0), .val (.int x1), .val (.long x2), .second, .val (.long x4), .second, .val (.long x6), .second, .val (.long x8), .second, .val (.int (Int32.ofNat 0)), .val (.int (Int32.ofNat ut)), .val (.int (Int32.ofNat ug)), .val (.long (Int64.ofNat ua)), .second, .val (.long (Int64.ofNat ub)), .second, .val (.long (Int64.ofNat uc)), .second, .val (.long (Int64.ofNat ud)), .second, .val (.ref w1), .unset, .unset, .unset, .unset] [(.ref w1), (.ref bu1), (.ref bu1)])) rfl (by rw [hml]; rfl) (Steps.refl _) (argsL := []) (rest := [(.ref bu1), (.ref bu1)]) (lenOf pd_9 rfl) rfl (by show 2 * 0 + _ ≤ _; exact Nat.le_of_eq rfl) (hb hby at_151) (fun _ _ => ⟨rfl, eu1, (by decide : 3 + 0 ≤ _), (by decide : 68 + 0 ≤ _)⟩)
    dsimp only [Pt.U, Pt.locs, Pt.cells, Pt.slots] at Xu9 lu9 yu9 zu9 stu9 hQu9
    subst lu9 yu9 zu9
    obtain ⟨rfl, Nu9q, eu9⟩ := hQu9
    have Nu9 := Fr.app N0 Nu9q
    refine own_stepW (T' := Tu9) (g' := (mkF m 154 #[.val (.int x0), .val (.int x1), .val (.long x2), .second, .val (.long x4), .second, .val (.long x6), .second, .val (.long x8), .second, .val (.int (Int32.ofNat 0)), .val (.int (Int32.ofNat ut)), .val (.int (Int32.ofNat ug)), .val (.long (Int64.ofNat ua)), .second, .val (.long (Int64.ofNat ub)), .second, .val (.long (Int64.ofNat uc)), .second, .val (.long (Int64.ofNat ud)), .second, .val (.ref w1), .unset, .unset, .unset, .unset] [(.ref b1), (.ref bu1), (.ref bu1)])) (fun _ k => stu9.trans k) ?_
    obtain ⟨_, _, ⟨Tu10, Lu10, ku10, nu10⟩, -, Xu10, hSu10, hgru10, ⟨Lcu10, hQu10, lu10, yu10, zu10⟩, stu10⟩ := Xu9.specialBackS hx (y := (⟨"com/example/impatiens/impatiens/statespace/StateReader", "<init>", "([B)V"⟩ : MethodName)) rfl howns (mvT hZs (hw _ (List.mem_of_getElem? (i := 34) rfl))) (mvT hZs (hw _ (List.mem_of_getElem? (i := 35) rfl))) (mvT hZs (hw _ (List.mem_of_getElem? (i := 36) rfl))) (by decide) (backOfS (W := 1) (rm6 l Z a0 hw [] bu1 b1 k1 (own_enc 8 0 ++ own_encs ([] : List (Nat × Nat × Nat))) .null hu1 n0 Zu1 Au1 g_bu1 qu7 qu8 qu5 qu6) hZs (hw _ (List.mem_of_getElem? (i := 36) rfl)) (hw _ (List.mem_of_getElem? (i := 28) rfl)) (by decide) (by decide)) (g := (mkF m 154 #[.val (.int x0), .val (.int x1), .val (.long x2), .second, .val (.long x4), .second, .val (.long x6), .second, .val (.long x8), .second, .val (.int (Int32.ofNat 0)), .val (.int (Int32.ofNat ut)), .val (.int (Int32.ofNat ug)), .val (.long (Int64.ofNat ua)), .second, .val (.long (Int64.ofNat ub)), .second, .val (.long (Int64.ofNat uc)), .second, .val (.long (Int64.ofNat ud)), .second, .val (.ref w1), .unset, .unset, .unset, .unset] [(.ref b1), (.ref bu1), (.ref bu1)])) rfl (by rw [hml]; rfl) (Steps.refl _) (a := bu1) (argsL := [(.ref b1)]) (rest := [(.ref bu1)]) (lenOf pd_10 rfl) rfl (by show 2 * 0 + _ ≤ _; exact Nat.le_of_eq rfl) (hb hby at_154) (fun _ _ => ⟨rfl, eu9, (by decide : 3 + 2 ≤ _), (by decide : 68 + 92 ≤ _)⟩)
    dsimp only [Pt.U, Pt.locs, Pt.cells, Pt.slots] at Xu10 lu10 yu10 zu10 stu10 hQu10 hSu10 hgru10
    subst lu10 yu10 zu10
    generalize eu10 : Tu10.heap = hu10 at hQu10 hSu10 hgru10
    obtain ⟨rfl, Nu10q, Ku10, rdu10⟩ := hQu10
    have Zu10 : n0 ≤ hu10.size := Nat.le_trans Zu1 Ku10.1
    obtain ⟨Xu10r, hSu10r, hZu10, hownu10⟩ := rebS hS0 (Nat.le_trans hku1 (Nat.le_of_eq (congrArg Array.size eu9.symm))) Xu10 hSu10 hgru10 hZs howns
    have qu11 : Fld Z hu10 w1 "com/example/impatiens/impatiens/statespace/StateWriter" "bytes" "[B" (.ref b1) := qu2.keep Ku10 (ninS neu1_w1 nin0)
    have qu12 : Fld Z hu10 w1 "com/example/impatiens/impatiens/statespace/StateWriter" "length" "I" (.int (Int32.ofNat (own_enc 8 0 ++ own_encs ([] : List (Nat × Nat × Nat))).length)) := qu3.keep Ku10 (ninS neu1_w1 nin0)
    have qu13 : Exa Z hu10 w1 "com/example/impatiens/impatiens/statespace/StateWriter" := qu4.keep Ku10
    have qu14 : Exa Z hu10 b1 "[B" := qu5.keep Ku10
    have qu15 : Exa Z hu10 bu1 "com/example/impatiens/impatiens/statespace/StateReader" := Au1.keep Ku10
    have qu16 : Arv Z hu10 b1 k1 .byte (64 : Int32) ((own_enc 8 0 ++ own_encs ([] : List (Nat × Nat × Nat))).map Value.int) (.int (0 : Int32)) := qu6.keep Ku10 (ninS neu1_b1 nin0)
    have Nu10 := Fr.app Nu9 Nu10q
    obtain ⟨EDu10, FbDu10, FpDu10, VbDu10, grDu10⟩ := rdu10
    refine own_stepW (T' := Tu10) (g' := (mkF m 157 #[.val (.int x0), .val (.int x1), .val (.long x2), .second, .val (.long x4), .second, .val (.long x6), .second, .val (.long x8), .second, .val (.int (Int32.ofNat 0)), .val (.int (Int32.ofNat ut)), .val (.int (Int32.ofNat ug)), .val (.long (Int64.ofNat ua)), .second, .val (.long (Int64.ofNat ub)), .second, .val (.long (Int64.ofNat uc)), .second, .val (.long (Int64.ofNat ud)), .second, .val (.ref w1), .unset, .unset, .unset, .unset] [(.ref bu1)])) (fun _ k => stu10.trans k) ?_
    obtain ⟨_, _, ⟨Tu17, Lu17, ku17, nu17⟩, -, Xu17, ⟨Lcu17, hQu17, lu17, yu17, zu17⟩, stu17⟩ := Jvm.LawKit.callS Xu10r hx (y := (⟨"com/example/impatiens/impatiens/itpn/Instances", "read", "(Lcom/example/impatiens/impatiens/statespace/StateReader;)Lcom/example/impatiens/impatiens/itpn/Instances;"⟩ : MethodName)) hownu10 (mvT hZu10 (hw _ (List.mem_of_getElem? (i := 53) rfl))) (mvT hZu10 (hw _ (List.mem_of_getElem? (i := 54) rfl))) (mvT hZu10 (hw _ (List.mem_of_getElem? (i := 55) rfl))) (mvT hZu10 (hw _ (List.mem_of_getElem? (i := 56) rfl))) (by decide) (backOf (W := 0) (rm8 l Z a0 hw [] bu1 b1 k1 (own_enc 8 0 ++ own_encs ([] : List (Nat × Nat × Nat))) [] 0 ([] : List (Nat × Nat × Nat)) hu10 n0 Zu10 hV1 (by simp) hG1 hA1 ⟨EDu10, FbDu10, FpDu10, qu16, grDu10⟩) hZu10 (hw _ (List.mem_of_getElem? (i := 56) rfl)) (hw _ (List.mem_of_getElem? (i := 55) rfl)) (by decide) (by decide)) (g := (mkF m 157 #[.val (.int x0), .val (.int x1), .val (.long x2), .second, .val (.long x4), .second, .val (.long x6), .second, .val (.long x8), .second, .val (.int (Int32.ofNat 0)), .val (.int (Int32.ofNat ut)), .val (.int (Int32.ofNat ug)), .val (.long (Int64.ofNat ua)), .second, .val (.long (Int64.ofNat ub)), .second, .val (.long (Int64.ofNat uc)), .second, .val (.long (Int64.ofNat ud)), .second, .val (.ref w1), .unset, .unset, .unset, .unset] [(.ref bu1)])) rfl (by rw [hml]; rfl) (argsL := [(.ref bu1)]) (rest := []) (lenOf pd_11 rfl) rfl (by show 2 * 0 + _ ≤ _; exact Nat.le_of_eq rfl) (hb hby at_157) (fun _ _ => ⟨rfl, eu10, (by decide : 5 + 4 ≤ _), (by decide : 160 + 10 ≤ _)⟩)
    dsimp only [Pt.U, Pt.locs, Pt.cells, Pt.slots] at Xu17 lu17 yu17 zu17 stu17 hQu17
    subst lu17 yu17 zu17
    generalize eu17 : Tu17.heap = hu17 at hQu17
    obtain ⟨iu17, tau17, aau17, cau17, ktu17, kau17, kcu17, rfl, Nu17q, Ku17, isu17⟩ := hQu17
    have Zu17 : n0 ≤ hu17.size := Nat.le_trans Zu10 Ku17.1
    have hku17 := Nat.le_trans (Nat.le_refl hu10.size) Ku17.1
    have qu18 : Fld Z hu17 w1 "com/example/impatiens/impatiens/statespace/StateWriter" "bytes" "[B" (.ref b1) := qu11.keep Ku17 (ninS neu1_w1 nin0)
    have qu19 : Fld Z hu17 w1 "com/example/impatiens/impatiens/statespace/StateWriter" "length" "I" (.int (Int32.ofNat (own_enc 8 0 ++ own_encs ([] : List (Nat × Nat × Nat))).length)) := qu12.keep Ku17 (ninS neu1_w1 nin0)
    have qu20 : Exa Z hu17 w1 "com/example/impatiens/impatiens/statespace/StateWriter" := qu13.keep Ku17
    have qu21 : Exa Z hu17 b1 "[B" := qu14.keep Ku17
    have qu22 : Exa Z hu17 bu1 "com/example/impatiens/impatiens/statespace/StateReader" := EDu10.keep Ku17
    have qu23 : Arv Z hu17 b1 k1 .byte (64 : Int32) ((own_enc 8 0 ++ own_encs ([] : List (Nat × Nat × Nat))).map Value.int) (.int (0 : Int32)) := qu16.keep Ku17 (ninS neu1_b1 nin0)
    have Nu17 := Fr.app Nu10 Nu17q
    refine own_stepW (T' := Tu17) (g' := (mkF m 160 #[.val (.int x0), .val (.int x1), .val (.long x2), .second, .val (.long x4), .second, .val (.long x6), .second, .val (.long x8), .second, .val (.int (Int32.ofNat 0)), .val (.int (Int32.ofNat ut)), .val (.int (Int32.ofNat ug)), .val (.long (Int64.ofNat ua)), .second, .val (.long (Int64.ofNat ub)), .second, .val (.long (Int64.ofNat uc)), .second, .val (.long (Int64.ofNat ud)), .second, .val (.ref w1), .unset, .unset, .unset, .unset] [(.ref iu17)])) (fun _ k => stu17 _ k) ?_
    have isT := isu17
    have oqT := isT
    obtain ⟨ET, FtT, FaT, FcT, FnT, VtT, VaT, VcT, ⟨ntaT, ntcT, nacT⟩, giT, gtT, gaT, gcT⟩ := oqT
    have ni_tau17T : iu17 ≠ tau17 := ET.neArv VtT (hw _ (List.mem_of_getElem? (i := 68) rfl))
    have ni_aau17T : iu17 ≠ aau17 := ET.neArv VaT (hw _ (List.mem_of_getElem? (i := 68) rfl))
    have ni_cau17T : iu17 ≠ cau17 := ET.neArv VcT (hw _ (List.mem_of_getElem? (i := 68) rfl))
    refine own_stepW (T' := Tu17) (g' := (mkF m 162 #[.val (.int x0), .val (.int x1), .val (.long x2), .second, .val (.long x4), .second, .val (.long x6), .second, .val (.long x8), .second, .val (.int (Int32.ofNat 0)), .val (.int (Int32.ofNat ut)), .val (.int (Int32.ofNat ug)), .val (.long (Int64.ofNat ua)), .second, .val (.long (Int64.ofNat ub)), .second, .val (.long (Int64.ofNat uc)), .second, .val (.long (Int64.ofNat ud)), .second, .val (.ref w1), .val (.ref iu17), .unset, .unset, .unset] [])) (fun _ k => XS.astore Xu17.here hx rfl (hb hby at_160) rfl rfl (l' := #[.val (.int x0), .val (.int x1), .val (.long x2), .second, .val (.long x4), .second, .val (.long x6), .second, .val (.long x8), .second, .val (.int (Int32.ofNat 0)), .val (.int (Int32.ofNat ut)), .val (.int (Int32.ofNat ug)), .val (.long (Int64.ofNat ua)), .second, .val (.long (Int64.ofNat ub)), .second, .val (.long (Int64.ofNat uc)), .second, .val (.long (Int64.ofNat ud)), .second, .val (.ref w1), .val (.ref iu17), .unset, .unset, .unset]) rfl k) ?_
    refine own_stepW (T' := Tu17) (g' := (mkF m 164 #[.val (.int x0), .val (.int x1), .val (.long x2), .second, .val (.long x4), .second, .val (.long x6), .second, .val (.long x8), .second, .val (.int (Int32.ofNat 0)), .val (.int (Int32.ofNat ut)), .val (.int (Int32.ofNat ug)), .val (.long (Int64.ofNat ua)), .second, .val (.long (Int64.ofNat ub)), .second, .val (.long (Int64.ofNat uc)), .second, .val (.long (Int64.ofNat ud)), .second, .val (.ref w1), .val (.ref iu17), .unset, .unset, .unset] [(.ref iu17)])) (fun _ k => XS.aload Xu17.here hx rfl (hb hby at_162) rfl rfl k) ?_
    obtain ⟨cqu24, kqu24, qu24a, qu24b, qu24c⟩ := isOf hZu10 eu17 ET
    obtain ⟨_, _, ⟨Tu24, Lu24, ku24, nu24⟩, -, Xu24, ⟨Lcu24, hQu24, lu24, yu24, zu24⟩, stu24⟩ := Xu17.virtualBack hx (y := (⟨"com/example/impatiens/impatiens/itpn/Instances", "tick", "()V"⟩ : MethodName)) (z := (⟨"com/example/impatiens/impatiens/itpn/Instances", "tick", "()V"⟩ : MethodName)) hownu10 (mvT hZu10 (hw _ (List.mem_of_getElem? (i := 83) rfl))) (mvT hZu10 (hw _ (List.mem_of_getElem? (i := 84) rfl))) (notFace_of_selects (args := #[]) (mvT hZu10 (hw _ (List.mem_of_getElem? (i := 86) rfl)))) (mvT hZu10 (hw _ (List.mem_of_getElem? (i := 86) rfl))) (mvT hZu10 (hw _ (List.mem_of_getElem? (i := 85) rfl))) (by decide) (backOf (W := 0) (rm12 l Z a0 hw [] iu17 tau17 aau17 cau17 ktu17 kau17 kcu17 ([] : List (Nat × Nat × Nat)).length ((own_ts 0 ([] : List (Nat × Nat × Nat))).map Int32.ofNat) (([] : List (Nat × Nat × Nat)).map (fun g => Int64.ofNat g.2.1)) (([] : List (Nat × Nat × Nat)).map (fun g => Int64.ofNat g.2.2)) hu17 n0 Zu17 (by simp) (by simp) ⟨ET, FtT, FaT, FcT, FnT, VtT, VaT, VcT, ⟨ntaT, ntcT, nacT⟩, giT, gtT, gaT, gcT⟩) hZu10 (hw _ (List.mem_of_getElem? (i := 87) rfl)) (hw _ (List.mem_of_getElem? (i := 55) rfl)) (by decide) (by decide)) qu24a qu24c (g := (mkF m 164 #[.val (.int x0), .val (.int x1), .val (.long x2), .second, .val (.long x4), .second, .val (.long x6), .second, .val (.long x8), .second, .val (.int (Int32.ofNat 0)), .val (.int (Int32.ofNat ut)), .val (.int (Int32.ofNat ug)), .val (.long (Int64.ofNat ua)), .second, .val (.long (Int64.ofNat ub)), .second, .val (.long (Int64.ofNat uc)), .second, .val (.long (Int64.ofNat ud)), .second, .val (.ref w1), .val (.ref iu17), .unset, .unset, .unset] [(.ref iu17)])) rfl (by rw [hml]; rfl) (Steps.refl _) (argsL := []) (rest := []) (lenOf pd_7 rfl) rfl (by show 2 * 0 + _ ≤ _; exact Nat.le_of_eq rfl) (hb hby at_164) (fun _ _ => ⟨rfl, eu17, (by decide : 9 + 0 ≤ _), (by decide : 170 + 0 ≤ _)⟩)
    dsimp only [Pt.U, Pt.locs, Pt.cells, Pt.slots] at Xu24 lu24 yu24 zu24 stu24 hQu24
    subst lu24 yu24 zu24
    generalize eu24 : Tu24.heap = hu24 at hQu24
    obtain ⟨rfl, Nu24q, Ku24, isu24⟩ := hQu24
    have Zu24 : n0 ≤ hu24.size := Nat.le_trans Zu17 Ku24.1
    have hku24 := Nat.le_trans hku17 Ku24.1
    have qu25 : Fld Z hu24 iu17 "com/example/impatiens/impatiens/itpn/Instances" "transitions" "[I" (.ref tau17) := FtT.keep Ku24 (ninS ni_aau17T nin0)
    have qu26 : Fld Z hu24 iu17 "com/example/impatiens/impatiens/itpn/Instances" "ages" "[J" (.ref aau17) := FaT.keep Ku24 (ninS ni_aau17T nin0)
    have qu27 : Fld Z hu24 iu17 "com/example/impatiens/impatiens/itpn/Instances" "counts" "[J" (.ref cau17) := FcT.keep Ku24 (ninS ni_aau17T nin0)
    have qu28 : Fld Z hu24 iu17 "com/example/impatiens/impatiens/itpn/Instances" "size" "I" (.int (Int32.ofNat ([] : List (Nat × Nat × Nat)).length)) := FnT.keep Ku24 (ninS ni_aau17T nin0)
    have qu29 : Exa Z hu24 iu17 "com/example/impatiens/impatiens/itpn/Instances" := ET.keep Ku24
    have qu30 : Arv Z hu24 tau17 ktu17 .int (Int32.ofNat ([] : List (Nat × Nat × Nat)).length) (((own_ts 0 ([] : List (Nat × Nat × Nat))).map Int32.ofNat).map Value.int) (.int (0 : Int32)) := VtT.keep Ku24 (ninS ntaT nin0)
    have qu31 : Arv Z hu24 cau17 kcu17 .long (Int32.ofNat ([] : List (Nat × Nat × Nat)).length) ((([] : List (Nat × Nat × Nat)).map (fun g => Int64.ofNat g.2.2)).map Value.long) (.long (0 : Int64)) := VcT.keep Ku24 (ninS (Ne.symm nacT) nin0)
    have Nu24 := Fr.app Nu17 Nu24q
    have hagree : (([] : List (Nat × Nat × Nat)).map (fun g => Int64.ofNat g.2.1)) = ((([] : List (Nat × Nat × Nat)).map (fun g => Int64.ofNat g.2.1))).map (· + 1) := by simp only [List.map_cons, List.map_nil, own_succ64]
    have isU : own_IS Z n0 hu24 iu17 tau17 aau17 cau17 ktu17 kau17 kcu17 ([] : List (Nat × Nat × Nat)).length ((own_ts 0 ([] : List (Nat × Nat × Nat))).map Int32.ofNat) (([] : List (Nat × Nat × Nat)).map (fun g => Int64.ofNat g.2.1)) (([] : List (Nat × Nat × Nat)).map (fun g => Int64.ofNat g.2.2)) := by rw [hagree]; exact isu24
    refine own_stepW (T' := Tu24) (g' := (mkF m 167 #[.val (.int x0), .val (.int x1), .val (.long x2), .second, .val (.long x4), .second, .val (.long x6), .second, .val (.long x8), .second, .val (.int (Int32.ofNat 0)), .val (.int (Int32.ofNat ut)), .val (.int (Int32.ofNat ug)), .val (.long (Int64.ofNat ua)), .second, .val (.long (Int64.ofNat ub)), .second, .val (.long (Int64.ofNat uc)), .second, .val (.long (Int64.ofNat ud)), .second, .val (.ref w1), .val (.ref iu17), .unset, .unset, .unset] [])) (fun _ k => stu24.trans k) ?_
    exact B167_0 Tu24 _ hu24 w1 iu17 tau17 aau17 cau17 ktu17 kau17 kcu17 Zu24 isU _ _ hSu10r hku24 hZu10 hownu10 Xu24 eu24 Nu24
  have B72_0 : ∀ (T0 : State) (locs : List Loc) (hh : Heap), n0 ≤ hh.size → Stand p l e room_1 (s.setVm s.vm) m #[(.int x0), (.int x1), (.long x2), (.long x4), (.long x6), (.long x8)] below meth c T0 locs 0 0 → T0.heap = hh → Fr n0 locs → own_GoesW p e below s (own_Law n0) 32 1408 T0 (mkF m 72 #[.val (.int x0), .val (.int x1), .val (.long x2), .second, .val (.long x4), .second, .val (.long x6), .second, .val (.long x8), .second, .val (.int (Int32.ofNat 0)), .val (.int (Int32.ofNat ut)), .val (.int (Int32.ofNat ug)), .val (.long (Int64.ofNat ua)), .second, .val (.long (Int64.ofNat ub)), .second, .val (.long (Int64.ofNat uc)), .second, .val (.long (Int64.ofNat ud)), .second, .unset, .unset, .unset, .unset, .unset] []) := by
    intro T0 locs hh  Zh  X0 e0 N0
    obtain ⟨Tu1, hu1, Xu1, eu1, Eu1, Au1, Du1, -, stu1⟩ := newO X0 hx hZs howns (hw _ (List.mem_of_getElem? (i := 6) rfl)) (hw _ (List.mem_of_getElem? (i := 7) rfl)) (hw _ (List.mem_of_getElem? (i := 8) rfl)) e0 (g := (mkF m 72 #[.val (.int x0), .val (.int x1), .val (.long x2), .second, .val (.long x4), .second, .val (.long x6), .second, .val (.long x8), .second, .val (.int (Int32.ofNat 0)), .val (.int (Int32.ofNat ut)), .val (.int (Int32.ofNat ug)), .val (.long (Int64.ofNat ua)), .second, .val (.long (Int64.ofNat ub)), .second, .val (.long (Int64.ofNat uc)), .second, .val (.long (Int64.ofNat ud)), .second, .unset, .unset, .unset, .unset, .unset] [])) rfl (hb hby at_72) (by decide) (by decide)
    obtain ⟨bu1, gu1⟩ : ∃ z, z = hh.size := ⟨_, rfl⟩
    rw [← gu1] at Au1 Du1 stu1
    have qu2 : Fld Z hu1 bu1 "com/example/impatiens/impatiens/statespace/StateWriter" "bytes" "[B" .null := Du1 (Or.inl (hw _ (List.mem_of_getElem? (i := 17) rfl))) (ty := (.array .byte)) (by decide)
    have qu3 : Fld Z hu1 bu1 "com/example/impatiens/impatiens/statespace/StateWriter" "length" "I" (.int (0 : Int32)) := Du1 (Or.inl (hw _ (List.mem_of_getElem? (i := 24) rfl))) (ty := .int) (by decide)
    have g_bu1 : n0 ≤ bu1 := Nat.le_trans Zh (Nat.le_of_eq gu1.symm)
    have Zu1 : n0 ≤ hu1.size := Nat.le_trans Zh Eu1.1
    have hku1 := Nat.le_trans (Nat.zero_le _) Eu1.1
    refine own_stepW (T' := Tu1) (g' := (mkF m 75 #[.val (.int x0), .val (.int x1), .val (.long x2), .second, .val (.long x4), .second, .val (.long x6), .second, .val (.long x8), .second, .val (.int (Int32.ofNat 0)), .val (.int (Int32.ofNat ut)), .val (.int (Int32.ofNat ug)), .val (.long (Int64.ofNat ua)), .second, .val (.long (Int64.ofNat ub)), .second, .val (.long (Int64.ofNat uc)), .second, .val (.long (Int64.ofNat ud)), .second, .unset, .unset, .unset, .unset, .unset] [(.ref bu1)])) (fun _ k => stu1 _ k) ?_
    refine own_stepW (T' := Tu1) (g' := (mkF m 76 #[.val (.int x0), .val (.int x1), .val (.long x2), .second, .val (.long x4), .second, .val (.long x6), .second, .val (.long x8), .second, .val (.int (Int32.ofNat 0)), .val (.int (Int32.ofNat ut)), .val (.int (Int32.ofNat ug)), .val (.long (Int64.ofNat ua)), .second, .val (.long (Int64.ofNat ub)), .second, .val (.long (Int64.ofNat uc)), .second, .val (.long (Int64.ofNat ud)), .second, .unset, .unset, .unset, .unset, .unset] [(.ref bu1), (.ref bu1)])) (fun _ k => XS.dup Xu1.here hx rfl (hb hby at_75) rfl rfl k) ?_
    obtain ⟨_, _, ⟨Tu4, Lu4, ku4, nu4⟩, -, Xu4, ⟨Lcu4, hQu4, lu4, yu4, zu4⟩, stu4⟩ := Xu1.specialBack hx (y := (⟨"com/example/impatiens/impatiens/statespace/StateWriter", "<init>", "()V"⟩ : MethodName)) rfl howns (mvT hZs (hw _ (List.mem_of_getElem? (i := 9) rfl))) (mvT hZs (hw _ (List.mem_of_getElem? (i := 10) rfl))) (mvT hZs (hw _ (List.mem_of_getElem? (i := 11) rfl))) (by decide) (backOf (W := 1) (rm2 l Z a0 hw [] bu1 .null hu1 n0 Zu1 Au1 g_bu1 qu2 qu3) hZs (hw _ (List.mem_of_getElem? (i := 11) rfl)) (hw _ (List.mem_of_getElem? (i := 8) rfl)) (by decide) (by decide)) (g := (mkF m 76 #[.val (.int x0), .val (.int x1), .val (.long x2), .second, .val (.long x4), .second, .val (.long x6), .second, .val (.long x8), .second, .val (.int (Int32.ofNat 0)), .val (.int (Int32.ofNat ut)), .val (.int (Int32.ofNat ug)), .val (.long (Int64.ofNat ua)), .second, .val (.long (Int64.ofNat ub)), .second, .val (.long (Int64.ofNat uc)), .second, .val (.long (Int64.ofNat ud)), .second, .unset, .unset, .unset, .unset, .unset] [(.ref bu1), (.ref bu1)])) rfl (by rw [hml]; rfl) (Steps.refl _) (a := bu1) (argsL := []) (rest := [(.ref bu1)]) (lenOf pd_7 rfl) rfl (by show 2 * 0 + _ ≤ _; exact Nat.le_of_eq rfl) (hb hby at_76) (fun _ _ => ⟨rfl, eu1, (by decide : 1 + 1 ≤ _), (by decide : 2 + 64 ≤ _)⟩)
    dsimp only [Pt.U, Pt.locs, Pt.cells, Pt.slots] at Xu4 lu4 yu4 zu4 stu4 hQu4
    subst lu4 yu4 zu4
    generalize eu4 : Tu4.heap = hu4 at hQu4
    obtain ⟨rfl, Nu4q, Ku4, bbu4, kbu4, szbu4, wru4⟩ := hQu4
    have Zu4 : n0 ≤ hu4.size := Nat.le_trans Zu1 Ku4.1
    have hku4 := Nat.le_trans hku1 Ku4.1
    have qu5 : Exa Z hu4 bu1 "com/example/impatiens/impatiens/statespace/StateWriter" := Au1.keep Ku4
    have Nu4 := Fr.app N0 Nu4q
    have nbu4_bu1 : bu1 ≠ bbu4 := Nat.ne_of_lt (Nat.lt_of_lt_of_le qu2.lt szbu4)
    obtain ⟨EIu4, FbIu4, FlIu4, EbIu4, VbIu4, gwIu4, gbIu4⟩ := wru4
    refine own_stepW (T' := Tu4) (g' := (mkF m 79 #[.val (.int x0), .val (.int x1), .val (.long x2), .second, .val (.long x4), .second, .val (.long x6), .second, .val (.long x8), .second, .val (.int (Int32.ofNat 0)), .val (.int (Int32.ofNat ut)), .val (.int (Int32.ofNat ug)), .val (.long (Int64.ofNat ua)), .second, .val (.long (Int64.ofNat ub)), .second, .val (.long (Int64.ofNat uc)), .second, .val (.long (Int64.ofNat ud)), .second, .unset, .unset, .unset, .unset, .unset] [(.ref bu1)])) (fun _ k => stu4.trans k) ?_
    refine own_stepW (T' := Tu4) (g' := (mkF m 81 #[.val (.int x0), .val (.int x1), .val (.long x2), .second, .val (.long x4), .second, .val (.long x6), .second, .val (.long x8), .second, .val (.int (Int32.ofNat 0)), .val (.int (Int32.ofNat ut)), .val (.int (Int32.ofNat ug)), .val (.long (Int64.ofNat ua)), .second, .val (.long (Int64.ofNat ub)), .second, .val (.long (Int64.ofNat uc)), .second, .val (.long (Int64.ofNat ud)), .second, .val (.ref bu1), .unset, .unset, .unset, .unset] [])) (fun _ k => XS.astore Xu4.here hx rfl (hb hby at_79) rfl rfl (l' := #[.val (.int x0), .val (.int x1), .val (.long x2), .second, .val (.long x4), .second, .val (.long x6), .second, .val (.long x8), .second, .val (.int (Int32.ofNat 0)), .val (.int (Int32.ofNat ut)), .val (.int (Int32.ofNat ug)), .val (.long (Int64.ofNat ua)), .second, .val (.long (Int64.ofNat ub)), .second, .val (.long (Int64.ofNat uc)), .second, .val (.long (Int64.ofNat ud)), .second, .val (.ref bu1), .unset, .unset, .unset, .unset]) rfl k) ?_
    refine own_stepW (T' := Tu4) (g' := (mkF m 83 #[.val (.int x0), .val (.int x1), .val (.long x2), .second, .val (.long x4), .second, .val (.long x6), .second, .val (.long x8), .second, .val (.int (Int32.ofNat 0)), .val (.int (Int32.ofNat ut)), .val (.int (Int32.ofNat ug)), .val (.long (Int64.ofNat ua)), .second, .val (.long (Int64.ofNat ub)), .second, .val (.long (Int64.ofNat uc)), .second, .val (.long (Int64.ofNat ud)), .second, .val (.ref bu1), .unset, .unset, .unset, .unset] [(.ref bu1)])) (fun _ k => XS.aload Xu4.here hx rfl (hb hby at_81) rfl rfl k) ?_
    refine own_stepW (T' := Tu4) (g' := (mkF m 85 #[.val (.int x0), .val (.int x1), .val (.long x2), .second, .val (.long x4), .second, .val (.long x6), .second, .val (.long x8), .second, .val (.int (Int32.ofNat 0)), .val (.int (Int32.ofNat ut)), .val (.int (Int32.ofNat ug)), .val (.long (Int64.ofNat ua)), .second, .val (.long (Int64.ofNat ub)), .second, .val (.long (Int64.ofNat uc)), .second, .val (.long (Int64.ofNat ud)), .second, .val (.ref bu1), .unset, .unset, .unset, .unset] [(.int (Int32.ofNat 0)), (.ref bu1)])) (fun _ k => XS.iload Xu4.here hx rfl (hb hby at_83) rfl k) ?_
    refine own_stepW (T' := Tu4) (g' := (mkF m 86 #[.val (.int x0), .val (.int x1), .val (.long x2), .second, .val (.long x4), .second, .val (.long x6), .second, .val (.long x8), .second, .val (.int (Int32.ofNat 0)), .val (.int (Int32.ofNat ut)), .val (.int (Int32.ofNat ug)), .val (.long (Int64.ofNat ua)), .second, .val (.long (Int64.ofNat ub)), .second, .val (.long (Int64.ofNat uc)), .second, .val (.long (Int64.ofNat ud)), .second, .val (.ref bu1), .unset, .unset, .unset, .unset] [(.long ((Int32.ofNat 0).toInt64)), (.ref bu1)])) (fun _ k => XS.i2l Xu4.here hx rfl (hb hby at_85) rfl k) ?_
    obtain ⟨cqu6, kqu6, qu6a, qu6b, qu6c⟩ := isOf hZs eu4 EIu4
    obtain ⟨_, _, ⟨Tu6, Lu6, ku6, nu6⟩, -, Xu6, ⟨Lcu6, hQu6, lu6, yu6, zu6⟩, stu6⟩ := Xu4.virtualBack hx (y := (⟨"com/example/impatiens/impatiens/statespace/StateWriter", "writeLong", "(J)V"⟩ : MethodName)) (z := (⟨"com/example/impatiens/impatiens/statespace/StateWriter", "writeLong", "(J)V"⟩ : MethodName)) howns (mvT hZs (hw _ (List.mem_of_getElem? (i := 18) rfl))) (mvT hZs (hw _ (List.mem_of_getElem? (i := 19) rfl))) (notFace_of_selects (args := #[]) (mvT hZs (hw _ (List.mem_of_getElem? (i := 21) rfl)))) (mvT hZs (hw _ (List.mem_of_getElem? (i := 21) rfl))) (mvT hZs (hw _ (List.mem_of_getElem? (i := 20) rfl))) (by decide) (backOf (W := 0) (rm4 l Z a0 hw [] bu1 ((Int32.ofNat 0).toInt64) bbu4 kbu4 ([] : List Int32) 0 hu4 n0 Zu4 (own_i2l 0 (by decide)) (by decide) (by decide) ⟨EIu4, FbIu4, FlIu4, EbIu4, VbIu4, gwIu4, gbIu4⟩) hZs (hw _ (List.mem_of_getElem? (i := 22) rfl)) (hw _ (List.mem_of_getElem? (i := 8) rfl)) (by decide) (by decide)) qu6a qu6c (g := (mkF m 86 #[.val (.int x0), .val (.int x1), .val (.long x2), .second, .val (.long x4), .second, .val (.long x6), .second, .val (.long x8), .second, .val (.int (Int32.ofNat 0)), .val (.int (Int32.ofNat ut)), .val (.int (Int32.ofNat ug)), .val (.long (Int64.ofNat ua)), .second, .val (.long (Int64.ofNat ub)), .second, .val (.long (Int64.ofNat uc)), .second, .val (.long (Int64.ofNat ud)), .second, .val (.ref bu1), .unset, .unset, .unset, .unset] [(.long ((Int32.ofNat 0).toInt64)), (.ref bu1)])) rfl (by rw [hml]; rfl) (Steps.refl _) (argsL := [(.long ((Int32.ofNat 0).toInt64))]) (rest := []) (lenOf pd_4 rfl) rfl (by show 2 * 0 + _ ≤ _; exact Nat.le_of_eq rfl) (hb hby at_86) (fun _ _ => ⟨rfl, eu4, (by decide : 2 + 0 ≤ _), (by decide : 66 + 0 ≤ _)⟩)
    dsimp only [Pt.U, Pt.locs, Pt.cells, Pt.slots] at Xu6 lu6 yu6 zu6 stu6 hQu6
    subst lu6 yu6 zu6
    generalize eu6 : Tu6.heap = hu6 at hQu6
    obtain ⟨rfl, Nu6q, Ku6, wru6⟩ := hQu6
    have Zu6 : n0 ≤ hu6.size := Nat.le_trans Zu4 Ku6.1
    have hku6 := Nat.le_trans hku4 Ku6.1
    have qu7 : Exa Z hu6 bu1 "com/example/impatiens/impatiens/statespace/StateWriter" := EIu4.keep Ku6
    have qu8 : Exa Z hu6 bbu4 "[B" := EbIu4.keep Ku6
    have Nu6 := Fr.app Nu4 Nu6q
    obtain ⟨EWu6, FbWu6, FlWu6, EbWu6, VbWu6, gwWu6, gbWu6⟩ := wru6
    refine own_stepW (T' := Tu6) (g' := (mkF m 89 #[.val (.int x0), .val (.int x1), .val (.long x2), .second, .val (.long x4), .second, .val (.long x6), .second, .val (.long x8), .second, .val (.int (Int32.ofNat 0)), .val (.int (Int32.ofNat ut)), .val (.int (Int32.ofNat ug)), .val (.long (Int64.ofNat ua)), .second, .val (.long (Int64.ofNat ub)), .second, .val (.long (Int64.ofNat uc)), .second, .val (.long (Int64.ofNat ud)), .second, .val (.ref bu1), .unset, .unset, .unset, .unset] [])) (fun _ k => stu6.trans k) ?_
    refine own_stepW (T' := Tu6) (g' := (mkF m 91 #[.val (.int x0), .val (.int x1), .val (.long x2), .second, .val (.long x4), .second, .val (.long x6), .second, .val (.long x8), .second, .val (.int (Int32.ofNat 0)), .val (.int (Int32.ofNat ut)), .val (.int (Int32.ofNat ug)), .val (.long (Int64.ofNat ua)), .second, .val (.long (Int64.ofNat ub)), .second, .val (.long (Int64.ofNat uc)), .second, .val (.long (Int64.ofNat ud)), .second, .val (.ref bu1), .unset, .unset, .unset, .unset] [(.int (Int32.ofNat 0))])) (fun _ k => XS.iload Xu6.here hx rfl (hb hby at_89) rfl k) ?_
    refine own_stepW (T' := Tu6) (g' := (mkF m 92 #[.val (.int x0), .val (.int x1), .val (.long x2), .second, .val (.long x4), .second, .val (.long x6), .second, .val (.long x8), .second, .val (.int (Int32.ofNat 0)), .val (.int (Int32.ofNat ut)), .val (.int (Int32.ofNat ug)), .val (.long (Int64.ofNat ua)), .second, .val (.long (Int64.ofNat ub)), .second, .val (.long (Int64.ofNat uc)), .second, .val (.long (Int64.ofNat ud)), .second, .val (.ref bu1), .unset, .unset, .unset, .unset] [(.int (1 : Int32)), (.int (Int32.ofNat 0))])) (fun _ k => XS.iconst Xu6.here hx rfl (hb hby at_91) k) ?_
    have hcu9 : (Int32.ofNat 0) < (1 : Int32) := by decide
    refine own_stepW (T' := Tu6) (g' := (mkF m 117 #[.val (.int x0), .val (.int x1), .val (.long x2), .second, .val (.long x4), .second, .val (.long x6), .second, .val (.long x8), .second, .val (.int (Int32.ofNat 0)), .val (.int (Int32.ofNat ut)), .val (.int (Int32.ofNat ug)), .val (.long (Int64.ofNat ua)), .second, .val (.long (Int64.ofNat ub)), .second, .val (.long (Int64.ofNat uc)), .second, .val (.long (Int64.ofNat ud)), .second, .val (.ref bu1), .unset, .unset, .unset, .unset] [])) (fun _ k => XS.icmpYes Xu6.here hx rfl (pc0 := 92) (pc' := 117) rfl (hb hby at_92) rfl (tlt hcu9).1 (by decide) (by decide) k) ?_
    refine own_stepW (T' := Tu6) (g' := (mkF m 119 #[.val (.int x0), .val (.int x1), .val (.long x2), .second, .val (.long x4), .second, .val (.long x6), .second, .val (.long x8), .second, .val (.int (Int32.ofNat 0)), .val (.int (Int32.ofNat ut)), .val (.int (Int32.ofNat ug)), .val (.long (Int64.ofNat ua)), .second, .val (.long (Int64.ofNat ub)), .second, .val (.long (Int64.ofNat uc)), .second, .val (.long (Int64.ofNat ud)), .second, .val (.ref bu1), .unset, .unset, .unset, .unset] [(.int (Int32.ofNat 0))])) (fun _ k => XS.iload Xu6.here hx rfl (hb hby at_117) rfl k) ?_
    refine own_stepW (T' := Tu6) (g' := (mkF m 120 #[.val (.int x0), .val (.int x1), .val (.long x2), .second, .val (.long x4), .second, .val (.long x6), .second, .val (.long x8), .second, .val (.int (Int32.ofNat 0)), .val (.int (Int32.ofNat ut)), .val (.int (Int32.ofNat ug)), .val (.long (Int64.ofNat ua)), .second, .val (.long (Int64.ofNat ub)), .second, .val (.long (Int64.ofNat uc)), .second, .val (.long (Int64.ofNat ud)), .second, .val (.ref bu1), .unset, .unset, .unset, .unset] [(.int (2 : Int32)), (.int (Int32.ofNat 0))])) (fun _ k => XS.iconst Xu6.here hx rfl (hb hby at_119) k) ?_
    have hcu10 : (Int32.ofNat 0) < (2 : Int32) := by decide
    refine own_stepW (T' := Tu6) (g' := (mkF m 145 #[.val (.int x0), .val (.int x1), .val (.long x2), .second, .val (.long x4), .second, .val (.long x6), .second, .val (.long x8), .second, .val (.int (Int32.ofNat 0)), .val (.int (Int32.ofNat ut)), .val (.int (Int32.ofNat ug)), .val (.long (Int64.ofNat ua)), .second, .val (.long (Int64.ofNat ub)), .second, .val (.long (Int64.ofNat uc)), .second, .val (.long (Int64.ofNat ud)), .second, .val (.ref bu1), .unset, .unset, .unset, .unset] [])) (fun _ k => XS.icmpYes Xu6.here hx rfl (pc0 := 120) (pc' := 145) rfl (hb hby at_120) rfl (tlt hcu10).1 (by decide) (by decide) k) ?_
    exact B145_0 Tu6 _ hu6 bu1 bbu4 kbu4 Zu6 (own_wrc (vs := (([] : List Int32) ++ own_enc 8 0)) ⟨EWu6, FbWu6, FlWu6, EbWu6, VbWu6, gwIu4, gbIu4⟩ (by simp [own_encs])) Xu6 eu6 Nu6
  exact B72_0
set_option maxRecDepth 65536 in
set_option maxHeartbeats 40000000 in
theorem own_road1 (l : Launch) (Z : State) (a0 : Array Value) (hw : ∀ d ∈ tables_1, d.before a0 Z = true) (ws : List Jvm.Cond) (x0 : Int32) (x1 : Int32) (x2 : Int64) (x4 : Int64) (x6 : Int64) (x8 : Int64) (n0 : Nat) {p : Program} {e : Env} {s : State} {m : MethodId} {below : List Frame} {meth : Method} {c : Code} {s₁ : State} (Bd : BodyLoose p l x (head1 (Jvm.Cond.code x code maxLocals ret :: ws) room_1) code maxLocals ret e s m #[(.int x0), (.int x1), (.long x2), (.long x4), (.long x6), (.long x8)] below meth c s₁) (hml : c.maxLocals = 26) (hZ : Z.Warmed39 s.vm) (ut ug ua ub uc ud : Nat) (hT : ut ≤ 32767) (hG : ug ≤ 32767) (hA : ua < 2 ^ 63 - 1) (hB : ub < 2 ^ 63 - 1) (hC : uc < 2 ^ 63) (hD : ud < 2 ^ 63) : ∀ (T0 : State) (locs : List Loc) (hh : Heap), n0 ≤ hh.size → Stand p l e room_1 (s.setVm s.vm) m #[(.int x0), (.int x1), (.long x2), (.long x4), (.long x6), (.long x8)] below meth c T0 locs 0 0 → T0.heap = hh → Fr n0 locs → own_GoesW p e below s (own_Law n0) 32 1408 T0 (mkF m 72 #[.val (.int x0), .val (.int x1), .val (.long x2), .second, .val (.long x4), .second, .val (.long x6), .second, .val (.long x8), .second, .val (.int (Int32.ofNat 1)), .val (.int (Int32.ofNat ut)), .val (.int (Int32.ofNat ug)), .val (.long (Int64.ofNat ua)), .second, .val (.long (Int64.ofNat ub)), .second, .val (.long (Int64.ofNat uc)), .second, .val (.long (Int64.ofNat ud)), .second, .unset, .unset, .unset, .unset, .unset] []) := by
  have hx := Bd.exec
  have hby := Bd.bytes
  have hown : s.vm.findClass "com/example/impatiens/impatiens/itpn/InstancesTickPinLaw" = some m.cls := findClass_of_methodNamed Bd.named
  have wS : ∀ a ∈ Bundle.stringAtoms, a.before a0 Z = true := fun d hd => by
    simp only [Bundle.stringAtoms, List.mem_cons, List.not_mem_nil, or_false] at hd
    rcases hd with rfl | rfl | rfl | rfl | rfl | rfl | rfl
    · exact (hw _ (List.mem_of_getElem? (i := 39) rfl))
    · exact (hw _ (List.mem_of_getElem? (i := 40) rfl))
    · exact (hw _ (List.mem_of_getElem? (i := 15) rfl))
    · exact (hw _ (List.mem_of_getElem? (i := 41) rfl))
    · exact (hw _ (List.mem_of_getElem? (i := 42) rfl))
    · exact (hw _ (List.mem_of_getElem? (i := 43) rfl))
    · exact (hw _ (List.mem_of_getElem? (i := 44) rfl))
  have hS0 : s.Since s.vm 0 := (State.WarmedH.refl s).since _
  have hZs : Z.Warmed39 (s.setVm s.vm).vm := hZ
  have howns : (s.setVm s.vm).vm.findClass "com/example/impatiens/impatiens/itpn/InstancesTickPinLaw" = some m.cls := hown
  have hut : ut < 2 ^ 63 := by omega
  have hut31 : ut < 2 ^ 31 := by omega
  have hug : ug < 2 ^ 63 := by omega
  have hug31 : ug < 2 ^ 31 := by omega
  have hua : ua < 2 ^ 63 := by omega
  have hub : ub < 2 ^ 63 := by omega
  have hua1 : ua + 1 < 2 ^ 63 := by omega
  have hub1 : ub + 1 < 2 ^ 63 := by omega
  have hl1 := own_enc_three ut (by omega)
  have hl2 := own_enc_len 8 ua
  have hl3 := own_enc_len 8 uc
  have hl4 := own_enc_three ug (by omega)
  have hl5 := own_enc_len 8 ub
  have hl6 := own_enc_len 8 ud
  have hl0 := own_enc_one 1 (by decide)
  have hG1 : ∀ g ∈ ([(ut, ua, uc)] : List (Nat × Nat × Nat)), g.1 < 32768 ∧ g.2.1 < 2 ^ 63 ∧ g.2.2 < 2 ^ 63 := by simp; omega
  have hG2 : ∀ g ∈ ([(ut, ua + 1, uc)] : List (Nat × Nat × Nat)), g.1 < 32768 ∧ g.2.1 < 2 ^ 63 ∧ g.2.2 < 2 ^ 63 := by simp; omega
  have hE1 := own_encs_len _ hG1
  have hE2 := own_encs_len _ hG2
  have hV1 : (own_enc 8 1 ++ own_encs ([(ut, ua, uc)] : List (Nat × Nat × Nat))).length ≤ 64 := by rw [List.length_append]; simp only [List.length_cons, List.length_nil] at hE1; omega
  have hV2 : (own_enc 8 1 ++ own_encs ([(ut, ua + 1, uc)] : List (Nat × Nat × Nat))).length ≤ 64 := by rw [List.length_append]; simp only [List.length_cons, List.length_nil] at hE2; omega
  have hA1 : (own_enc 8 1 ++ own_encs ([(ut, ua, uc)] : List (Nat × Nat × Nat))).drop 0 = own_enc 8 ([(ut, ua, uc)] : List (Nat × Nat × Nat)).length ++ (own_encs ([(ut, ua, uc)] : List (Nat × Nat × Nat)) ++ []) := by simp
  have B197_1 : ∀ (T0 : State) (locs : List Loc) (hh : Heap) (w1 i1 w2 b2 r2 : Addr) (k2 : ClassId), n0 ≤ hh.size → own_WR Z n0 hh w2 b2 k2 (own_enc 8 1 ++ own_encs ([(ut, ua + 1, uc)] : List (Nat × Nat × Nat))) → own_RD Z n0 hh r2 b2 k2 0 (own_enc 8 1 ++ own_encs ([(ut, ua + 1, uc)] : List (Nat × Nat × Nat))) → ∀ (vm1 : Vm) (kv : Nat), s.Since vm1 kv → kv ≤ hh.size → Z.Warmed39 (s.setVm vm1).vm → (s.setVm vm1).vm.findClass "com/example/impatiens/impatiens/itpn/InstancesTickPinLaw" = some m.cls → Stand p l e room_1 (s.setVm vm1) m #[(.int x0), (.int x1), (.long x2), (.long x4), (.long x6), (.long x8)] below meth c T0 locs 14 330 → T0.heap = hh → Fr n0 locs → own_GoesW p e below s (own_Law n0) 32 1408 T0 (mkF m 197 #[.val (.int x0), .val (.int x1), .val (.long x2), .second, .val (.long x4), .second, .val (.long x6), .second, .val (.long x8), .second, .val (.int (Int32.ofNat 1)), .val (.int (Int32.ofNat ut)), .val (.int (Int32.ofNat ug)), .val (.long (Int64.ofNat ua)), .second, .val (.long (Int64.ofNat ub)), .second, .val (.long (Int64.ofNat uc)), .second, .val (.long (Int64.ofNat ud)), .second, .val (.ref w1), .val (.ref i1), .val (.ref w2), .val (.ref r2), .unset] []) := by
    intro T0 locs hh w1 i1 w2 b2 r2 k2 Zh hWR hRD vm1 kv hSv hkv hZv hownv X0 e0 N0
    have oqw := hWR
    obtain ⟨Ew, Fbw, Flw, Ebw, Vbw, gww, gbw⟩ := oqw
    have new : w2 ≠ b2 := Ew.neArv Vbw (hw _ (List.mem_of_getElem? (i := 7) rfl))
    have oqr := hRD
    obtain ⟨Er, Fbr, Fpr, Vbr, grr⟩ := oqr
    have ner : r2 ≠ b2 := Er.neArv Vbr (hw _ (List.mem_of_getElem? (i := 27) rfl))
    have nwr : w2 ≠ r2 := Ew.ne Er (by decide)
    refine own_stepW (T' := T0) (g' := (mkF m 199 #[.val (.int x0), .val (.int x1), .val (.long x2), .second, .val (.long x4), .second, .val (.long x6), .second, .val (.long x8), .second, .val (.int (Int32.ofNat 1)), .val (.int (Int32.ofNat ut)), .val (.int (Int32.ofNat ug)), .val (.long (Int64.ofNat ua)), .second, .val (.long (Int64.ofNat ub)), .second, .val (.long (Int64.ofNat uc)), .second, .val (.long (Int64.ofNat ud)), .second, .val (.ref w1), .val (.ref i1), .val (.ref w2), .val (.ref r2), .unset] [(.ref r2)])) (fun _ k => XS.aload X0.here hx rfl (hb hby at_197) rfl rfl k) ?_
    have hat0 : (own_enc 8 1 ++ own_encs ([(ut, ua + 1, uc)] : List (Nat × Nat × Nat))).drop 0 = own_enc 8 1 ++ (own_enc 8 ut ++ (own_enc 8 (ua + 1) ++ (own_enc 8 uc ++ ([]))) : List Int32) := by simp [own_encs]
    obtain ⟨cqu1, kqu1, qu1a, qu1b, qu1c⟩ := isOf hZv e0 Er
    obtain ⟨_, _, ⟨Tu1, Lu1, ku1, nu1⟩, -, Xu1, ⟨Lcu1, hQu1, lu1, yu1, zu1⟩, stu1⟩ := X0.virtualBack hx (y := (⟨"com/example/impatiens/impatiens/statespace/StateReader", "readLong", "()J"⟩ : MethodName)) (z := (⟨"com/example/impatiens/impatiens/statespace/StateReader", "readLong", "()J"⟩ : MethodName)) hownv (mvT hZv (hw _ (List.mem_of_getElem? (i := 94) rfl))) (mvT hZv (hw _ (List.mem_of_getElem? (i := 58) rfl))) (notFace_of_selects (args := #[]) (mvT hZv (hw _ (List.mem_of_getElem? (i := 60) rfl)))) (mvT hZv (hw _ (List.mem_of_getElem? (i := 60) rfl))) (mvT hZv (hw _ (List.mem_of_getElem? (i := 59) rfl))) (by decide) (backOf (W := 0) (rm9 l Z a0 hw [] r2 b2 k2 (own_enc 8 1 ++ own_encs ([(ut, ua + 1, uc)] : List (Nat × Nat × Nat))) (own_enc 8 ut ++ (own_enc 8 (ua + 1) ++ (own_enc 8 uc ++ ([]))) : List Int32) 0 1 hh n0 Zh (by decide) hV2 hat0 ⟨Er, Fbr, Fpr, Vbw, grr⟩) hZv (hw _ (List.mem_of_getElem? (i := 61) rfl)) (hw _ (List.mem_of_getElem? (i := 28) rfl)) (by decide) (by decide)) qu1a qu1c (g := (mkF m 199 #[.val (.int x0), .val (.int x1), .val (.long x2), .second, .val (.long x4), .second, .val (.long x6), .second, .val (.long x8), .second, .val (.int (Int32.ofNat 1)), .val (.int (Int32.ofNat ut)), .val (.int (Int32.ofNat ug)), .val (.long (Int64.ofNat ua)), .second, .val (.long (Int64.ofNat ub)), .second, .val (.long (Int64.ofNat uc)), .second, .val (.long (Int64.ofNat ud)), .second, .val (.ref w1), .val (.ref i1), .val (.ref w2), .val (.ref r2), .unset] [(.ref r2)])) rfl (by rw [hml]; rfl) (Steps.refl _) (argsL := []) (rest := []) (lenOf pd_1 rfl) rfl (by show 2 * 0 + _ ≤ _; exact Nat.le_of_eq rfl) (hb hby at_199) (fun _ _ => ⟨rfl, e0, (by decide : 14 + 0 ≤ _), (by decide : 330 + 0 ≤ _)⟩)
    dsimp only [Pt.U, Pt.locs, Pt.cells, Pt.slots] at Xu1 lu1 yu1 zu1 stu1 hQu1
    subst lu1 yu1 zu1
    generalize eu1 : Tu1.heap = hu1 at hQu1
    obtain ⟨rfl, Nu1q, Ku1, rdu1⟩ := hQu1
    have Zu1 : n0 ≤ hu1.size := Nat.le_trans Zh Ku1.1
    have hku1 := Nat.le_trans hkv Ku1.1
    have qu2 : Fld Z hu1 w2 "com/example/impatiens/impatiens/statespace/StateWriter" "bytes" "[B" (.ref b2) := Fbw.keep Ku1 (ninS nwr nin0)
    have qu3 : Fld Z hu1 w2 "com/example/impatiens/impatiens/statespace/StateWriter" "length" "I" (.int (Int32.ofNat (own_enc 8 1 ++ own_encs ([(ut, ua + 1, uc)] : List (Nat × Nat × Nat))).length)) := Flw.keep Ku1 (ninS nwr nin0)
    have qu4 : Exa Z hu1 w2 "com/example/impatiens/impatiens/statespace/StateWriter" := Ew.keep Ku1
    have qu5 : Exa Z hu1 b2 "[B" := Ebw.keep Ku1
    have qu6 : Exa Z hu1 r2 "com/example/impatiens/impatiens/statespace/StateReader" := Er.keep Ku1
    have qu7 : Arv Z hu1 b2 k2 .byte (64 : Int32) ((own_enc 8 1 ++ own_encs ([(ut, ua + 1, uc)] : List (Nat × Nat × Nat))).map Value.int) (.int (0 : Int32)) := Vbw.keep Ku1 (ninS (Ne.symm ner) nin0)
    have Nu1 := Fr.app N0 Nu1q
    obtain ⟨ERu1, FbRu1, FpRu1, VbRu1, grRu1⟩ := rdu1
    refine own_stepW (T' := Tu1) (g' := (mkF m 202 #[.val (.int x0), .val (.int x1), .val (.long x2), .second, .val (.long x4), .second, .val (.long x6), .second, .val (.long x8), .second, .val (.int (Int32.ofNat 1)), .val (.int (Int32.ofNat ut)), .val (.int (Int32.ofNat ug)), .val (.long (Int64.ofNat ua)), .second, .val (.long (Int64.ofNat ub)), .second, .val (.long (Int64.ofNat uc)), .second, .val (.long (Int64.ofNat ud)), .second, .val (.ref w1), .val (.ref i1), .val (.ref w2), .val (.ref r2), .unset] [(.long (Int64.ofNat 1))])) (fun _ k => stu1.trans k) ?_
    refine own_stepW (T' := Tu1) (g' := (mkF m 204 #[.val (.int x0), .val (.int x1), .val (.long x2), .second, .val (.long x4), .second, .val (.long x6), .second, .val (.long x8), .second, .val (.int (Int32.ofNat 1)), .val (.int (Int32.ofNat ut)), .val (.int (Int32.ofNat ug)), .val (.long (Int64.ofNat ua)), .second, .val (.long (Int64.ofNat ub)), .second, .val (.long (Int64.ofNat uc)), .second, .val (.long (Int64.ofNat ud)), .second, .val (.ref w1), .val (.ref i1), .val (.ref w2), .val (.ref r2), .unset] [(.int (Int32.ofNat 1)), (.long (Int64.ofNat 1))])) (fun _ k => XS.iload Xu1.here hx rfl (hb hby at_202) rfl k) ?_
    refine own_stepW (T' := Tu1) (g' := (mkF m 205 #[.val (.int x0), .val (.int x1), .val (.long x2), .second, .val (.long x4), .second, .val (.long x6), .second, .val (.long x8), .second, .val (.int (Int32.ofNat 1)), .val (.int (Int32.ofNat ut)), .val (.int (Int32.ofNat ug)), .val (.long (Int64.ofNat ua)), .second, .val (.long (Int64.ofNat ub)), .second, .val (.long (Int64.ofNat uc)), .second, .val (.long (Int64.ofNat ud)), .second, .val (.ref w1), .val (.ref i1), .val (.ref w2), .val (.ref r2), .unset] [(.long ((Int32.ofNat 1).toInt64)), (.long (Int64.ofNat 1))])) (fun _ k => XS.i2l Xu1.here hx rfl (hb hby at_204) rfl k) ?_
    refine own_stepW (T' := Tu1) (g' := (mkF m 206 #[.val (.int x0), .val (.int x1), .val (.long x2), .second, .val (.long x4), .second, .val (.long x6), .second, .val (.long x8), .second, .val (.int (Int32.ofNat 1)), .val (.int (Int32.ofNat ut)), .val (.int (Int32.ofNat ug)), .val (.long (Int64.ofNat ua)), .second, .val (.long (Int64.ofNat ub)), .second, .val (.long (Int64.ofNat uc)), .second, .val (.long (Int64.ofNat ud)), .second, .val (.ref w1), .val (.ref i1), .val (.ref w2), .val (.ref r2), .unset] [(.int (lcmpW (Int64.ofNat 1) ((Int32.ofNat 1).toInt64)))])) (fun _ k => XS.lcmp Xu1.here hx rfl (hb hby at_205) rfl k) ?_
    have hcu8 : (lcmpW (Int64.ofNat 1) ((Int32.ofNat 1).toInt64)) = (0 : Int32) := own_cmpeq (own_i2l 1 (by decide)).symm
    refine own_stepW (T' := Tu1) (g' := (mkF m 209 #[.val (.int x0), .val (.int x1), .val (.long x2), .second, .val (.long x4), .second, .val (.long x6), .second, .val (.long x8), .second, .val (.int (Int32.ofNat 1)), .val (.int (Int32.ofNat ut)), .val (.int (Int32.ofNat ug)), .val (.long (Int64.ofNat ua)), .second, .val (.long (Int64.ofNat ub)), .second, .val (.long (Int64.ofNat uc)), .second, .val (.long (Int64.ofNat ud)), .second, .val (.ref w1), .val (.ref i1), .val (.ref w2), .val (.ref r2), .unset] [])) (fun _ k => XS.ifNo Xu1.here hx rfl (hb hby at_206) rfl ((if0 _ _).trans (teq hcu8).2) k) ?_
    refine own_stepW (T' := Tu1) (g' := (mkF m 210 #[.val (.int x0), .val (.int x1), .val (.long x2), .second, .val (.long x4), .second, .val (.long x6), .second, .val (.long x8), .second, .val (.int (Int32.ofNat 1)), .val (.int (Int32.ofNat ut)), .val (.int (Int32.ofNat ug)), .val (.long (Int64.ofNat ua)), .second, .val (.long (Int64.ofNat ub)), .second, .val (.long (Int64.ofNat uc)), .second, .val (.long (Int64.ofNat ud)), .second, .val (.ref w1), .val (.ref i1), .val (.ref w2), .val (.ref r2), .unset] [(.int (1 : Int32))])) (fun _ k => XS.iconst Xu1.here hx rfl (hb hby at_209) k) ?_
    refine own_stepW (T' := Tu1) (g' := (mkF m 214 #[.val (.int x0), .val (.int x1), .val (.long x2), .second, .val (.long x4), .second, .val (.long x6), .second, .val (.long x8), .second, .val (.int (Int32.ofNat 1)), .val (.int (Int32.ofNat ut)), .val (.int (Int32.ofNat ug)), .val (.long (Int64.ofNat ua)), .second, .val (.long (Int64.ofNat ub)), .second, .val (.long (Int64.ofNat uc)), .second, .val (.long (Int64.ofNat ud)), .second, .val (.ref w1), .val (.ref i1), .val (.ref w2), .val (.ref r2), .unset] [(.int (1 : Int32))])) (fun _ k => XS.goto Xu1.here hx rfl (pc0 := 210) (pc' := 214) rfl (hb hby at_210) (by decide) (by decide) k) ?_
    refine own_stepW (T' := Tu1) (g' := (mkF m 216 #[.val (.int x0), .val (.int x1), .val (.long x2), .second, .val (.long x4), .second, .val (.long x6), .second, .val (.long x8), .second, .val (.int (Int32.ofNat 1)), .val (.int (Int32.ofNat ut)), .val (.int (Int32.ofNat ug)), .val (.long (Int64.ofNat ua)), .second, .val (.long (Int64.ofNat ub)), .second, .val (.long (Int64.ofNat uc)), .second, .val (.long (Int64.ofNat ud)), .second, .val (.ref w1), .val (.ref i1), .val (.ref w2), .val (.ref r2), .val (.int (1 : Int32))] [])) (fun _ k => XS.istore Xu1.here hx rfl (hb hby at_214) rfl (l' := #[.val (.int x0), .val (.int x1), .val (.long x2), .second, .val (.long x4), .second, .val (.long x6), .second, .val (.long x8), .second, .val (.int (Int32.ofNat 1)), .val (.int (Int32.ofNat ut)), .val (.int (Int32.ofNat ug)), .val (.long (Int64.ofNat ua)), .second, .val (.long (Int64.ofNat ub)), .second, .val (.long (Int64.ofNat uc)), .second, .val (.long (Int64.ofNat ud)), .second, .val (.ref w1), .val (.ref i1), .val (.ref w2), .val (.ref r2), .val (.int (1 : Int32))]) rfl k) ?_
    refine own_stepW (T' := Tu1) (g' := (mkF m 218 #[.val (.int x0), .val (.int x1), .val (.long x2), .second, .val (.long x4), .second, .val (.long x6), .second, .val (.long x8), .second, .val (.int (Int32.ofNat 1)), .val (.int (Int32.ofNat ut)), .val (.int (Int32.ofNat ug)), .val (.long (Int64.ofNat ua)), .second, .val (.long (Int64.ofNat ub)), .second, .val (.long (Int64.ofNat uc)), .second, .val (.long (Int64.ofNat ud)), .second, .val (.ref w1), .val (.ref i1), .val (.ref w2), .val (.ref r2), .val (.int (1 : Int32))] [(.int (1 : Int32))])) (fun _ k => XS.iload Xu1.here hx rfl (hb hby at_216) rfl k) ?_
    have hcu9 : ¬ ((1 : Int32) = (0 : Int32)) := by decide
    refine own_stepW (T' := Tu1) (g' := (mkF m 221 #[.val (.int x0), .val (.int x1), .val (.long x2), .second, .val (.long x4), .second, .val (.long x6), .second, .val (.long x8), .second, .val (.int (Int32.ofNat 1)), .val (.int (Int32.ofNat ut)), .val (.int (Int32.ofNat ug)), .val (.long (Int64.ofNat ua)), .second, .val (.long (Int64.ofNat ub)), .second, .val (.long (Int64.ofNat uc)), .second, .val (.long (Int64.ofNat ud)), .second, .val (.ref w1), .val (.ref i1), .val (.ref w2), .val (.ref r2), .val (.int (1 : Int32))] [])) (fun _ k => XS.ifNo Xu1.here hx rfl (hb hby at_218) rfl ((if0 _ _).trans (feq hcu9).1) k) ?_
    refine own_stepW (T' := Tu1) (g' := (mkF m 223 #[.val (.int x0), .val (.int x1), .val (.long x2), .second, .val (.long x4), .second, .val (.long x6), .second, .val (.long x8), .second, .val (.int (Int32.ofNat 1)), .val (.int (Int32.ofNat ut)), .val (.int (Int32.ofNat ug)), .val (.long (Int64.ofNat ua)), .second, .val (.long (Int64.ofNat ub)), .second, .val (.long (Int64.ofNat uc)), .second, .val (.long (Int64.ofNat ud)), .second, .val (.ref w1), .val (.ref i1), .val (.ref w2), .val (.ref r2), .val (.int (1 : Int32))] [(.int (Int32.ofNat 1))])) (fun _ k => XS.iload Xu1.here hx rfl (hb hby at_221) rfl k) ?_
    refine own_stepW (T' := Tu1) (g' := (mkF m 224 #[.val (.int x0), .val (.int x1), .val (.long x2), .second, .val (.long x4), .second, .val (.long x6), .second, .val (.long x8), .second, .val (.int (Int32.ofNat 1)), .val (.int (Int32.ofNat ut)), .val (.int (Int32.ofNat ug)), .val (.long (Int64.ofNat ua)), .second, .val (.long (Int64.ofNat ub)), .second, .val (.long (Int64.ofNat uc)), .second, .val (.long (Int64.ofNat ud)), .second, .val (.ref w1), .val (.ref i1), .val (.ref w2), .val (.ref r2), .val (.int (1 : Int32))] [(.int (1 : Int32)), (.int (Int32.ofNat 1))])) (fun _ k => XS.iconst Xu1.here hx rfl (hb hby at_223) k) ?_
    have hcu10 : ¬ ((Int32.ofNat 1) < (1 : Int32)) := by decide
    refine own_stepW (T' := Tu1) (g' := (mkF m 227 #[.val (.int x0), .val (.int x1), .val (.long x2), .second, .val (.long x4), .second, .val (.long x6), .second, .val (.long x8), .second, .val (.int (Int32.ofNat 1)), .val (.int (Int32.ofNat ut)), .val (.int (Int32.ofNat ug)), .val (.long (Int64.ofNat ua)), .second, .val (.long (Int64.ofNat ub)), .second, .val (.long (Int64.ofNat uc)), .second, .val (.long (Int64.ofNat ud)), .second, .val (.ref w1), .val (.ref i1), .val (.ref w2), .val (.ref r2), .val (.int (1 : Int32))] [])) (fun _ k => XS.icmpNo Xu1.here hx rfl (hb hby at_224) rfl (flt hcu10).1 k) ?_
    refine own_stepW (T' := Tu1) (g' := (mkF m 229 #[.val (.int x0), .val (.int x1), .val (.long x2), .second, .val (.long x4), .second, .val (.long x6), .second, .val (.long x8), .second, .val (.int (Int32.ofNat 1)), .val (.int (Int32.ofNat ut)), .val (.int (Int32.ofNat ug)), .val (.long (Int64.ofNat ua)), .second, .val (.long (Int64.ofNat ub)), .second, .val (.long (Int64.ofNat uc)), .second, .val (.long (Int64.ofNat ud)), .second, .val (.ref w1), .val (.ref i1), .val (.ref w2), .val (.ref r2), .val (.int (1 : Int32))] [(.ref r2)])) (fun _ k => XS.aload Xu1.here hx rfl (hb hby at_227) rfl rfl k) ?_
    have hat1 : (own_enc 8 1 ++ own_encs ([(ut, ua + 1, uc)] : List (Nat × Nat × Nat))).drop (0 + (own_enc 8 1).length) = own_enc 8 ut ++ (own_enc 8 (ua + 1) ++ (own_enc 8 uc ++ ([])) : List Int32) := own_drop hat0
    obtain ⟨cqu11, kqu11, qu11a, qu11b, qu11c⟩ := isOf hZv eu1 ERu1
    obtain ⟨_, _, ⟨Tu11, Lu11, ku11, nu11⟩, -, Xu11, ⟨Lcu11, hQu11, lu11, yu11, zu11⟩, stu11⟩ := Xu1.virtualBack hx (y := (⟨"com/example/impatiens/impatiens/statespace/StateReader", "readLong", "()J"⟩ : MethodName)) (z := (⟨"com/example/impatiens/impatiens/statespace/StateReader", "readLong", "()J"⟩ : MethodName)) hownv (mvT hZv (hw _ (List.mem_of_getElem? (i := 94) rfl))) (mvT hZv (hw _ (List.mem_of_getElem? (i := 58) rfl))) (notFace_of_selects (args := #[]) (mvT hZv (hw _ (List.mem_of_getElem? (i := 60) rfl)))) (mvT hZv (hw _ (List.mem_of_getElem? (i := 60) rfl))) (mvT hZv (hw _ (List.mem_of_getElem? (i := 59) rfl))) (by decide) (backOf (W := 0) (rm9 l Z a0 hw [] r2 b2 k2 (own_enc 8 1 ++ own_encs ([(ut, ua + 1, uc)] : List (Nat × Nat × Nat))) (own_enc 8 (ua + 1) ++ (own_enc 8 uc ++ ([])) : List Int32) (0 + (own_enc 8 1).length) ut hu1 n0 Zu1 hut hV2 hat1 ⟨ERu1, FbRu1, FpRu1, qu7, grr⟩) hZv (hw _ (List.mem_of_getElem? (i := 61) rfl)) (hw _ (List.mem_of_getElem? (i := 28) rfl)) (by decide) (by decide)) qu11a qu11c (g := (mkF m 229 #[.val (.int x0), .val (.int x1), .val (.long x2), .second, .val (.long x4), .second, .val (.long x6), .second, .val (.long x8), .second, .val (.int (Int32.ofNat 1)), .val (.int (Int32.ofNat ut)), .val (.int (Int32.ofNat ug)), .val (.long (Int64.ofNat ua)), .second, .val (.long (Int64.ofNat ub)), .second, .val (.long (Int64.ofNat uc)), .second, .val (.long (Int64.ofNat ud)), .second, .val (.ref w1), .val (.ref i1), .val (.ref w2), .val (.ref r2), .val (.int (1 : Int32))] [(.ref r2)])) rfl (by rw [hml]; rfl) (Steps.refl _) (argsL := []) (rest := []) (lenOf pd_1 rfl) rfl (by show 2 * 0 + _ ≤ _; exact Nat.le_of_eq rfl) (hb hby at_229) (fun _ _ => ⟨rfl, eu1, (by decide : 14 + 0 ≤ _), (by decide : 330 + 0 ≤ _)⟩)
    dsimp only [Pt.U, Pt.locs, Pt.cells, Pt.slots] at Xu11 lu11 yu11 zu11 stu11 hQu11
    subst lu11 yu11 zu11
    generalize eu11 : Tu11.heap = hu11 at hQu11
    obtain ⟨rfl, Nu11q, Ku11, rdu11⟩ := hQu11
    have Zu11 : n0 ≤ hu11.size := Nat.le_trans Zu1 Ku11.1
    have hku11 := Nat.le_trans hku1 Ku11.1
    have qu12 : Fld Z hu11 w2 "com/example/impatiens/impatiens/statespace/StateWriter" "bytes" "[B" (.ref b2) := qu2.keep Ku11 (ninS nwr nin0)
    have qu13 : Fld Z hu11 w2 "com/example/impatiens/impatiens/statespace/StateWriter" "length" "I" (.int (Int32.ofNat (own_enc 8 1 ++ own_encs ([(ut, ua + 1, uc)] : List (Nat × Nat × Nat))).length)) := qu3.keep Ku11 (ninS nwr nin0)
    have qu14 : Exa Z hu11 w2 "com/example/impatiens/impatiens/statespace/StateWriter" := qu4.keep Ku11
    have qu15 : Exa Z hu11 b2 "[B" := qu5.keep Ku11
    have qu16 : Exa Z hu11 r2 "com/example/impatiens/impatiens/statespace/StateReader" := ERu1.keep Ku11
    have qu17 : Arv Z hu11 b2 k2 .byte (64 : Int32) ((own_enc 8 1 ++ own_encs ([(ut, ua + 1, uc)] : List (Nat × Nat × Nat))).map Value.int) (.int (0 : Int32)) := qu7.keep Ku11 (ninS (Ne.symm ner) nin0)
    have Nu11 := Fr.app Nu1 Nu11q
    obtain ⟨ERu11, FbRu11, FpRu11, VbRu11, grRu11⟩ := rdu11
    refine own_stepW (T' := Tu11) (g' := (mkF m 232 #[.val (.int x0), .val (.int x1), .val (.long x2), .second, .val (.long x4), .second, .val (.long x6), .second, .val (.long x8), .second, .val (.int (Int32.ofNat 1)), .val (.int (Int32.ofNat ut)), .val (.int (Int32.ofNat ug)), .val (.long (Int64.ofNat ua)), .second, .val (.long (Int64.ofNat ub)), .second, .val (.long (Int64.ofNat uc)), .second, .val (.long (Int64.ofNat ud)), .second, .val (.ref w1), .val (.ref i1), .val (.ref w2), .val (.ref r2), .val (.int (1 : Int32))] [(.long (Int64.ofNat ut))])) (fun _ k => stu11.trans k) ?_
    refine own_stepW (T' := Tu11) (g' := (mkF m 234 #[.val (.int x0), .val (.int x1), .val (.long x2), .second, .val (.long x4), .second, .val (.long x6), .second, .val (.long x8), .second, .val (.int (Int32.ofNat 1)), .val (.int (Int32.ofNat ut)), .val (.int (Int32.ofNat ug)), .val (.long (Int64.ofNat ua)), .second, .val (.long (Int64.ofNat ub)), .second, .val (.long (Int64.ofNat uc)), .second, .val (.long (Int64.ofNat ud)), .second, .val (.ref w1), .val (.ref i1), .val (.ref w2), .val (.ref r2), .val (.int (1 : Int32))] [(.int (Int32.ofNat ut)), (.long (Int64.ofNat ut))])) (fun _ k => XS.iload Xu11.here hx rfl (hb hby at_232) rfl k) ?_
    refine own_stepW (T' := Tu11) (g' := (mkF m 235 #[.val (.int x0), .val (.int x1), .val (.long x2), .second, .val (.long x4), .second, .val (.long x6), .second, .val (.long x8), .second, .val (.int (Int32.ofNat 1)), .val (.int (Int32.ofNat ut)), .val (.int (Int32.ofNat ug)), .val (.long (Int64.ofNat ua)), .second, .val (.long (Int64.ofNat ub)), .second, .val (.long (Int64.ofNat uc)), .second, .val (.long (Int64.ofNat ud)), .second, .val (.ref w1), .val (.ref i1), .val (.ref w2), .val (.ref r2), .val (.int (1 : Int32))] [(.long ((Int32.ofNat ut).toInt64)), (.long (Int64.ofNat ut))])) (fun _ k => XS.i2l Xu11.here hx rfl (hb hby at_234) rfl k) ?_
    refine own_stepW (T' := Tu11) (g' := (mkF m 236 #[.val (.int x0), .val (.int x1), .val (.long x2), .second, .val (.long x4), .second, .val (.long x6), .second, .val (.long x8), .second, .val (.int (Int32.ofNat 1)), .val (.int (Int32.ofNat ut)), .val (.int (Int32.ofNat ug)), .val (.long (Int64.ofNat ua)), .second, .val (.long (Int64.ofNat ub)), .second, .val (.long (Int64.ofNat uc)), .second, .val (.long (Int64.ofNat ud)), .second, .val (.ref w1), .val (.ref i1), .val (.ref w2), .val (.ref r2), .val (.int (1 : Int32))] [(.int (lcmpW (Int64.ofNat ut) ((Int32.ofNat ut).toInt64)))])) (fun _ k => XS.lcmp Xu11.here hx rfl (hb hby at_235) rfl k) ?_
    have hcu18 : (lcmpW (Int64.ofNat ut) ((Int32.ofNat ut).toInt64)) = (0 : Int32) := own_cmpeq (own_i2l ut hut31).symm
    refine own_stepW (T' := Tu11) (g' := (mkF m 239 #[.val (.int x0), .val (.int x1), .val (.long x2), .second, .val (.long x4), .second, .val (.long x6), .second, .val (.long x8), .second, .val (.int (Int32.ofNat 1)), .val (.int (Int32.ofNat ut)), .val (.int (Int32.ofNat ug)), .val (.long (Int64.ofNat ua)), .second, .val (.long (Int64.ofNat ub)), .second, .val (.long (Int64.ofNat uc)), .second, .val (.long (Int64.ofNat ud)), .second, .val (.ref w1), .val (.ref i1), .val (.ref w2), .val (.ref r2), .val (.int (1 : Int32))] [])) (fun _ k => XS.ifNo Xu11.here hx rfl (hb hby at_236) rfl ((if0 _ _).trans (teq hcu18).2) k) ?_
    refine own_stepW (T' := Tu11) (g' := (mkF m 241 #[.val (.int x0), .val (.int x1), .val (.long x2), .second, .val (.long x4), .second, .val (.long x6), .second, .val (.long x8), .second, .val (.int (Int32.ofNat 1)), .val (.int (Int32.ofNat ut)), .val (.int (Int32.ofNat ug)), .val (.long (Int64.ofNat ua)), .second, .val (.long (Int64.ofNat ub)), .second, .val (.long (Int64.ofNat uc)), .second, .val (.long (Int64.ofNat ud)), .second, .val (.ref w1), .val (.ref i1), .val (.ref w2), .val (.ref r2), .val (.int (1 : Int32))] [(.ref r2)])) (fun _ k => XS.aload Xu11.here hx rfl (hb hby at_239) rfl rfl k) ?_
    have hat2 : (own_enc 8 1 ++ own_encs ([(ut, ua + 1, uc)] : List (Nat × Nat × Nat))).drop ((0 + (own_enc 8 1).length) + (own_enc 8 ut).length) = own_enc 8 (ua + 1) ++ (own_enc 8 uc ++ ([]) : List Int32) := own_drop hat1
    obtain ⟨cqu19, kqu19, qu19a, qu19b, qu19c⟩ := isOf hZv eu11 ERu11
    obtain ⟨_, _, ⟨Tu19, Lu19, ku19, nu19⟩, -, Xu19, ⟨Lcu19, hQu19, lu19, yu19, zu19⟩, stu19⟩ := Xu11.virtualBack hx (y := (⟨"com/example/impatiens/impatiens/statespace/StateReader", "readLong", "()J"⟩ : MethodName)) (z := (⟨"com/example/impatiens/impatiens/statespace/StateReader", "readLong", "()J"⟩ : MethodName)) hownv (mvT hZv (hw _ (List.mem_of_getElem? (i := 94) rfl))) (mvT hZv (hw _ (List.mem_of_getElem? (i := 58) rfl))) (notFace_of_selects (args := #[]) (mvT hZv (hw _ (List.mem_of_getElem? (i := 60) rfl)))) (mvT hZv (hw _ (List.mem_of_getElem? (i := 60) rfl))) (mvT hZv (hw _ (List.mem_of_getElem? (i := 59) rfl))) (by decide) (backOf (W := 0) (rm9 l Z a0 hw [] r2 b2 k2 (own_enc 8 1 ++ own_encs ([(ut, ua + 1, uc)] : List (Nat × Nat × Nat))) (own_enc 8 uc ++ ([]) : List Int32) ((0 + (own_enc 8 1).length) + (own_enc 8 ut).length) (ua + 1) hu11 n0 Zu11 hua1 hV2 hat2 ⟨ERu11, FbRu11, FpRu11, qu17, grr⟩) hZv (hw _ (List.mem_of_getElem? (i := 61) rfl)) (hw _ (List.mem_of_getElem? (i := 28) rfl)) (by decide) (by decide)) qu19a qu19c (g := (mkF m 241 #[.val (.int x0), .val (.int x1), .val (.long x2), .second, .val (.long x4), .second, .val (.long x6), .second, .val (.long x8), .second, .val (.int (Int32.ofNat 1)), .val (.int (Int32.ofNat ut)), .val (.int (Int32.ofNat ug)), .val (.long (Int64.ofNat ua)), .second, .val (.long (Int64.ofNat ub)), .second, .val (.long (Int64.ofNat uc)), .second, .val (.long (Int64.ofNat ud)), .second, .val (.ref w1), .val (.ref i1), .val (.ref w2), .val (.ref r2), .val (.int (1 : Int32))] [(.ref r2)])) rfl (by rw [hml]; rfl) (Steps.refl _) (argsL := []) (rest := []) (lenOf pd_1 rfl) rfl (by show 2 * 0 + _ ≤ _; exact Nat.le_of_eq rfl) (hb hby at_241) (fun _ _ => ⟨rfl, eu11, (by decide : 14 + 0 ≤ _), (by decide : 330 + 0 ≤ _)⟩)
    dsimp only [Pt.U, Pt.locs, Pt.cells, Pt.slots] at Xu19 lu19 yu19 zu19 stu19 hQu19
    subst lu19 yu19 zu19
    generalize eu19 : Tu19.heap = hu19 at hQu19
    obtain ⟨rfl, Nu19q, Ku19, rdu19⟩ := hQu19
    have Zu19 : n0 ≤ hu19.size := Nat.le_trans Zu11 Ku19.1
    have hku19 := Nat.le_trans hku11 Ku19.1
    have qu20 : Fld Z hu19 w2 "com/example/impatiens/impatiens/statespace/StateWriter" "bytes" "[B" (.ref b2) := qu12.keep Ku19 (ninS nwr nin0)
    have qu21 : Fld Z hu19 w2 "com/example/impatiens/impatiens/statespace/StateWriter" "length" "I" (.int (Int32.ofNat (own_enc 8 1 ++ own_encs ([(ut, ua + 1, uc)] : List (Nat × Nat × Nat))).length)) := qu13.keep Ku19 (ninS nwr nin0)
    have qu22 : Exa Z hu19 w2 "com/example/impatiens/impatiens/statespace/StateWriter" := qu14.keep Ku19
    have qu23 : Exa Z hu19 b2 "[B" := qu15.keep Ku19
    have qu24 : Exa Z hu19 r2 "com/example/impatiens/impatiens/statespace/StateReader" := ERu11.keep Ku19
    have qu25 : Arv Z hu19 b2 k2 .byte (64 : Int32) ((own_enc 8 1 ++ own_encs ([(ut, ua + 1, uc)] : List (Nat × Nat × Nat))).map Value.int) (.int (0 : Int32)) := qu17.keep Ku19 (ninS (Ne.symm ner) nin0)
    have Nu19 := Fr.app Nu11 Nu19q
    obtain ⟨ERu19, FbRu19, FpRu19, VbRu19, grRu19⟩ := rdu19
    refine own_stepW (T' := Tu19) (g' := (mkF m 244 #[.val (.int x0), .val (.int x1), .val (.long x2), .second, .val (.long x4), .second, .val (.long x6), .second, .val (.long x8), .second, .val (.int (Int32.ofNat 1)), .val (.int (Int32.ofNat ut)), .val (.int (Int32.ofNat ug)), .val (.long (Int64.ofNat ua)), .second, .val (.long (Int64.ofNat ub)), .second, .val (.long (Int64.ofNat uc)), .second, .val (.long (Int64.ofNat ud)), .second, .val (.ref w1), .val (.ref i1), .val (.ref w2), .val (.ref r2), .val (.int (1 : Int32))] [(.long (Int64.ofNat (ua + 1)))])) (fun _ k => stu19.trans k) ?_
    refine own_stepW (T' := Tu19) (g' := (mkF m 246 #[.val (.int x0), .val (.int x1), .val (.long x2), .second, .val (.long x4), .second, .val (.long x6), .second, .val (.long x8), .second, .val (.int (Int32.ofNat 1)), .val (.int (Int32.ofNat ut)), .val (.int (Int32.ofNat ug)), .val (.long (Int64.ofNat ua)), .second, .val (.long (Int64.ofNat ub)), .second, .val (.long (Int64.ofNat uc)), .second, .val (.long (Int64.ofNat ud)), .second, .val (.ref w1), .val (.ref i1), .val (.ref w2), .val (.ref r2), .val (.int (1 : Int32))] [(.long (Int64.ofNat ua)), (.long (Int64.ofNat (ua + 1)))])) (fun _ k => XS.lload Xu19.here hx rfl (hb hby at_244) rfl k) ?_
    refine own_stepW (T' := Tu19) (g' := (mkF m 247 #[.val (.int x0), .val (.int x1), .val (.long x2), .second, .val (.long x4), .second, .val (.long x6), .second, .val (.long x8), .second, .val (.int (Int32.ofNat 1)), .val (.int (Int32.ofNat ut)), .val (.int (Int32.ofNat ug)), .val (.long (Int64.ofNat ua)), .second, .val (.long (Int64.ofNat ub)), .second, .val (.long (Int64.ofNat uc)), .second, .val (.long (Int64.ofNat ud)), .second, .val (.ref w1), .val (.ref i1), .val (.ref w2), .val (.ref r2), .val (.int (1 : Int32))] [(.long (1 : Int64)), (.long (Int64.ofNat ua)), (.long (Int64.ofNat (ua + 1)))])) (fun _ k => XS.lconst Xu19.here hx rfl (hb hby at_246) k) ?_
    refine own_stepW (T' := Tu19) (g' := (mkF m 248 #[.val (.int x0), .val (.int x1), .val (.long x2), .second, .val (.long x4), .second, .val (.long x6), .second, .val (.long x8), .second, .val (.int (Int32.ofNat 1)), .val (.int (Int32.ofNat ut)), .val (.int (Int32.ofNat ug)), .val (.long (Int64.ofNat ua)), .second, .val (.long (Int64.ofNat ub)), .second, .val (.long (Int64.ofNat uc)), .second, .val (.long (Int64.ofNat ud)), .second, .val (.ref w1), .val (.ref i1), .val (.ref w2), .val (.ref r2), .val (.int (1 : Int32))] [(.long ((Int64.ofNat ua) + (1 : Int64))), (.long (Int64.ofNat (ua + 1)))])) (fun _ k => XS.ladd Xu19.here hx rfl (hb hby at_247) rfl k) ?_
    refine own_stepW (T' := Tu19) (g' := (mkF m 249 #[.val (.int x0), .val (.int x1), .val (.long x2), .second, .val (.long x4), .second, .val (.long x6), .second, .val (.long x8), .second, .val (.int (Int32.ofNat 1)), .val (.int (Int32.ofNat ut)), .val (.int (Int32.ofNat ug)), .val (.long (Int64.ofNat ua)), .second, .val (.long (Int64.ofNat ub)), .second, .val (.long (Int64.ofNat uc)), .second, .val (.long (Int64.ofNat ud)), .second, .val (.ref w1), .val (.ref i1), .val (.ref w2), .val (.ref r2), .val (.int (1 : Int32))] [(.int (lcmpW (Int64.ofNat (ua + 1)) ((Int64.ofNat ua) + (1 : Int64))))])) (fun _ k => XS.lcmp Xu19.here hx rfl (hb hby at_248) rfl k) ?_
    have hcu26 : (lcmpW (Int64.ofNat (ua + 1)) ((Int64.ofNat ua) + (1 : Int64))) = (0 : Int32) := own_cmpeq (own_succ64 ua).symm
    refine own_stepW (T' := Tu19) (g' := (mkF m 252 #[.val (.int x0), .val (.int x1), .val (.long x2), .second, .val (.long x4), .second, .val (.long x6), .second, .val (.long x8), .second, .val (.int (Int32.ofNat 1)), .val (.int (Int32.ofNat ut)), .val (.int (Int32.ofNat ug)), .val (.long (Int64.ofNat ua)), .second, .val (.long (Int64.ofNat ub)), .second, .val (.long (Int64.ofNat uc)), .second, .val (.long (Int64.ofNat ud)), .second, .val (.ref w1), .val (.ref i1), .val (.ref w2), .val (.ref r2), .val (.int (1 : Int32))] [])) (fun _ k => XS.ifNo Xu19.here hx rfl (hb hby at_249) rfl ((if0 _ _).trans (teq hcu26).2) k) ?_
    refine own_stepW (T' := Tu19) (g' := (mkF m 254 #[.val (.int x0), .val (.int x1), .val (.long x2), .second, .val (.long x4), .second, .val (.long x6), .second, .val (.long x8), .second, .val (.int (Int32.ofNat 1)), .val (.int (Int32.ofNat ut)), .val (.int (Int32.ofNat ug)), .val (.long (Int64.ofNat ua)), .second, .val (.long (Int64.ofNat ub)), .second, .val (.long (Int64.ofNat uc)), .second, .val (.long (Int64.ofNat ud)), .second, .val (.ref w1), .val (.ref i1), .val (.ref w2), .val (.ref r2), .val (.int (1 : Int32))] [(.ref r2)])) (fun _ k => XS.aload Xu19.here hx rfl (hb hby at_252) rfl rfl k) ?_
    have hat3 : (own_enc 8 1 ++ own_encs ([(ut, ua + 1, uc)] : List (Nat × Nat × Nat))).drop (((0 + (own_enc 8 1).length) + (own_enc 8 ut).length) + (own_enc 8 (ua + 1)).length) = own_enc 8 uc ++ ([] : List Int32) := own_drop hat2
    obtain ⟨cqu27, kqu27, qu27a, qu27b, qu27c⟩ := isOf hZv eu19 ERu19
    obtain ⟨_, _, ⟨Tu27, Lu27, ku27, nu27⟩, -, Xu27, ⟨Lcu27, hQu27, lu27, yu27, zu27⟩, stu27⟩ := Xu19.virtualBack hx (y := (⟨"com/example/impatiens/impatiens/statespace/StateReader", "readLong", "()J"⟩ : MethodName)) (z := (⟨"com/example/impatiens/impatiens/statespace/StateReader", "readLong", "()J"⟩ : MethodName)) hownv (mvT hZv (hw _ (List.mem_of_getElem? (i := 94) rfl))) (mvT hZv (hw _ (List.mem_of_getElem? (i := 58) rfl))) (notFace_of_selects (args := #[]) (mvT hZv (hw _ (List.mem_of_getElem? (i := 60) rfl)))) (mvT hZv (hw _ (List.mem_of_getElem? (i := 60) rfl))) (mvT hZv (hw _ (List.mem_of_getElem? (i := 59) rfl))) (by decide) (backOf (W := 0) (rm9 l Z a0 hw [] r2 b2 k2 (own_enc 8 1 ++ own_encs ([(ut, ua + 1, uc)] : List (Nat × Nat × Nat))) ([] : List Int32) (((0 + (own_enc 8 1).length) + (own_enc 8 ut).length) + (own_enc 8 (ua + 1)).length) uc hu19 n0 Zu19 hC hV2 hat3 ⟨ERu19, FbRu19, FpRu19, qu25, grr⟩) hZv (hw _ (List.mem_of_getElem? (i := 61) rfl)) (hw _ (List.mem_of_getElem? (i := 28) rfl)) (by decide) (by decide)) qu27a qu27c (g := (mkF m 254 #[.val (.int x0), .val (.int x1), .val (.long x2), .second, .val (.long x4), .second, .val (.long x6), .second, .val (.long x8), .second, .val (.int (Int32.ofNat 1)), .val (.int (Int32.ofNat ut)), .val (.int (Int32.ofNat ug)), .val (.long (Int64.ofNat ua)), .second, .val (.long (Int64.ofNat ub)), .second, .val (.long (Int64.ofNat uc)), .second, .val (.long (Int64.ofNat ud)), .second, .val (.ref w1), .val (.ref i1), .val (.ref w2), .val (.ref r2), .val (.int (1 : Int32))] [(.ref r2)])) rfl (by rw [hml]; rfl) (Steps.refl _) (argsL := []) (rest := []) (lenOf pd_1 rfl) rfl (by show 2 * 0 + _ ≤ _; exact Nat.le_of_eq rfl) (hb hby at_254) (fun _ _ => ⟨rfl, eu19, (by decide : 14 + 0 ≤ _), (by decide : 330 + 0 ≤ _)⟩)
    dsimp only [Pt.U, Pt.locs, Pt.cells, Pt.slots] at Xu27 lu27 yu27 zu27 stu27 hQu27
    subst lu27 yu27 zu27
    generalize eu27 : Tu27.heap = hu27 at hQu27
    obtain ⟨rfl, Nu27q, Ku27, rdu27⟩ := hQu27
    have Zu27 : n0 ≤ hu27.size := Nat.le_trans Zu19 Ku27.1
    have hku27 := Nat.le_trans hku19 Ku27.1
    have qu28 : Fld Z hu27 w2 "com/example/impatiens/impatiens/statespace/StateWriter" "bytes" "[B" (.ref b2) := qu20.keep Ku27 (ninS nwr nin0)
    have qu29 : Fld Z hu27 w2 "com/example/impatiens/impatiens/statespace/StateWriter" "length" "I" (.int (Int32.ofNat (own_enc 8 1 ++ own_encs ([(ut, ua + 1, uc)] : List (Nat × Nat × Nat))).length)) := qu21.keep Ku27 (ninS nwr nin0)
    have qu30 : Exa Z hu27 w2 "com/example/impatiens/impatiens/statespace/StateWriter" := qu22.keep Ku27
    have qu31 : Exa Z hu27 b2 "[B" := qu23.keep Ku27
    have qu32 : Exa Z hu27 r2 "com/example/impatiens/impatiens/statespace/StateReader" := ERu19.keep Ku27
    have qu33 : Arv Z hu27 b2 k2 .byte (64 : Int32) ((own_enc 8 1 ++ own_encs ([(ut, ua + 1, uc)] : List (Nat × Nat × Nat))).map Value.int) (.int (0 : Int32)) := qu25.keep Ku27 (ninS (Ne.symm ner) nin0)
    have Nu27 := Fr.app Nu19 Nu27q
    obtain ⟨ERu27, FbRu27, FpRu27, VbRu27, grRu27⟩ := rdu27
    refine own_stepW (T' := Tu27) (g' := (mkF m 257 #[.val (.int x0), .val (.int x1), .val (.long x2), .second, .val (.long x4), .second, .val (.long x6), .second, .val (.long x8), .second, .val (.int (Int32.ofNat 1)), .val (.int (Int32.ofNat ut)), .val (.int (Int32.ofNat ug)), .val (.long (Int64.ofNat ua)), .second, .val (.long (Int64.ofNat ub)), .second, .val (.long (Int64.ofNat uc)), .second, .val (.long (Int64.ofNat ud)), .second, .val (.ref w1), .val (.ref i1), .val (.ref w2), .val (.ref r2), .val (.int (1 : Int32))] [(.long (Int64.ofNat uc))])) (fun _ k => stu27.trans k) ?_
    refine own_stepW (T' := Tu27) (g' := (mkF m 259 #[.val (.int x0), .val (.int x1), .val (.long x2), .second, .val (.long x4), .second, .val (.long x6), .second, .val (.long x8), .second, .val (.int (Int32.ofNat 1)), .val (.int (Int32.ofNat ut)), .val (.int (Int32.ofNat ug)), .val (.long (Int64.ofNat ua)), .second, .val (.long (Int64.ofNat ub)), .second, .val (.long (Int64.ofNat uc)), .second, .val (.long (Int64.ofNat ud)), .second, .val (.ref w1), .val (.ref i1), .val (.ref w2), .val (.ref r2), .val (.int (1 : Int32))] [(.long (Int64.ofNat uc)), (.long (Int64.ofNat uc))])) (fun _ k => XS.lload Xu27.here hx rfl (hb hby at_257) rfl k) ?_
    refine own_stepW (T' := Tu27) (g' := (mkF m 260 #[.val (.int x0), .val (.int x1), .val (.long x2), .second, .val (.long x4), .second, .val (.long x6), .second, .val (.long x8), .second, .val (.int (Int32.ofNat 1)), .val (.int (Int32.ofNat ut)), .val (.int (Int32.ofNat ug)), .val (.long (Int64.ofNat ua)), .second, .val (.long (Int64.ofNat ub)), .second, .val (.long (Int64.ofNat uc)), .second, .val (.long (Int64.ofNat ud)), .second, .val (.ref w1), .val (.ref i1), .val (.ref w2), .val (.ref r2), .val (.int (1 : Int32))] [(.int (lcmpW (Int64.ofNat uc) (Int64.ofNat uc)))])) (fun _ k => XS.lcmp Xu27.here hx rfl (hb hby at_259) rfl k) ?_
    have hcu34 : (lcmpW (Int64.ofNat uc) (Int64.ofNat uc)) = (0 : Int32) := own_cmpeq rfl
    refine own_stepW (T' := Tu27) (g' := (mkF m 263 #[.val (.int x0), .val (.int x1), .val (.long x2), .second, .val (.long x4), .second, .val (.long x6), .second, .val (.long x8), .second, .val (.int (Int32.ofNat 1)), .val (.int (Int32.ofNat ut)), .val (.int (Int32.ofNat ug)), .val (.long (Int64.ofNat ua)), .second, .val (.long (Int64.ofNat ub)), .second, .val (.long (Int64.ofNat uc)), .second, .val (.long (Int64.ofNat ud)), .second, .val (.ref w1), .val (.ref i1), .val (.ref w2), .val (.ref r2), .val (.int (1 : Int32))] [])) (fun _ k => XS.ifNo Xu27.here hx rfl (hb hby at_260) rfl ((if0 _ _).trans (teq hcu34).2) k) ?_
    refine own_stepW (T' := Tu27) (g' := (mkF m 264 #[.val (.int x0), .val (.int x1), .val (.long x2), .second, .val (.long x4), .second, .val (.long x6), .second, .val (.long x8), .second, .val (.int (Int32.ofNat 1)), .val (.int (Int32.ofNat ut)), .val (.int (Int32.ofNat ug)), .val (.long (Int64.ofNat ua)), .second, .val (.long (Int64.ofNat ub)), .second, .val (.long (Int64.ofNat uc)), .second, .val (.long (Int64.ofNat ud)), .second, .val (.ref w1), .val (.ref i1), .val (.ref w2), .val (.ref r2), .val (.int (1 : Int32))] [(.int (1 : Int32))])) (fun _ k => XS.iconst Xu27.here hx rfl (hb hby at_263) k) ?_
    refine own_stepW (T' := Tu27) (g' := (mkF m 268 #[.val (.int x0), .val (.int x1), .val (.long x2), .second, .val (.long x4), .second, .val (.long x6), .second, .val (.long x8), .second, .val (.int (Int32.ofNat 1)), .val (.int (Int32.ofNat ut)), .val (.int (Int32.ofNat ug)), .val (.long (Int64.ofNat ua)), .second, .val (.long (Int64.ofNat ub)), .second, .val (.long (Int64.ofNat uc)), .second, .val (.long (Int64.ofNat ud)), .second, .val (.ref w1), .val (.ref i1), .val (.ref w2), .val (.ref r2), .val (.int (1 : Int32))] [(.int (1 : Int32))])) (fun _ k => XS.goto Xu27.here hx rfl (pc0 := 264) (pc' := 268) rfl (hb hby at_264) (by decide) (by decide) k) ?_
    refine own_stepW (T' := Tu27) (g' := (mkF m 270 #[.val (.int x0), .val (.int x1), .val (.long x2), .second, .val (.long x4), .second, .val (.long x6), .second, .val (.long x8), .second, .val (.int (Int32.ofNat 1)), .val (.int (Int32.ofNat ut)), .val (.int (Int32.ofNat ug)), .val (.long (Int64.ofNat ua)), .second, .val (.long (Int64.ofNat ub)), .second, .val (.long (Int64.ofNat uc)), .second, .val (.long (Int64.ofNat ud)), .second, .val (.ref w1), .val (.ref i1), .val (.ref w2), .val (.ref r2), .val (.int (1 : Int32))] [])) (fun _ k => XS.istore Xu27.here hx rfl (hb hby at_268) rfl (l' := #[.val (.int x0), .val (.int x1), .val (.long x2), .second, .val (.long x4), .second, .val (.long x6), .second, .val (.long x8), .second, .val (.int (Int32.ofNat 1)), .val (.int (Int32.ofNat ut)), .val (.int (Int32.ofNat ug)), .val (.long (Int64.ofNat ua)), .second, .val (.long (Int64.ofNat ub)), .second, .val (.long (Int64.ofNat uc)), .second, .val (.long (Int64.ofNat ud)), .second, .val (.ref w1), .val (.ref i1), .val (.ref w2), .val (.ref r2), .val (.int (1 : Int32))]) rfl k) ?_
    refine own_stepW (T' := Tu27) (g' := (mkF m 272 #[.val (.int x0), .val (.int x1), .val (.long x2), .second, .val (.long x4), .second, .val (.long x6), .second, .val (.long x8), .second, .val (.int (Int32.ofNat 1)), .val (.int (Int32.ofNat ut)), .val (.int (Int32.ofNat ug)), .val (.long (Int64.ofNat ua)), .second, .val (.long (Int64.ofNat ub)), .second, .val (.long (Int64.ofNat uc)), .second, .val (.long (Int64.ofNat ud)), .second, .val (.ref w1), .val (.ref i1), .val (.ref w2), .val (.ref r2), .val (.int (1 : Int32))] [(.int (1 : Int32))])) (fun _ k => XS.iload Xu27.here hx rfl (hb hby at_270) rfl k) ?_
    have hcu35 : ¬ ((1 : Int32) = (0 : Int32)) := by decide
    refine own_stepW (T' := Tu27) (g' := (mkF m 275 #[.val (.int x0), .val (.int x1), .val (.long x2), .second, .val (.long x4), .second, .val (.long x6), .second, .val (.long x8), .second, .val (.int (Int32.ofNat 1)), .val (.int (Int32.ofNat ut)), .val (.int (Int32.ofNat ug)), .val (.long (Int64.ofNat ua)), .second, .val (.long (Int64.ofNat ub)), .second, .val (.long (Int64.ofNat uc)), .second, .val (.long (Int64.ofNat ud)), .second, .val (.ref w1), .val (.ref i1), .val (.ref w2), .val (.ref r2), .val (.int (1 : Int32))] [])) (fun _ k => XS.ifNo Xu27.here hx rfl (hb hby at_272) rfl ((if0 _ _).trans (feq hcu35).1) k) ?_
    refine own_stepW (T' := Tu27) (g' := (mkF m 277 #[.val (.int x0), .val (.int x1), .val (.long x2), .second, .val (.long x4), .second, .val (.long x6), .second, .val (.long x8), .second, .val (.int (Int32.ofNat 1)), .val (.int (Int32.ofNat ut)), .val (.int (Int32.ofNat ug)), .val (.long (Int64.ofNat ua)), .second, .val (.long (Int64.ofNat ub)), .second, .val (.long (Int64.ofNat uc)), .second, .val (.long (Int64.ofNat ud)), .second, .val (.ref w1), .val (.ref i1), .val (.ref w2), .val (.ref r2), .val (.int (1 : Int32))] [(.int (Int32.ofNat 1))])) (fun _ k => XS.iload Xu27.here hx rfl (hb hby at_275) rfl k) ?_
    refine own_stepW (T' := Tu27) (g' := (mkF m 278 #[.val (.int x0), .val (.int x1), .val (.long x2), .second, .val (.long x4), .second, .val (.long x6), .second, .val (.long x8), .second, .val (.int (Int32.ofNat 1)), .val (.int (Int32.ofNat ut)), .val (.int (Int32.ofNat ug)), .val (.long (Int64.ofNat ua)), .second, .val (.long (Int64.ofNat ub)), .second, .val (.long (Int64.ofNat uc)), .second, .val (.long (Int64.ofNat ud)), .second, .val (.ref w1), .val (.ref i1), .val (.ref w2), .val (.ref r2), .val (.int (1 : Int32))] [(.int (2 : Int32)), (.int (Int32.ofNat 1))])) (fun _ k => XS.iconst Xu27.here hx rfl (hb hby at_277) k) ?_
    have hcu36 : (Int32.ofNat 1) < (2 : Int32) := by decide
    refine own_stepW (T' := Tu27) (g' := (mkF m 324 #[.val (.int x0), .val (.int x1), .val (.long x2), .second, .val (.long x4), .second, .val (.long x6), .second, .val (.long x8), .second, .val (.int (Int32.ofNat 1)), .val (.int (Int32.ofNat ut)), .val (.int (Int32.ofNat ug)), .val (.long (Int64.ofNat ua)), .second, .val (.long (Int64.ofNat ub)), .second, .val (.long (Int64.ofNat uc)), .second, .val (.long (Int64.ofNat ud)), .second, .val (.ref w1), .val (.ref i1), .val (.ref w2), .val (.ref r2), .val (.int (1 : Int32))] [])) (fun _ k => XS.icmpYes Xu27.here hx rfl (pc0 := 278) (pc' := 324) rfl (hb hby at_278) rfl (tlt hcu36).1 (by decide) (by decide) k) ?_
    refine own_stepW (T' := Tu27) (g' := (mkF m 326 #[.val (.int x0), .val (.int x1), .val (.long x2), .second, .val (.long x4), .second, .val (.long x6), .second, .val (.long x8), .second, .val (.int (Int32.ofNat 1)), .val (.int (Int32.ofNat ut)), .val (.int (Int32.ofNat ug)), .val (.long (Int64.ofNat ua)), .second, .val (.long (Int64.ofNat ub)), .second, .val (.long (Int64.ofNat uc)), .second, .val (.long (Int64.ofNat ud)), .second, .val (.ref w1), .val (.ref i1), .val (.ref w2), .val (.ref r2), .val (.int (1 : Int32))] [(.int (1 : Int32))])) (fun _ k => XS.iload Xu27.here hx rfl (hb hby at_324) rfl k) ?_
    have hcu37 : ¬ ((1 : Int32) = (0 : Int32)) := by decide
    refine own_stepW (T' := Tu27) (g' := (mkF m 329 #[.val (.int x0), .val (.int x1), .val (.long x2), .second, .val (.long x4), .second, .val (.long x6), .second, .val (.long x8), .second, .val (.int (Int32.ofNat 1)), .val (.int (Int32.ofNat ut)), .val (.int (Int32.ofNat ug)), .val (.long (Int64.ofNat ua)), .second, .val (.long (Int64.ofNat ub)), .second, .val (.long (Int64.ofNat uc)), .second, .val (.long (Int64.ofNat ud)), .second, .val (.ref w1), .val (.ref i1), .val (.ref w2), .val (.ref r2), .val (.int (1 : Int32))] [])) (fun _ k => XS.ifNo Xu27.here hx rfl (hb hby at_326) rfl ((if0 _ _).trans (feq hcu37).1) k) ?_
    refine own_stepW (T' := Tu27) (g' := (mkF m 331 #[.val (.int x0), .val (.int x1), .val (.long x2), .second, .val (.long x4), .second, .val (.long x6), .second, .val (.long x8), .second, .val (.int (Int32.ofNat 1)), .val (.int (Int32.ofNat ut)), .val (.int (Int32.ofNat ug)), .val (.long (Int64.ofNat ua)), .second, .val (.long (Int64.ofNat ub)), .second, .val (.long (Int64.ofNat uc)), .second, .val (.long (Int64.ofNat ud)), .second, .val (.ref w1), .val (.ref i1), .val (.ref w2), .val (.ref r2), .val (.int (1 : Int32))] [(.ref r2)])) (fun _ k => XS.aload Xu27.here hx rfl (hb hby at_329) rfl rfl k) ?_
    obtain ⟨cqu38, kqu38, qu38a, qu38b, qu38c⟩ := isOf hZv eu27 ERu27
    obtain ⟨_, _, ⟨Tu38, Lu38, ku38, nu38⟩, -, Xu38, ⟨Lcu38, hQu38, lu38, yu38, zu38⟩, stu38⟩ := Xu27.virtualBack hx (y := (⟨"com/example/impatiens/impatiens/statespace/StateReader", "position", "()I"⟩ : MethodName)) (z := (⟨"com/example/impatiens/impatiens/statespace/StateReader", "position", "()I"⟩ : MethodName)) hownv (mvT hZv (hw _ (List.mem_of_getElem? (i := 95) rfl))) (mvT hZv (hw _ (List.mem_of_getElem? (i := 96) rfl))) (notFace_of_selects (args := #[]) (mvT hZv (hw _ (List.mem_of_getElem? (i := 98) rfl)))) (mvT hZv (hw _ (List.mem_of_getElem? (i := 98) rfl))) (mvT hZv (hw _ (List.mem_of_getElem? (i := 97) rfl))) (by decide) (backOf (W := 0) (rm14 l Z a0 hw [] r2 b2 k2 ((((0 + (own_enc 8 1).length) + (own_enc 8 ut).length) + (own_enc 8 (ua + 1)).length) + (own_enc 8 uc).length) (own_enc 8 1 ++ own_encs ([(ut, ua + 1, uc)] : List (Nat × Nat × Nat))) hu27 n0 Zu27 ⟨ERu27, FbRu27, FpRu27, qu33, grr⟩) hZv (hw _ (List.mem_of_getElem? (i := 99) rfl)) (hw _ (List.mem_of_getElem? (i := 28) rfl)) (by decide) (by decide)) qu38a qu38c (g := (mkF m 331 #[.val (.int x0), .val (.int x1), .val (.long x2), .second, .val (.long x4), .second, .val (.long x6), .second, .val (.long x8), .second, .val (.int (Int32.ofNat 1)), .val (.int (Int32.ofNat ut)), .val (.int (Int32.ofNat ug)), .val (.long (Int64.ofNat ua)), .second, .val (.long (Int64.ofNat ub)), .second, .val (.long (Int64.ofNat uc)), .second, .val (.long (Int64.ofNat ud)), .second, .val (.ref w1), .val (.ref i1), .val (.ref w2), .val (.ref r2), .val (.int (1 : Int32))] [(.ref r2)])) rfl (by rw [hml]; rfl) (Steps.refl _) (argsL := []) (rest := []) (lenOf pd_6 rfl) rfl (by show 2 * 0 + _ ≤ _; exact Nat.le_of_eq rfl) (hb hby at_331) (fun _ _ => ⟨rfl, eu27, (by decide : 14 + 0 ≤ _), (by decide : 330 + 0 ≤ _)⟩)
    dsimp only [Pt.U, Pt.locs, Pt.cells, Pt.slots] at Xu38 lu38 yu38 zu38 stu38 hQu38
    subst lu38 yu38 zu38
    obtain ⟨rfl, Nu38q, eu38⟩ := hQu38
    have Nu38 := Fr.app Nu27 Nu38q
    refine own_stepW (T' := Tu38) (g' := (mkF m 334 #[.val (.int x0), .val (.int x1), .val (.long x2), .second, .val (.long x4), .second, .val (.long x6), .second, .val (.long x8), .second, .val (.int (Int32.ofNat 1)), .val (.int (Int32.ofNat ut)), .val (.int (Int32.ofNat ug)), .val (.long (Int64.ofNat ua)), .second, .val (.long (Int64.ofNat ub)), .second, .val (.long (Int64.ofNat uc)), .second, .val (.long (Int64.ofNat ud)), .second, .val (.ref w1), .val (.ref i1), .val (.ref w2), .val (.ref r2), .val (.int (1 : Int32))] [(.int (Int32.ofNat ((((0 + (own_enc 8 1).length) + (own_enc 8 ut).length) + (own_enc 8 (ua + 1)).length) + (own_enc 8 uc).length)))])) (fun _ k => stu38.trans k) ?_
    refine own_stepW (T' := Tu38) (g' := (mkF m 336 #[.val (.int x0), .val (.int x1), .val (.long x2), .second, .val (.long x4), .second, .val (.long x6), .second, .val (.long x8), .second, .val (.int (Int32.ofNat 1)), .val (.int (Int32.ofNat ut)), .val (.int (Int32.ofNat ug)), .val (.long (Int64.ofNat ua)), .second, .val (.long (Int64.ofNat ub)), .second, .val (.long (Int64.ofNat uc)), .second, .val (.long (Int64.ofNat ud)), .second, .val (.ref w1), .val (.ref i1), .val (.ref w2), .val (.ref r2), .val (.int (1 : Int32))] [(.ref w2), (.int (Int32.ofNat ((((0 + (own_enc 8 1).length) + (own_enc 8 ut).length) + (own_enc 8 (ua + 1)).length) + (own_enc 8 uc).length)))])) (fun _ k => XS.aload Xu38.here hx rfl (hb hby at_334) rfl rfl k) ?_
    obtain ⟨cqu39, kqu39, qu39a, qu39b, qu39c⟩ := isOf hZv eu38 qu30
    obtain ⟨_, _, ⟨Tu39, Lu39, ku39, nu39⟩, -, Xu39, ⟨Lcu39, hQu39, lu39, yu39, zu39⟩, stu39⟩ := Xu38.virtualBack hx (y := (⟨"com/example/impatiens/impatiens/statespace/StateWriter", "length", "()I"⟩ : MethodName)) (z := (⟨"com/example/impatiens/impatiens/statespace/StateWriter", "length", "()I"⟩ : MethodName)) hownv (mvT hZv (hw _ (List.mem_of_getElem? (i := 100) rfl))) (mvT hZv (hw _ (List.mem_of_getElem? (i := 101) rfl))) (notFace_of_selects (args := #[]) (mvT hZv (hw _ (List.mem_of_getElem? (i := 103) rfl)))) (mvT hZv (hw _ (List.mem_of_getElem? (i := 103) rfl))) (mvT hZv (hw _ (List.mem_of_getElem? (i := 102) rfl))) (by decide) (backOf (W := 1) (rm15 l Z a0 hw [] w2 b2 k2 (own_enc 8 1 ++ own_encs ([(ut, ua + 1, uc)] : List (Nat × Nat × Nat))) hu27 n0 Zu27 ⟨qu30, qu28, qu29, qu31, qu33, gww, gbw⟩) hZv (hw _ (List.mem_of_getElem? (i := 104) rfl)) (hw _ (List.mem_of_getElem? (i := 8) rfl)) (by decide) (by decide)) qu39a qu39c (g := (mkF m 336 #[.val (.int x0), .val (.int x1), .val (.long x2), .second, .val (.long x4), .second, .val (.long x6), .second, .val (.long x8), .second, .val (.int (Int32.ofNat 1)), .val (.int (Int32.ofNat ut)), .val (.int (Int32.ofNat ug)), .val (.long (Int64.ofNat ua)), .second, .val (.long (Int64.ofNat ub)), .second, .val (.long (Int64.ofNat uc)), .second, .val (.long (Int64.ofNat ud)), .second, .val (.ref w1), .val (.ref i1), .val (.ref w2), .val (.ref r2), .val (.int (1 : Int32))] [(.ref w2), (.int (Int32.ofNat ((((0 + (own_enc 8 1).length) + (own_enc 8 ut).length) + (own_enc 8 (ua + 1)).length) + (own_enc 8 uc).length)))])) rfl (by rw [hml]; rfl) (Steps.refl _) (argsL := []) (rest := [(.int (Int32.ofNat ((((0 + (own_enc 8 1).length) + (own_enc 8 ut).length) + (own_enc 8 (ua + 1)).length) + (own_enc 8 uc).length)))]) (lenOf pd_6 rfl) rfl (by show 2 * 0 + _ ≤ _; exact Nat.le_of_eq rfl) (hb hby at_336) (fun _ _ => ⟨rfl, eu38, (by decide : 14 + 0 ≤ _), (by decide : 330 + 0 ≤ _)⟩)
    dsimp only [Pt.U, Pt.locs, Pt.cells, Pt.slots] at Xu39 lu39 yu39 zu39 stu39 hQu39
    subst lu39 yu39 zu39
    obtain ⟨rfl, Nu39q, eu39⟩ := hQu39
    have Nu39 := Fr.app Nu38 Nu39q
    refine own_stepW (T' := Tu39) (g' := (mkF m 339 #[.val (.int x0), .val (.int x1), .val (.long x2), .second, .val (.long x4), .second, .val (.long x6), .second, .val (.long x8), .second, .val (.int (Int32.ofNat 1)), .val (.int (Int32.ofNat ut)), .val (.int (Int32.ofNat ug)), .val (.long (Int64.ofNat ua)), .second, .val (.long (Int64.ofNat ub)), .second, .val (.long (Int64.ofNat uc)), .second, .val (.long (Int64.ofNat ud)), .second, .val (.ref w1), .val (.ref i1), .val (.ref w2), .val (.ref r2), .val (.int (1 : Int32))] [(.int (Int32.ofNat (own_enc 8 1 ++ own_encs ([(ut, ua + 1, uc)] : List (Nat × Nat × Nat))).length)), (.int (Int32.ofNat ((((0 + (own_enc 8 1).length) + (own_enc 8 ut).length) + (own_enc 8 (ua + 1)).length) + (own_enc 8 uc).length)))])) (fun _ k => stu39.trans k) ?_
    have hcu40 : (Int32.ofNat ((((0 + (own_enc 8 1).length) + (own_enc 8 ut).length) + (own_enc 8 (ua + 1)).length) + (own_enc 8 uc).length)) = (Int32.ofNat (own_enc 8 1 ++ own_encs ([(ut, ua + 1, uc)] : List (Nat × Nat × Nat))).length) := own_posN _ _ (by simp [own_encs, Nat.add_assoc])
    refine own_stepW (T' := Tu39) (g' := (mkF m 342 #[.val (.int x0), .val (.int x1), .val (.long x2), .second, .val (.long x4), .second, .val (.long x6), .second, .val (.long x8), .second, .val (.int (Int32.ofNat 1)), .val (.int (Int32.ofNat ut)), .val (.int (Int32.ofNat ug)), .val (.long (Int64.ofNat ua)), .second, .val (.long (Int64.ofNat ub)), .second, .val (.long (Int64.ofNat uc)), .second, .val (.long (Int64.ofNat ud)), .second, .val (.ref w1), .val (.ref i1), .val (.ref w2), .val (.ref r2), .val (.int (1 : Int32))] [])) (fun _ k => XS.icmpNo Xu39.here hx rfl (hb hby at_339) rfl (teq hcu40).2 k) ?_
    refine own_stepW (T' := Tu39) (g' := (mkF m 343 #[.val (.int x0), .val (.int x1), .val (.long x2), .second, .val (.long x4), .second, .val (.long x6), .second, .val (.long x8), .second, .val (.int (Int32.ofNat 1)), .val (.int (Int32.ofNat ut)), .val (.int (Int32.ofNat ug)), .val (.long (Int64.ofNat ua)), .second, .val (.long (Int64.ofNat ub)), .second, .val (.long (Int64.ofNat uc)), .second, .val (.long (Int64.ofNat ud)), .second, .val (.ref w1), .val (.ref i1), .val (.ref w2), .val (.ref r2), .val (.int (1 : Int32))] [(.int (1 : Int32))])) (fun _ k => XS.iconst Xu39.here hx rfl (hb hby at_342) k) ?_
    refine own_stepW (T' := Tu39) (g' := (mkF m 347 #[.val (.int x0), .val (.int x1), .val (.long x2), .second, .val (.long x4), .second, .val (.long x6), .second, .val (.long x8), .second, .val (.int (Int32.ofNat 1)), .val (.int (Int32.ofNat ut)), .val (.int (Int32.ofNat ug)), .val (.long (Int64.ofNat ua)), .second, .val (.long (Int64.ofNat ub)), .second, .val (.long (Int64.ofNat uc)), .second, .val (.long (Int64.ofNat ud)), .second, .val (.ref w1), .val (.ref i1), .val (.ref w2), .val (.ref r2), .val (.int (1 : Int32))] [(.int (1 : Int32))])) (fun _ k => XS.goto Xu39.here hx rfl (pc0 := 343) (pc' := 347) rfl (hb hby at_343) (by decide) (by decide) k) ?_
    exact own_retW Xu39 Bd hSv (by rw [eu39]; exact hku27) (v := some (.int ((1 : Int32) &&& 1))) (fun q => by rw [Bd.returns] at q; cases q) (fun fs q => retN Xu39 hx (t := .boolean) Bd.returns (by simp) (hb hby at_347) q) (show own_Law n0 _ _ _ from ⟨rfl, Nu39⟩) (by decide) (by decide)
  have B167_1 : ∀ (T0 : State) (locs : List Loc) (hh : Heap) (w1 i1 ta aa ca : Addr) (kt ka kc : ClassId), n0 ≤ hh.size → own_IS Z n0 hh i1 ta aa ca kt ka kc ([(ut, ua + 1, uc)] : List (Nat × Nat × Nat)).length ((own_ts 0 ([(ut, ua + 1, uc)] : List (Nat × Nat × Nat))).map Int32.ofNat) (([(ut, ua + 1, uc)] : List (Nat × Nat × Nat)).map (fun g => Int64.ofNat g.2.1)) (([(ut, ua + 1, uc)] : List (Nat × Nat × Nat)).map (fun g => Int64.ofNat g.2.2)) → ∀ (vm1 : Vm) (kv : Nat), s.Since vm1 kv → kv ≤ hh.size → Z.Warmed39 (s.setVm vm1).vm → (s.setVm vm1).vm.findClass "com/example/impatiens/impatiens/itpn/InstancesTickPinLaw" = some m.cls → Stand p l e room_1 (s.setVm vm1) m #[(.int x0), (.int x1), (.long x2), (.long x4), (.long x6), (.long x8)] below meth c T0 locs 9 170 → T0.heap = hh → Fr n0 locs → own_GoesW p e below s (own_Law n0) 32 1408 T0 (mkF m 167 #[.val (.int x0), .val (.int x1), .val (.long x2), .second, .val (.long x4), .second, .val (.long x6), .second, .val (.long x8), .second, .val (.int (Int32.ofNat 1)), .val (.int (Int32.ofNat ut)), .val (.int (Int32.ofNat ug)), .val (.long (Int64.ofNat ua)), .second, .val (.long (Int64.ofNat ub)), .second, .val (.long (Int64.ofNat uc)), .second, .val (.long (Int64.ofNat ud)), .second, .val (.ref w1), .val (.ref i1), .unset, .unset, .unset] []) := by
    intro T0 locs hh w1 i1 ta aa ca kt ka kc Zh hIS vm1 kv hSv hkv hZv hownv X0 e0 N0
    have oqi := hIS
    obtain ⟨Ei, Fti, Fai, Fci, Fni, Vti, Vai, Vci, ⟨ntai, ntci, naci⟩, gii, gti, gai, gci⟩ := oqi
    have ni_tai : i1 ≠ ta := Ei.neArv Vti (hw _ (List.mem_of_getElem? (i := 68) rfl))
    have ni_aai : i1 ≠ aa := Ei.neArv Vai (hw _ (List.mem_of_getElem? (i := 68) rfl))
    have ni_cai : i1 ≠ ca := Ei.neArv Vci (hw _ (List.mem_of_getElem? (i := 68) rfl))
    obtain ⟨Tu1, hu1, Xu1, eu1, Eu1, Au1, Du1, -, stu1⟩ := newO X0 hx hZv hownv (hw _ (List.mem_of_getElem? (i := 6) rfl)) (hw _ (List.mem_of_getElem? (i := 7) rfl)) (hw _ (List.mem_of_getElem? (i := 8) rfl)) e0 (g := (mkF m 167 #[.val (.int x0), .val (.int x1), .val (.long x2), .second, .val (.long x4), .second, .val (.long x6), .second, .val (.long x8), .second, .val (.int (Int32.ofNat 1)), .val (.int (Int32.ofNat ut)), .val (.int (Int32.ofNat ug)), .val (.long (Int64.ofNat ua)), .second, .val (.long (Int64.ofNat ub)), .second, .val (.long (Int64.ofNat uc)), .second, .val (.long (Int64.ofNat ud)), .second, .val (.ref w1), .val (.ref i1), .unset, .unset, .unset] [])) rfl (hb hby at_167) (by decide) (by decide)
    obtain ⟨bu1, gu1⟩ : ∃ z, z = hh.size := ⟨_, rfl⟩
    rw [← gu1] at Au1 Du1 stu1
    have neu1_aa : aa ≠ bu1 := Nat.ne_of_lt (Nat.lt_of_lt_of_le Vai.lt (Nat.le_of_eq gu1.symm))
    have neu1_ca : ca ≠ bu1 := Nat.ne_of_lt (Nat.lt_of_lt_of_le Vci.lt (Nat.le_of_eq gu1.symm))
    have neu1_i1 : i1 ≠ bu1 := Nat.ne_of_lt (Nat.lt_of_lt_of_le Fti.lt (Nat.le_of_eq gu1.symm))
    have neu1_ta : ta ≠ bu1 := Nat.ne_of_lt (Nat.lt_of_lt_of_le Vti.lt (Nat.le_of_eq gu1.symm))
    have qu2 : Fld Z hu1 i1 "com/example/impatiens/impatiens/itpn/Instances" "transitions" "[I" (.ref ta) := Fti.ext Eu1
    have qu3 : Fld Z hu1 i1 "com/example/impatiens/impatiens/itpn/Instances" "ages" "[J" (.ref aa) := Fai.ext Eu1
    have qu4 : Fld Z hu1 i1 "com/example/impatiens/impatiens/itpn/Instances" "counts" "[J" (.ref ca) := Fci.ext Eu1
    have qu5 : Fld Z hu1 i1 "com/example/impatiens/impatiens/itpn/Instances" "size" "I" (.int (Int32.ofNat ([(ut, ua + 1, uc)] : List (Nat × Nat × Nat)).length)) := Fni.ext Eu1
    have qu6 : Exa Z hu1 i1 "com/example/impatiens/impatiens/itpn/Instances" := Ei.ext Eu1
    have qu7 : Arv Z hu1 ta kt .int (Int32.ofNat ([(ut, ua + 1, uc)] : List (Nat × Nat × Nat)).length) (((own_ts 0 ([(ut, ua + 1, uc)] : List (Nat × Nat × Nat))).map Int32.ofNat).map Value.int) (.int (0 : Int32)) := Vti.ext Eu1
    have qu8 : Arv Z hu1 aa ka .long (Int32.ofNat ([(ut, ua + 1, uc)] : List (Nat × Nat × Nat)).length) ((([(ut, ua + 1, uc)] : List (Nat × Nat × Nat)).map (fun g => Int64.ofNat g.2.1)).map Value.long) (.long (0 : Int64)) := Vai.ext Eu1
    have qu9 : Arv Z hu1 ca kc .long (Int32.ofNat ([(ut, ua + 1, uc)] : List (Nat × Nat × Nat)).length) ((([(ut, ua + 1, uc)] : List (Nat × Nat × Nat)).map (fun g => Int64.ofNat g.2.2)).map Value.long) (.long (0 : Int64)) := Vci.ext Eu1
    have qu10 : Fld Z hu1 bu1 "com/example/impatiens/impatiens/statespace/StateWriter" "bytes" "[B" .null := Du1 (Or.inl (hw _ (List.mem_of_getElem? (i := 17) rfl))) (ty := (.array .byte)) (by decide)
    have qu11 : Fld Z hu1 bu1 "com/example/impatiens/impatiens/statespace/StateWriter" "length" "I" (.int (0 : Int32)) := Du1 (Or.inl (hw _ (List.mem_of_getElem? (i := 24) rfl))) (ty := .int) (by decide)
    have g_bu1 : n0 ≤ bu1 := Nat.le_trans Zh (Nat.le_of_eq gu1.symm)
    have Zu1 : n0 ≤ hu1.size := Nat.le_trans Zh Eu1.1
    have hku1 := Nat.le_trans hkv Eu1.1
    refine own_stepW (T' := Tu1) (g' := (mkF m 170 #[.val (.int x0), .val (.int x1), .val (.long x2), .second, .val (.long x4), .second, .val (.long x6), .second, .val (.long x8), .second, .val (.int (Int32.ofNat 1)), .val (.int (Int32.ofNat ut)), .val (.int (Int32.ofNat ug)), .val (.long (Int64.ofNat ua)), .second, .val (.long (Int64.ofNat ub)), .second, .val (.long (Int64.ofNat uc)), .second, .val (.long (Int64.ofNat ud)), .second, .val (.ref w1), .val (.ref i1), .unset, .unset, .unset] [(.ref bu1)])) (fun _ k => stu1 _ k) ?_
    refine own_stepW (T' := Tu1) (g' := (mkF m 171 #[.val (.int x0), .val (.int x1), .val (.long x2), .second, .val (.long x4), .second, .val (.long x6), .second, .val (.long x8), .second, .val (.int (Int32.ofNat 1)), .val (.int (Int32.ofNat ut)), .val (.int (Int32.ofNat ug)), .val (.long (Int64.ofNat ua)), .second, .val (.long (Int64.ofNat ub)), .second, .val (.long (Int64.ofNat uc)), .second, .val (.long (Int64.ofNat ud)), .second, .val (.ref w1), .val (.ref i1), .unset, .unset, .unset] [(.ref bu1), (.ref bu1)])) (fun _ k => XS.dup Xu1.here hx rfl (hb hby at_170) rfl rfl k) ?_
    obtain ⟨_, _, ⟨Tu12, Lu12, ku12, nu12⟩, -, Xu12, ⟨Lcu12, hQu12, lu12, yu12, zu12⟩, stu12⟩ := Xu1.specialBack hx (y := (⟨"com/example/impatiens/impatiens/statespace/StateWriter", "<init>", "()V"⟩ : MethodName)) rfl hownv (mvT hZv (hw _ (List.mem_of_getElem? (i := 9) rfl))) (mvT hZv (hw _ (List.mem_of_getElem? (i := 10) rfl))) (mvT hZv (hw _ (List.mem_of_getElem? (i := 11) rfl))) (by decide) (backOf (W := 1) (rm2 l Z a0 hw [] bu1 .null hu1 n0 Zu1 Au1 g_bu1 qu10 qu11) hZv (hw _ (List.mem_of_getElem? (i := 11) rfl)) (hw _ (List.mem_of_getElem? (i := 8) rfl)) (by decide) (by decide)) (g := (mkF m 171 #[.val (.int x0), .val (.int x1), .val (.long x2), .second, .val (.long x4), .second, .val (.long x6), .second, .val (.long x8), .second, .val (.int (Int32.ofNat 1)), .val (.int (Int32.ofNat ut)), .val (.int (Int32.ofNat ug)), .val (.long (Int64.ofNat ua)), .second, .val (.long (Int64.ofNat ub)), .second, .val (.long (Int64.ofNat uc)), .second, .val (.long (Int64.ofNat ud)), .second, .val (.ref w1), .val (.ref i1), .unset, .unset, .unset] [(.ref bu1), (.ref bu1)])) rfl (by rw [hml]; rfl) (Steps.refl _) (a := bu1) (argsL := []) (rest := [(.ref bu1)]) (lenOf pd_7 rfl) rfl (by show 2 * 0 + _ ≤ _; exact Nat.le_of_eq rfl) (hb hby at_171) (fun _ _ => ⟨rfl, eu1, (by decide : 10 + 1 ≤ _), (by decide : 172 + 64 ≤ _)⟩)
    dsimp only [Pt.U, Pt.locs, Pt.cells, Pt.slots] at Xu12 lu12 yu12 zu12 stu12 hQu12
    subst lu12 yu12 zu12
    generalize eu12 : Tu12.heap = hu12 at hQu12
    obtain ⟨rfl, Nu12q, Ku12, bbu12, kbu12, szbu12, wru12⟩ := hQu12
    have Zu12 : n0 ≤ hu12.size := Nat.le_trans Zu1 Ku12.1
    have hku12 := Nat.le_trans hku1 Ku12.1
    have qu13 : Fld Z hu12 i1 "com/example/impatiens/impatiens/itpn/Instances" "transitions" "[I" (.ref ta) := qu2.keep Ku12 (ninS neu1_i1 nin0)
    have qu14 : Fld Z hu12 i1 "com/example/impatiens/impatiens/itpn/Instances" "ages" "[J" (.ref aa) := qu3.keep Ku12 (ninS neu1_i1 nin0)
    have qu15 : Fld Z hu12 i1 "com/example/impatiens/impatiens/itpn/Instances" "counts" "[J" (.ref ca) := qu4.keep Ku12 (ninS neu1_i1 nin0)
    have qu16 : Fld Z hu12 i1 "com/example/impatiens/impatiens/itpn/Instances" "size" "I" (.int (Int32.ofNat ([(ut, ua + 1, uc)] : List (Nat × Nat × Nat)).length)) := qu5.keep Ku12 (ninS neu1_i1 nin0)
    have qu17 : Exa Z hu12 i1 "com/example/impatiens/impatiens/itpn/Instances" := qu6.keep Ku12
    have qu18 : Exa Z hu12 bu1 "com/example/impatiens/impatiens/statespace/StateWriter" := Au1.keep Ku12
    have qu19 : Arv Z hu12 ta kt .int (Int32.ofNat ([(ut, ua + 1, uc)] : List (Nat × Nat × Nat)).length) (((own_ts 0 ([(ut, ua + 1, uc)] : List (Nat × Nat × Nat))).map Int32.ofNat).map Value.int) (.int (0 : Int32)) := qu7.keep Ku12 (ninS neu1_ta nin0)
    have qu20 : Arv Z hu12 aa ka .long (Int32.ofNat ([(ut, ua + 1, uc)] : List (Nat × Nat × Nat)).length) ((([(ut, ua + 1, uc)] : List (Nat × Nat × Nat)).map (fun g => Int64.ofNat g.2.1)).map Value.long) (.long (0 : Int64)) := qu8.keep Ku12 (ninS neu1_aa nin0)
    have qu21 : Arv Z hu12 ca kc .long (Int32.ofNat ([(ut, ua + 1, uc)] : List (Nat × Nat × Nat)).length) ((([(ut, ua + 1, uc)] : List (Nat × Nat × Nat)).map (fun g => Int64.ofNat g.2.2)).map Value.long) (.long (0 : Int64)) := qu9.keep Ku12 (ninS neu1_ca nin0)
    have Nu12 := Fr.app N0 Nu12q
    have nbu12_aa : aa ≠ bbu12 := Nat.ne_of_lt (Nat.lt_of_lt_of_le qu8.lt szbu12)
    have nbu12_bu1 : bu1 ≠ bbu12 := Nat.ne_of_lt (Nat.lt_of_lt_of_le qu10.lt szbu12)
    have nbu12_ca : ca ≠ bbu12 := Nat.ne_of_lt (Nat.lt_of_lt_of_le qu9.lt szbu12)
    have nbu12_i1 : i1 ≠ bbu12 := Nat.ne_of_lt (Nat.lt_of_lt_of_le qu2.lt szbu12)
    have nbu12_ta : ta ≠ bbu12 := Nat.ne_of_lt (Nat.lt_of_lt_of_le qu7.lt szbu12)
    obtain ⟨EIu12, FbIu12, FlIu12, EbIu12, VbIu12, gwIu12, gbIu12⟩ := wru12
    refine own_stepW (T' := Tu12) (g' := (mkF m 174 #[.val (.int x0), .val (.int x1), .val (.long x2), .second, .val (.long x4), .second, .val (.long x6), .second, .val (.long x8), .second, .val (.int (Int32.ofNat 1)), .val (.int (Int32.ofNat ut)), .val (.int (Int32.ofNat ug)), .val (.long (Int64.ofNat ua)), .second, .val (.long (Int64.ofNat ub)), .second, .val (.long (Int64.ofNat uc)), .second, .val (.long (Int64.ofNat ud)), .second, .val (.ref w1), .val (.ref i1), .unset, .unset, .unset] [(.ref bu1)])) (fun _ k => stu12.trans k) ?_
    refine own_stepW (T' := Tu12) (g' := (mkF m 176 #[.val (.int x0), .val (.int x1), .val (.long x2), .second, .val (.long x4), .second, .val (.long x6), .second, .val (.long x8), .second, .val (.int (Int32.ofNat 1)), .val (.int (Int32.ofNat ut)), .val (.int (Int32.ofNat ug)), .val (.long (Int64.ofNat ua)), .second, .val (.long (Int64.ofNat ub)), .second, .val (.long (Int64.ofNat uc)), .second, .val (.long (Int64.ofNat ud)), .second, .val (.ref w1), .val (.ref i1), .val (.ref bu1), .unset, .unset] [])) (fun _ k => XS.astore Xu12.here hx rfl (hb hby at_174) rfl rfl (l' := #[.val (.int x0), .val (.int x1), .val (.long x2), .second, .val (.long x4), .second, .val (.long x6), .second, .val (.long x8), .second, .val (.int (Int32.ofNat 1)), .val (.int (Int32.ofNat ut)), .val (.int (Int32.ofNat ug)), .val (.long (Int64.ofNat ua)), .second, .val (.long (Int64.ofNat ub)), .second, .val (.long (Int64.ofNat uc)), .second, .val (.long (Int64.ofNat ud)), .second, .val (.ref w1), .val (.ref i1), .val (.ref bu1), .unset, .unset]) rfl k) ?_
    refine own_stepW (T' := Tu12) (g' := (mkF m 178 #[.val (.int x0), .val (.int x1), .val (.long x2), .second, .val (.long x4), .second, .val (.long x6), .second, .val (.long x8), .second, .val (.int (Int32.ofNat 1)), .val (.int (Int32.ofNat ut)), .val (.int (Int32.ofNat ug)), .val (.long (Int64.ofNat ua)), .second, .val (.long (Int64.ofNat ub)), .second, .val (.long (Int64.ofNat uc)), .second, .val (.long (Int64.ofNat ud)), .second, .val (.ref w1), .val (.ref i1), .val (.ref bu1), .unset, .unset] [(.ref i1)])) (fun _ k => XS.aload Xu12.here hx rfl (hb hby at_176) rfl rfl k) ?_
    refine own_stepW (T' := Tu12) (g' := (mkF m 180 #[.val (.int x0), .val (.int x1), .val (.long x2), .second, .val (.long x4), .second, .val (.long x6), .second, .val (.long x8), .second, .val (.int (Int32.ofNat 1)), .val (.int (Int32.ofNat ut)), .val (.int (Int32.ofNat ug)), .val (.long (Int64.ofNat ua)), .second, .val (.long (Int64.ofNat ub)), .second, .val (.long (Int64.ofNat uc)), .second, .val (.long (Int64.ofNat ud)), .second, .val (.ref w1), .val (.ref i1), .val (.ref bu1), .unset, .unset] [(.ref bu1), (.ref i1)])) (fun _ k => XS.aload Xu12.here hx rfl (hb hby at_178) rfl rfl k) ?_
    obtain ⟨cqu22, kqu22, qu22a, qu22b, qu22c⟩ := isOf hZv eu12 qu17
    obtain ⟨_, _, ⟨Tu22, Lu22, ku22, nu22⟩, -, Xu22, ⟨Lcu22, hQu22, lu22, yu22, zu22⟩, stu22⟩ := Xu12.virtualBack hx (y := (⟨"com/example/impatiens/impatiens/itpn/Instances", "write", "(Lcom/example/impatiens/impatiens/statespace/StateWriter;)V"⟩ : MethodName)) (z := (⟨"com/example/impatiens/impatiens/itpn/Instances", "write", "(Lcom/example/impatiens/impatiens/statespace/StateWriter;)V"⟩ : MethodName)) hownv (mvT hZv (hw _ (List.mem_of_getElem? (i := 88) rfl))) (mvT hZv (hw _ (List.mem_of_getElem? (i := 89) rfl))) (notFace_of_selects (args := #[]) (mvT hZv (hw _ (List.mem_of_getElem? (i := 91) rfl)))) (mvT hZv (hw _ (List.mem_of_getElem? (i := 91) rfl))) (mvT hZv (hw _ (List.mem_of_getElem? (i := 90) rfl))) (by decide) (backOf (W := 0) (rm13 l Z a0 hw [] i1 bu1 bbu12 kbu12 ta aa ca kt ka kc ([(ut, ua + 1, uc)] : List (Nat × Nat × Nat)) hu12 n0 Zu12 (by simp) hG2 ⟨EIu12, FbIu12, FlIu12, EbIu12, VbIu12, gwIu12, gbIu12⟩ ⟨qu17, qu13, qu14, qu15, qu16, qu19, qu20, qu21, ⟨ntai, ntci, naci⟩, gii, gti, gai, gci⟩ (Ne.symm nbu12_ta) (Ne.symm nbu12_aa) (Ne.symm nbu12_ca)) hZv (hw _ (List.mem_of_getElem? (i := 92) rfl)) (hw _ (List.mem_of_getElem? (i := 55) rfl)) (by decide) (by decide)) qu22a qu22c (g := (mkF m 180 #[.val (.int x0), .val (.int x1), .val (.long x2), .second, .val (.long x4), .second, .val (.long x6), .second, .val (.long x8), .second, .val (.int (Int32.ofNat 1)), .val (.int (Int32.ofNat ut)), .val (.int (Int32.ofNat ug)), .val (.long (Int64.ofNat ua)), .second, .val (.long (Int64.ofNat ub)), .second, .val (.long (Int64.ofNat uc)), .second, .val (.long (Int64.ofNat ud)), .second, .val (.ref w1), .val (.ref i1), .val (.ref bu1), .unset, .unset] [(.ref bu1), (.ref i1)])) rfl (by rw [hml]; rfl) (Steps.refl _) (argsL := [(.ref bu1)]) (rest := []) (lenOf pd_8 rfl) rfl (by show 2 * 0 + _ ≤ _; exact Nat.le_of_eq rfl) (hb hby at_180) (fun _ _ => ⟨rfl, eu12, (by decide : 11 + 0 ≤ _), (by decide : 236 + 0 ≤ _)⟩)
    dsimp only [Pt.U, Pt.locs, Pt.cells, Pt.slots] at Xu22 lu22 yu22 zu22 stu22 hQu22
    subst lu22 yu22 zu22
    generalize eu22 : Tu22.heap = hu22 at hQu22
    obtain ⟨rfl, Nu22q, Ku22, wru22⟩ := hQu22
    have Zu22 : n0 ≤ hu22.size := Nat.le_trans Zu12 Ku22.1
    have hku22 := Nat.le_trans hku12 Ku22.1
    have qu23 : Fld Z hu22 i1 "com/example/impatiens/impatiens/itpn/Instances" "transitions" "[I" (.ref ta) := qu13.keep Ku22 (ninS neu1_i1 (ninS nbu12_i1 nin0))
    have qu24 : Fld Z hu22 i1 "com/example/impatiens/impatiens/itpn/Instances" "ages" "[J" (.ref aa) := qu14.keep Ku22 (ninS neu1_i1 (ninS nbu12_i1 nin0))
    have qu25 : Fld Z hu22 i1 "com/example/impatiens/impatiens/itpn/Instances" "counts" "[J" (.ref ca) := qu15.keep Ku22 (ninS neu1_i1 (ninS nbu12_i1 nin0))
    have qu26 : Fld Z hu22 i1 "com/example/impatiens/impatiens/itpn/Instances" "size" "I" (.int (Int32.ofNat ([(ut, ua + 1, uc)] : List (Nat × Nat × Nat)).length)) := qu16.keep Ku22 (ninS neu1_i1 (ninS nbu12_i1 nin0))
    have qu27 : Exa Z hu22 i1 "com/example/impatiens/impatiens/itpn/Instances" := qu17.keep Ku22
    have qu28 : Exa Z hu22 bu1 "com/example/impatiens/impatiens/statespace/StateWriter" := EIu12.keep Ku22
    have qu29 : Exa Z hu22 bbu12 "[B" := EbIu12.keep Ku22
    have qu30 : Arv Z hu22 ta kt .int (Int32.ofNat ([(ut, ua + 1, uc)] : List (Nat × Nat × Nat)).length) (((own_ts 0 ([(ut, ua + 1, uc)] : List (Nat × Nat × Nat))).map Int32.ofNat).map Value.int) (.int (0 : Int32)) := qu19.keep Ku22 (ninS neu1_ta (ninS nbu12_ta nin0))
    have qu31 : Arv Z hu22 aa ka .long (Int32.ofNat ([(ut, ua + 1, uc)] : List (Nat × Nat × Nat)).length) ((([(ut, ua + 1, uc)] : List (Nat × Nat × Nat)).map (fun g => Int64.ofNat g.2.1)).map Value.long) (.long (0 : Int64)) := qu20.keep Ku22 (ninS neu1_aa (ninS nbu12_aa nin0))
    have qu32 : Arv Z hu22 ca kc .long (Int32.ofNat ([(ut, ua + 1, uc)] : List (Nat × Nat × Nat)).length) ((([(ut, ua + 1, uc)] : List (Nat × Nat × Nat)).map (fun g => Int64.ofNat g.2.2)).map Value.long) (.long (0 : Int64)) := qu21.keep Ku22 (ninS neu1_ca (ninS nbu12_ca nin0))
    have Nu22 := Fr.app Nu12 Nu22q
    obtain ⟨EBu22, FbBu22, FlBu22, EbBu22, VbBu22, gwBu22, gbBu22⟩ := wru22
    have nwbu22 : bu1 ≠ bbu12 := EBu22.neArv VbBu22 (hw _ (List.mem_of_getElem? (i := 7) rfl))
    refine own_stepW (T' := Tu22) (g' := (mkF m 183 #[.val (.int x0), .val (.int x1), .val (.long x2), .second, .val (.long x4), .second, .val (.long x6), .second, .val (.long x8), .second, .val (.int (Int32.ofNat 1)), .val (.int (Int32.ofNat ut)), .val (.int (Int32.ofNat ug)), .val (.long (Int64.ofNat ua)), .second, .val (.long (Int64.ofNat ub)), .second, .val (.long (Int64.ofNat uc)), .second, .val (.long (Int64.ofNat ud)), .second, .val (.ref w1), .val (.ref i1), .val (.ref bu1), .unset, .unset] [])) (fun _ k => stu22.trans k) ?_
    obtain ⟨Tu33, hu33, Xu33, eu33, Eu33, Au33, Du33, -, stu33⟩ := newO Xu22 hx hZv hownv (hw _ (List.mem_of_getElem? (i := 26) rfl)) (hw _ (List.mem_of_getElem? (i := 27) rfl)) (hw _ (List.mem_of_getElem? (i := 28) rfl)) eu22 (g := (mkF m 183 #[.val (.int x0), .val (.int x1), .val (.long x2), .second, .val (.long x4), .second, .val (.long x6), .second, .val (.long x8), .second, .val (.int (Int32.ofNat 1)), .val (.int (Int32.ofNat ut)), .val (.int (Int32.ofNat ug)), .val (.long (Int64.ofNat ua)), .second, .val (.long (Int64.ofNat ub)), .second, .val (.long (Int64.ofNat uc)), .second, .val (.long (Int64.ofNat ud)), .second, .val (.ref w1), .val (.ref i1), .val (.ref bu1), .unset, .unset] [])) rfl (hb hby at_183) (by decide) (by decide)
    obtain ⟨bu33, gu33⟩ : ∃ z, z = hu22.size := ⟨_, rfl⟩
    rw [← gu33] at Au33 Du33 stu33
    have neu33_bbu12 : bbu12 ≠ bu33 := Nat.ne_of_lt (Nat.lt_of_lt_of_le EbBu22.lt (Nat.le_of_eq gu33.symm))
    have neu33_bu1 : bu1 ≠ bu33 := Nat.ne_of_lt (Nat.lt_of_lt_of_le FbBu22.lt (Nat.le_of_eq gu33.symm))
    have qu34 : Fld Z hu33 bu1 "com/example/impatiens/impatiens/statespace/StateWriter" "bytes" "[B" (.ref bbu12) := FbBu22.ext Eu33
    have qu35 : Fld Z hu33 bu1 "com/example/impatiens/impatiens/statespace/StateWriter" "length" "I" (.int (Int32.ofNat (own_enc 8 1 ++ own_encs ([(ut, ua + 1, uc)] : List (Nat × Nat × Nat))).length)) := FlBu22.ext Eu33
    have qu36 : Exa Z hu33 bu1 "com/example/impatiens/impatiens/statespace/StateWriter" := EBu22.ext Eu33
    have qu37 : Exa Z hu33 bbu12 "[B" := EbBu22.ext Eu33
    have qu38 : Arv Z hu33 bbu12 kbu12 .byte (64 : Int32) ((own_enc 8 1 ++ own_encs ([(ut, ua + 1, uc)] : List (Nat × Nat × Nat))).map Value.int) (.int (0 : Int32)) := VbBu22.ext Eu33
    have qu39 : Fld Z hu33 bu33 "com/example/impatiens/impatiens/statespace/StateReader" "bytes" "[B" .null := Du33 (Or.inr (hw _ (List.mem_of_getElem? (i := 52) rfl))) (ty := (.array .byte)) (by decide)
    have qu40 : Fld Z hu33 bu33 "com/example/impatiens/impatiens/statespace/StateReader" "position" "I" (.int (0 : Int32)) := Du33 (Or.inl (hw _ (List.mem_of_getElem? (i := 63) rfl))) (ty := .int) (by decide)
    have g_bu33 : n0 ≤ bu33 := Nat.le_trans Zu22 (Nat.le_of_eq gu33.symm)
    have Zu33 : n0 ≤ hu33.size := Nat.le_trans Zu22 Eu33.1
    have hku33 := Nat.le_trans hku22 Eu33.1
    refine own_stepW (T' := Tu33) (g' := (mkF m 186 #[.val (.int x0), .val (.int x1), .val (.long x2), .second, .val (.long x4), .second, .val (.long x6), .second, .val (.long x8), .second, .val (.int (Int32.ofNat 1)), .val (.int (Int32.ofNat ut)), .val (.int (Int32.ofNat ug)), .val (.long (Int64.ofNat ua)), .second, .val (.long (Int64.ofNat ub)), .second, .val (.long (Int64.ofNat uc)), .second, .val (.long (Int64.ofNat ud)), .second, .val (.ref w1), .val (.ref i1), .val (.ref bu1), .unset, .unset] [(.ref bu33)])) (fun _ k => stu33 _ k) ?_
    refine own_stepW (T' := Tu33) (g' := (mkF m 187 #[.val (.int x0), .val (.int x1), .val (.long x2), .second, .val (.long x4), .second, .val (.long x6), .second, .val (.long x8), .second, .val (.int (Int32.ofNat 1)), .val (.int (Int32.ofNat ut)), .val (.int (Int32.ofNat ug)), .val (.long (Int64.ofNat ua)), .second, .val (.long (Int64.ofNat ub)), .second, .val (.long (Int64.ofNat uc)), .second, .val (.long (Int64.ofNat ud)), .second, .val (.ref w1), .val (.ref i1), .val (.ref bu1), .unset, .unset] [(.ref bu33), (.ref bu33)])) (fun _ k => XS.dup Xu33.here hx rfl (hb hby at_186) rfl rfl k) ?_
    refine own_stepW (T' := Tu33) (g' := (mkF m 189 #[.val (.int x0), .val (.int x1), .val (.long x2), .second, .val (.long x4), .second, .val (.long x6), .second, .val (.long x8), .second, .val (.int (Int32.ofNat 1)), .val (.int (Int32.ofNat ut)), .val (.int (Int32.ofNat ug)), .val (.long (Int64.ofNat ua)), .second, .val (.long (Int64.ofNat ub)), .second, .val (.long (Int64.ofNat uc)), .second, .val (.long (Int64.ofNat ud)), .second, .val (.ref w1), .val (.ref i1), .val (.ref bu1), .unset, .unset] [(.ref bu1), (.ref bu33), (.ref bu33)])) (fun _ k => XS.aload Xu33.here hx rfl (hb hby at_187) rfl rfl k) ?_
    obtain ⟨cqu41, kqu41, qu41a, qu41b, qu41c⟩ := isOf hZv eu33 qu36
    obtain ⟨_, _, ⟨Tu41, Lu41, ku41, nu41⟩, -, Xu41, ⟨Lcu41, hQu41, lu41, yu41, zu41⟩, stu41⟩ := Xu33.virtualBack hx (y := (⟨"com/example/impatiens/impatiens/statespace/StateWriter", "buffer", "()[B"⟩ : MethodName)) (z := (⟨"com/example/impatiens/impatiens/statespace/StateWriter", "buffer", "()[B"⟩ : MethodName)) hownv (mvT hZv (hw _ (List.mem_of_getElem? (i := 29) rfl))) (mvT hZv (hw _ (List.mem_of_getElem? (i := 30) rfl))) (notFace_of_selects (args := #[]) (mvT hZv (hw _ (List.mem_of_getElem? (i := 32) rfl)))) (mvT hZv (hw _ (List.mem_of_getElem? (i := 32) rfl))) (mvT hZv (hw _ (List.mem_of_getElem? (i := 31) rfl))) (by decide) (backOf (W := 2) (rm5 l Z a0 hw [] bu1 bbu12 kbu12 (own_enc 8 1 ++ own_encs ([(ut, ua + 1, uc)] : List (Nat × Nat × Nat))) hu33 n0 Zu33 ⟨qu36, qu34, qu35, qu37, qu38, gwBu22, gbBu22⟩) hZv (hw _ (List.mem_of_getElem? (i := 33) rfl)) (hw _ (List.mem_of_getElem? (i := 8) rfl)) (by decide) (by decide)) qu41a qu41c (g := (mkF m 189 #[.val (.int x0), .val (.int x1), .val (.long x2), .second, .val (.long x4), .second, .val (.long x6), .second, .val (.long x8), .second, .val (.int (Int32.ofNat 1)), .val (.int (Int32.ofNat ut)), .val (.int (Int32.ofNat ug)), .val (.long (Int64.ofNat ua)), .second, .val (.long (Int64.ofNat ub)), .second, .val (.long (Int64.ofNat uc)), .second, .val (.long (Int64.ofNat ud)), .second, .val (.ref w1), .val (.ref i1), .val (.ref bu1), .unset, .unset] [(.ref bu1), (.ref bu33), (.ref bu33)])) rfl (by rw [hml]; rfl) (Steps.refl _) (argsL := []) (rest := [(.ref bu33), (.ref bu33)]) (lenOf pd_9 rfl) rfl (by show 2 * 0 + _ ≤ _; exact Nat.le_of_eq rfl) (hb hby at_189) (fun _ _ => ⟨rfl, eu33, (by decide : 12 + 0 ≤ _), (by decide : 238 + 0 ≤ _)⟩)
    dsimp only [Pt.U, Pt.locs, Pt.cells, Pt.slots] at Xu41 lu41 yu41 zu41 stu41 hQu41
    subst lu41 yu41 zu41
    obtain ⟨rfl, Nu41q, eu41⟩ := hQu41
    have Nu41 := Fr.app Nu22 Nu41q
    refine own_stepW (T' := Tu41) (g' := (mkF m 192 #[.val (.int x0), .val (.int x1), .val (.long x2), .second, .val (.long x4), .second, .val (.long x6), .second, .val (.long x8), .second, .val (.int (Int32.ofNat 1)), .val (.int (Int32.ofNat ut)), .val (.int (Int32.ofNat ug)), .val (.long (Int64.ofNat ua)), .second, .val (.long (Int64.ofNat ub)), .second, .val (.long (Int64.ofNat uc)), .second, .val (.long (Int64.ofNat ud)), .second, .val (.ref w1), .val (.ref i1), .val (.ref bu1), .unset, .unset] [(.ref bbu12), (.ref bu33), (.ref bu33)])) (fun _ k => stu41.trans k) ?_
    obtain ⟨_, _, ⟨Tu42, Lu42, ku42, nu42⟩, -, Xu42, hSu42, hgru42, ⟨Lcu42, hQu42, lu42, yu42, zu42⟩, stu42⟩ := Xu41.specialBackS hx (y := (⟨"com/example/impatiens/impatiens/statespace/StateReader", "<init>", "([B)V"⟩ : MethodName)) rfl hownv (mvT hZv (hw _ (List.mem_of_getElem? (i := 34) rfl))) (mvT hZv (hw _ (List.mem_of_getElem? (i := 35) rfl))) (mvT hZv (hw _ (List.mem_of_getElem? (i := 36) rfl))) (by decide) (backOfS (W := 1) (rm6 l Z a0 hw [] bu33 bbu12 kbu12 (own_enc 8 1 ++ own_encs ([(ut, ua + 1, uc)] : List (Nat × Nat × Nat))) .null hu33 n0 Zu33 Au33 g_bu33 qu39 qu40 qu37 qu38) hZv (hw _ (List.mem_of_getElem? (i := 36) rfl)) (hw _ (List.mem_of_getElem? (i := 28) rfl)) (by decide) (by decide)) (g := (mkF m 192 #[.val (.int x0), .val (.int x1), .val (.long x2), .second, .val (.long x4), .second, .val (.long x6), .second, .val (.long x8), .second, .val (.int (Int32.ofNat 1)), .val (.int (Int32.ofNat ut)), .val (.int (Int32.ofNat ug)), .val (.long (Int64.ofNat ua)), .second, .val (.long (Int64.ofNat ub)), .second, .val (.long (Int64.ofNat uc)), .second, .val (.long (Int64.ofNat ud)), .second, .val (.ref w1), .val (.ref i1), .val (.ref bu1), .unset, .unset] [(.ref bbu12), (.ref bu33), (.ref bu33)])) rfl (by rw [hml]; rfl) (Steps.refl _) (a := bu33) (argsL := [(.ref bbu12)]) (rest := [(.ref bu33)]) (lenOf pd_10 rfl) rfl (by show 2 * 0 + _ ≤ _; exact Nat.le_of_eq rfl) (hb hby at_192) (fun _ _ => ⟨rfl, eu41, (by decide : 12 + 2 ≤ _), (by decide : 238 + 92 ≤ _)⟩)
    dsimp only [Pt.U, Pt.locs, Pt.cells, Pt.slots] at Xu42 lu42 yu42 zu42 stu42 hQu42 hSu42 hgru42
    subst lu42 yu42 zu42
    generalize eu42 : Tu42.heap = hu42 at hQu42 hSu42 hgru42
    obtain ⟨rfl, Nu42q, Ku42, rdu42⟩ := hQu42
    have Zu42 : n0 ≤ hu42.size := Nat.le_trans Zu33 Ku42.1
    obtain ⟨Xu42r, hSu42r, hZu42, hownu42⟩ := rebS hSv (Nat.le_trans hku33 (Nat.le_of_eq (congrArg Array.size eu41.symm))) Xu42 hSu42 hgru42 hZv hownv
    have qu43 : Fld Z hu42 bu1 "com/example/impatiens/impatiens/statespace/StateWriter" "bytes" "[B" (.ref bbu12) := qu34.keep Ku42 (ninS neu33_bu1 nin0)
    have qu44 : Fld Z hu42 bu1 "com/example/impatiens/impatiens/statespace/StateWriter" "length" "I" (.int (Int32.ofNat (own_enc 8 1 ++ own_encs ([(ut, ua + 1, uc)] : List (Nat × Nat × Nat))).length)) := qu35.keep Ku42 (ninS neu33_bu1 nin0)
    have qu45 : Exa Z hu42 bu1 "com/example/impatiens/impatiens/statespace/StateWriter" := qu36.keep Ku42
    have qu46 : Exa Z hu42 bbu12 "[B" := qu37.keep Ku42
    have qu47 : Exa Z hu42 bu33 "com/example/impatiens/impatiens/statespace/StateReader" := Au33.keep Ku42
    have qu48 : Arv Z hu42 bbu12 kbu12 .byte (64 : Int32) ((own_enc 8 1 ++ own_encs ([(ut, ua + 1, uc)] : List (Nat × Nat × Nat))).map Value.int) (.int (0 : Int32)) := qu38.keep Ku42 (ninS neu33_bbu12 nin0)
    have Nu42 := Fr.app Nu41 Nu42q
    obtain ⟨EDu42, FbDu42, FpDu42, VbDu42, grDu42⟩ := rdu42
    refine own_stepW (T' := Tu42) (g' := (mkF m 195 #[.val (.int x0), .val (.int x1), .val (.long x2), .second, .val (.long x4), .second, .val (.long x6), .second, .val (.long x8), .second, .val (.int (Int32.ofNat 1)), .val (.int (Int32.ofNat ut)), .val (.int (Int32.ofNat ug)), .val (.long (Int64.ofNat ua)), .second, .val (.long (Int64.ofNat ub)), .second, .val (.long (Int64.ofNat uc)), .second, .val (.long (Int64.ofNat ud)), .second, .val (.ref w1), .val (.ref i1), .val (.ref bu1), .unset, .unset] [(.ref bu33)])) (fun _ k => stu42.trans k) ?_
    refine own_stepW (T' := Tu42) (g' := (mkF m 197 #[.val (.int x0), .val (.int x1), .val (.long x2), .second, .val (.long x4), .second, .val (.long x6), .second, .val (.long x8), .second, .val (.int (Int32.ofNat 1)), .val (.int (Int32.ofNat ut)), .val (.int (Int32.ofNat ug)), .val (.long (Int64.ofNat ua)), .second, .val (.long (Int64.ofNat ub)), .second, .val (.long (Int64.ofNat uc)), .second, .val (.long (Int64.ofNat ud)), .second, .val (.ref w1), .val (.ref i1), .val (.ref bu1), .val (.ref bu33), .unset] [])) (fun _ k => XS.astore Xu42r.here hx rfl (hb hby at_195) rfl rfl (l' := #[.val (.int x0), .val (.int x1), .val (.long x2), .second, .val (.long x4), .second, .val (.long x6), .second, .val (.long x8), .second, .val (.int (Int32.ofNat 1)), .val (.int (Int32.ofNat ut)), .val (.int (Int32.ofNat ug)), .val (.long (Int64.ofNat ua)), .second, .val (.long (Int64.ofNat ub)), .second, .val (.long (Int64.ofNat uc)), .second, .val (.long (Int64.ofNat ud)), .second, .val (.ref w1), .val (.ref i1), .val (.ref bu1), .val (.ref bu33), .unset]) rfl k) ?_
    exact B197_1 Tu42 _ hu42 w1 i1 bu1 bbu12 bu33 kbu12 Zu42 ⟨qu45, qu43, qu44, qu46, qu48, gwBu22, gbBu22⟩ ⟨EDu42, FbDu42, FpDu42, qu48, grDu42⟩ _ _ hSu42r (Nat.le_refl hu42.size) hZu42 hownu42 Xu42r eu42 Nu42
  have B145_1 : ∀ (T0 : State) (locs : List Loc) (hh : Heap) (w1 b1 : Addr) (k1 : ClassId), n0 ≤ hh.size → own_WR Z n0 hh w1 b1 k1 (own_enc 8 1 ++ own_encs ([(ut, ua, uc)] : List (Nat × Nat × Nat))) → Stand p l e room_1 (s.setVm s.vm) m #[(.int x0), (.int x1), (.long x2), (.long x4), (.long x6), (.long x8)] below meth c T0 locs 2 66 → T0.heap = hh → Fr n0 locs → own_GoesW p e below s (own_Law n0) 32 1408 T0 (mkF m 145 #[.val (.int x0), .val (.int x1), .val (.long x2), .second, .val (.long x4), .second, .val (.long x6), .second, .val (.long x8), .second, .val (.int (Int32.ofNat 1)), .val (.int (Int32.ofNat ut)), .val (.int (Int32.ofNat ug)), .val (.long (Int64.ofNat ua)), .second, .val (.long (Int64.ofNat ub)), .second, .val (.long (Int64.ofNat uc)), .second, .val (.long (Int64.ofNat ud)), .second, .val (.ref w1), .unset, .unset, .unset, .unset] []) := by
    intro T0 locs hh w1 b1 k1 Zh hWR X0 e0 N0
    have oqw := hWR
    obtain ⟨Ew, Fbw, Flw, Ebw, Vbw, gww, gbw⟩ := oqw
    have new : w1 ≠ b1 := Ew.neArv Vbw (hw _ (List.mem_of_getElem? (i := 7) rfl))
    obtain ⟨Tu1, hu1, Xu1, eu1, Eu1, Au1, Du1, -, stu1⟩ := newO X0 hx hZs howns (hw _ (List.mem_of_getElem? (i := 26) rfl)) (hw _ (List.mem_of_getElem? (i := 27) rfl)) (hw _ (List.mem_of_getElem? (i := 28) rfl)) e0 (g := (mkF m 145 #[.val (.int x0), .val (.int x1), .val (.long x2), .second, .val (.long x4), .second, .val (.long x6), .second, .val (.long x8), .second, .val (.int (Int32.ofNat 1)), .val (.int (Int32.ofNat ut)), .val (.int (Int32.ofNat ug)), .val (.long (Int64.ofNat ua)), .second, .val (.long (Int64.ofNat ub)), .second, .val (.long (Int64.ofNat uc)), .second, .val (.long (Int64.ofNat ud)), .second, .val (.ref w1), .unset, .unset, .unset, .unset] [])) rfl (hb hby at_145) (by decide) (by decide)
    obtain ⟨bu1, gu1⟩ : ∃ z, z = hh.size := ⟨_, rfl⟩
    rw [← gu1] at Au1 Du1 stu1
    have neu1_b1 : b1 ≠ bu1 := Nat.ne_of_lt (Nat.lt_of_lt_of_le Ebw.lt (Nat.le_of_eq gu1.symm))
    have neu1_w1 : w1 ≠ bu1 := Nat.ne_of_lt (Nat.lt_of_lt_of_le Fbw.lt (Nat.le_of_eq gu1.symm))
    have qu2 : Fld Z hu1 w1 "com/example/impatiens/impatiens/statespace/StateWriter" "bytes" "[B" (.ref b1) := Fbw.ext Eu1
    have qu3 : Fld Z hu1 w1 "com/example/impatiens/impatiens/statespace/StateWriter" "length" "I" (.int (Int32.ofNat (own_enc 8 1 ++ own_encs ([(ut, ua, uc)] : List (Nat × Nat × Nat))).length)) := Flw.ext Eu1
    have qu4 : Exa Z hu1 w1 "com/example/impatiens/impatiens/statespace/StateWriter" := Ew.ext Eu1
    have qu5 : Exa Z hu1 b1 "[B" := Ebw.ext Eu1
    have qu6 : Arv Z hu1 b1 k1 .byte (64 : Int32) ((own_enc 8 1 ++ own_encs ([(ut, ua, uc)] : List (Nat × Nat × Nat))).map Value.int) (.int (0 : Int32)) := Vbw.ext Eu1
    have qu7 : Fld Z hu1 bu1 "com/example/impatiens/impatiens/statespace/StateReader" "bytes" "[B" .null := Du1 (Or.inr (hw _ (List.mem_of_getElem? (i := 52) rfl))) (ty := (.array .byte)) (by decide)
    have qu8 : Fld Z hu1 bu1 "com/example/impatiens/impatiens/statespace/StateReader" "position" "I" (.int (0 : Int32)) := Du1 (Or.inl (hw _ (List.mem_of_getElem? (i := 63) rfl))) (ty := .int) (by decide)
    have g_bu1 : n0 ≤ bu1 := Nat.le_trans Zh (Nat.le_of_eq gu1.symm)
    have Zu1 : n0 ≤ hu1.size := Nat.le_trans Zh Eu1.1
    have hku1 := Nat.le_trans (Nat.zero_le _) Eu1.1
    refine own_stepW (T' := Tu1) (g' := (mkF m 148 #[.val (.int x0), .val (.int x1), .val (.long x2), .second, .val (.long x4), .second, .val (.long x6), .second, .val (.long x8), .second, .val (.int (Int32.ofNat 1)), .val (.int (Int32.ofNat ut)), .val (.int (Int32.ofNat ug)), .val (.long (Int64.ofNat ua)), .second, .val (.long (Int64.ofNat ub)), .second, .val (.long (Int64.ofNat uc)), .second, .val (.long (Int64.ofNat ud)), .second, .val (.ref w1), .unset, .unset, .unset, .unset] [(.ref bu1)])) (fun _ k => stu1 _ k) ?_
    refine own_stepW (T' := Tu1) (g' := (mkF m 149 #[.val (.int x0), .val (.int x1), .val (.long x2), .second, .val (.long x4), .second, .val (.long x6), .second, .val (.long x8), .second, .val (.int (Int32.ofNat 1)), .val (.int (Int32.ofNat ut)), .val (.int (Int32.ofNat ug)), .val (.long (Int64.ofNat ua)), .second, .val (.long (Int64.ofNat ub)), .second, .val (.long (Int64.ofNat uc)), .second, .val (.long (Int64.ofNat ud)), .second, .val (.ref w1), .unset, .unset, .unset, .unset] [(.ref bu1), (.ref bu1)])) (fun _ k => XS.dup Xu1.here hx rfl (hb hby at_148) rfl rfl k) ?_
    refine own_stepW (T' := Tu1) (g' := (mkF m 151 #[.val (.int x0), .val (.int x1), .val (.long x2), .second, .val (.long x4), .second, .val (.long x6), .second, .val (.long x8), .second, .val (.int (Int32.ofNat 1)), .val (.int (Int32.ofNat ut)), .val (.int (Int32.ofNat ug)), .val (.long (Int64.ofNat ua)), .second, .val (.long (Int64.ofNat ub)), .second, .val (.long (Int64.ofNat uc)), .second, .val (.long (Int64.ofNat ud)), .second, .val (.ref w1), .unset, .unset, .unset, .unset] [(.ref w1), (.ref bu1), (.ref bu1)])) (fun _ k => XS.aload Xu1.here hx rfl (hb hby at_149) rfl rfl k) ?_
    obtain ⟨cqu9, kqu9, qu9a, qu9b, qu9c⟩ := isOf hZs eu1 qu4
    obtain ⟨_, _, ⟨Tu9, Lu9, ku9, nu9⟩, -, Xu9, ⟨Lcu9, hQu9, lu9, yu9, zu9⟩, stu9⟩ := Xu1.virtualBack hx (y := (⟨"com/example/impatiens/impatiens/statespace/StateWriter", "buffer", "()[B"⟩ : MethodName)) (z := (⟨"com/example/impatiens/impatiens/statespace/StateWriter", "buffer", "()[B"⟩ : MethodName)) howns (mvT hZs (hw _ (List.mem_of_getElem? (i := 29) rfl))) (mvT hZs (hw _ (List.mem_of_getElem? (i := 30) rfl))) (notFace_of_selects (args := #[]) (mvT hZs (hw _ (List.mem_of_getElem? (i := 32) rfl)))) (mvT hZs (hw _ (List.mem_of_getElem? (i := 32) rfl))) (mvT hZs (hw _ (List.mem_of_getElem? (i := 31) rfl))) (by decide) (backOf (W := 2) (rm5 l Z a0 hw [] w1 b1 k1 (own_enc 8 1 ++ own_encs ([(ut, ua, uc)] : List (Nat × Nat × Nat))) hu1 n0 Zu1 ⟨qu4, qu2, qu3, qu5, qu6, gww, gbw⟩) hZs (hw _ (List.mem_of_getElem? (i := 33) rfl)) (hw _ (List.mem_of_getElem? (i := 8) rfl)) (by decide) (by decide)) qu9a qu9c (g := (mkF m 151 #[.val (.int x0), .val (.int x1), .val (.long x2), .second, .val (.long x4), .second, .val (.long x6), .second, .val (.long x8), .second, .val (.int (Int32.ofNat 1)), .val (.int (Int32.ofNat ut)), .val (.int (Int32.ofNat ug)), .val (.long (Int64.ofNat ua)), .second, .val (.long (Int64.ofNat ub)), .second, .val (.long (Int64.ofNat uc)), .second, .val (.long (Int64.ofNat ud)), .second, .val (.ref w1), .unset, .unset, .unset, .unset] [(.ref w1), (.ref bu1), (.ref bu1)])) rfl (by rw [hml]; rfl) (Steps.refl _) (argsL := []) (rest := [(.ref bu1), (.ref bu1)]) (lenOf pd_9 rfl) rfl (by show 2 * 0 + _ ≤ _; exact Nat.le_of_eq rfl) (hb hby at_151) (fun _ _ => ⟨rfl, eu1, (by decide : 3 + 0 ≤ _), (by decide : 68 + 0 ≤ _)⟩)
    dsimp only [Pt.U, Pt.locs, Pt.cells, Pt.slots] at Xu9 lu9 yu9 zu9 stu9 hQu9
    subst lu9 yu9 zu9
    obtain ⟨rfl, Nu9q, eu9⟩ := hQu9
    have Nu9 := Fr.app N0 Nu9q
    refine own_stepW (T' := Tu9) (g' := (mkF m 154 #[.val (.int x0), .val (.int x1), .val (.long x2), .second, .val (.long x4), .second, .val (.long x6), .second, .val (.long x8), .second, .val (.int (Int32.ofNat 1)), .val (.int (Int32.ofNat ut)), .val (.int (Int32.ofNat ug)), .val (.long (Int64.ofNat ua)), .second, .val (.long (Int64.ofNat ub)), .second, .val (.long (Int64.ofNat uc)), .second, .val (.long (Int64.ofNat ud)), .second, .val (.ref w1), .unset, .unset, .unset, .unset] [(.ref b1), (.ref bu1), (.ref bu1)])) (fun _ k => stu9.trans k) ?_
    obtain ⟨_, _, ⟨Tu10, Lu10, ku10, nu10⟩, -, Xu10, hSu10, hgru10, ⟨Lcu10, hQu10, lu10, yu10, zu10⟩, stu10⟩ := Xu9.specialBackS hx (y := (⟨"com/example/impatiens/impatiens/statespace/StateReader", "<init>", "([B)V"⟩ : MethodName)) rfl howns (mvT hZs (hw _ (List.mem_of_getElem? (i := 34) rfl))) (mvT hZs (hw _ (List.mem_of_getElem? (i := 35) rfl))) (mvT hZs (hw _ (List.mem_of_getElem? (i := 36) rfl))) (by decide) (backOfS (W := 1) (rm6 l Z a0 hw [] bu1 b1 k1 (own_enc 8 1 ++ own_encs ([(ut, ua, uc)] : List (Nat × Nat × Nat))) .null hu1 n0 Zu1 Au1 g_bu1 qu7 qu8 qu5 qu6) hZs (hw _ (List.mem_of_getElem? (i := 36) rfl)) (hw _ (List.mem_of_getElem? (i := 28) rfl)) (by decide) (by decide)) (g := (mkF m 154 #[.val (.int x0), .val (.int x1), .val (.long x2), .second, .val (.long x4), .second, .val (.long x6), .second, .val (.long x8), .second, .val (.int (Int32.ofNat 1)), .val (.int (Int32.ofNat ut)), .val (.int (Int32.ofNat ug)), .val (.long (Int64.ofNat ua)), .second, .val (.long (Int64.ofNat ub)), .second, .val (.long (Int64.ofNat uc)), .second, .val (.long (Int64.ofNat ud)), .second, .val (.ref w1), .unset, .unset, .unset, .unset] [(.ref b1), (.ref bu1), (.ref bu1)])) rfl (by rw [hml]; rfl) (Steps.refl _) (a := bu1) (argsL := [(.ref b1)]) (rest := [(.ref bu1)]) (lenOf pd_10 rfl) rfl (by show 2 * 0 + _ ≤ _; exact Nat.le_of_eq rfl) (hb hby at_154) (fun _ _ => ⟨rfl, eu9, (by decide : 3 + 2 ≤ _), (by decide : 68 + 92 ≤ _)⟩)
    dsimp only [Pt.U, Pt.locs, Pt.cells, Pt.slots] at Xu10 lu10 yu10 zu10 stu10 hQu10 hSu10 hgru10
    subst lu10 yu10 zu10
    generalize eu10 : Tu10.heap = hu10 at hQu10 hSu10 hgru10
    obtain ⟨rfl, Nu10q, Ku10, rdu10⟩ := hQu10
    have Zu10 : n0 ≤ hu10.size := Nat.le_trans Zu1 Ku10.1
    obtain ⟨Xu10r, hSu10r, hZu10, hownu10⟩ := rebS hS0 (Nat.le_trans hku1 (Nat.le_of_eq (congrArg Array.size eu9.symm))) Xu10 hSu10 hgru10 hZs howns
    have qu11 : Fld Z hu10 w1 "com/example/impatiens/impatiens/statespace/StateWriter" "bytes" "[B" (.ref b1) := qu2.keep Ku10 (ninS neu1_w1 nin0)
    have qu12 : Fld Z hu10 w1 "com/example/impatiens/impatiens/statespace/StateWriter" "length" "I" (.int (Int32.ofNat (own_enc 8 1 ++ own_encs ([(ut, ua, uc)] : List (Nat × Nat × Nat))).length)) := qu3.keep Ku10 (ninS neu1_w1 nin0)
    have qu13 : Exa Z hu10 w1 "com/example/impatiens/impatiens/statespace/StateWriter" := qu4.keep Ku10
    have qu14 : Exa Z hu10 b1 "[B" := qu5.keep Ku10
    have qu15 : Exa Z hu10 bu1 "com/example/impatiens/impatiens/statespace/StateReader" := Au1.keep Ku10
    have qu16 : Arv Z hu10 b1 k1 .byte (64 : Int32) ((own_enc 8 1 ++ own_encs ([(ut, ua, uc)] : List (Nat × Nat × Nat))).map Value.int) (.int (0 : Int32)) := qu6.keep Ku10 (ninS neu1_b1 nin0)
    have Nu10 := Fr.app Nu9 Nu10q
    obtain ⟨EDu10, FbDu10, FpDu10, VbDu10, grDu10⟩ := rdu10
    refine own_stepW (T' := Tu10) (g' := (mkF m 157 #[.val (.int x0), .val (.int x1), .val (.long x2), .second, .val (.long x4), .second, .val (.long x6), .second, .val (.long x8), .second, .val (.int (Int32.ofNat 1)), .val (.int (Int32.ofNat ut)), .val (.int (Int32.ofNat ug)), .val (.long (Int64.ofNat ua)), .second, .val (.long (Int64.ofNat ub)), .second, .val (.long (Int64.ofNat uc)), .second, .val (.long (Int64.ofNat ud)), .second, .val (.ref w1), .unset, .unset, .unset, .unset] [(.ref bu1)])) (fun _ k => stu10.trans k) ?_
    obtain ⟨_, _, ⟨Tu17, Lu17, ku17, nu17⟩, -, Xu17, ⟨Lcu17, hQu17, lu17, yu17, zu17⟩, stu17⟩ := Jvm.LawKit.callS Xu10r hx (y := (⟨"com/example/impatiens/impatiens/itpn/Instances", "read", "(Lcom/example/impatiens/impatiens/statespace/StateReader;)Lcom/example/impatiens/impatiens/itpn/Instances;"⟩ : MethodName)) hownu10 (mvT hZu10 (hw _ (List.mem_of_getElem? (i := 53) rfl))) (mvT hZu10 (hw _ (List.mem_of_getElem? (i := 54) rfl))) (mvT hZu10 (hw _ (List.mem_of_getElem? (i := 55) rfl))) (mvT hZu10 (hw _ (List.mem_of_getElem? (i := 56) rfl))) (by decide) (backOf (W := 0) (rm8 l Z a0 hw [] bu1 b1 k1 (own_enc 8 1 ++ own_encs ([(ut, ua, uc)] : List (Nat × Nat × Nat))) [] 0 ([(ut, ua, uc)] : List (Nat × Nat × Nat)) hu10 n0 Zu10 hV1 (by simp) hG1 hA1 ⟨EDu10, FbDu10, FpDu10, qu16, grDu10⟩) hZu10 (hw _ (List.mem_of_getElem? (i := 56) rfl)) (hw _ (List.mem_of_getElem? (i := 55) rfl)) (by decide) (by decide)) (g := (mkF m 157 #[.val (.int x0), .val (.int x1), .val (.long x2), .second, .val (.long x4), .second, .val (.long x6), .second, .val (.long x8), .second, .val (.int (Int32.ofNat 1)), .val (.int (Int32.ofNat ut)), .val (.int (Int32.ofNat ug)), .val (.long (Int64.ofNat ua)), .second, .val (.long (Int64.ofNat ub)), .second, .val (.long (Int64.ofNat uc)), .second, .val (.long (Int64.ofNat ud)), .second, .val (.ref w1), .unset, .unset, .unset, .unset] [(.ref bu1)])) rfl (by rw [hml]; rfl) (argsL := [(.ref bu1)]) (rest := []) (lenOf pd_11 rfl) rfl (by show 2 * 0 + _ ≤ _; exact Nat.le_of_eq rfl) (hb hby at_157) (fun _ _ => ⟨rfl, eu10, (by decide : 5 + 4 ≤ _), (by decide : 160 + 10 ≤ _)⟩)
    dsimp only [Pt.U, Pt.locs, Pt.cells, Pt.slots] at Xu17 lu17 yu17 zu17 stu17 hQu17
    subst lu17 yu17 zu17
    generalize eu17 : Tu17.heap = hu17 at hQu17
    obtain ⟨iu17, tau17, aau17, cau17, ktu17, kau17, kcu17, rfl, Nu17q, Ku17, isu17⟩ := hQu17
    have Zu17 : n0 ≤ hu17.size := Nat.le_trans Zu10 Ku17.1
    have hku17 := Nat.le_trans (Nat.le_refl hu10.size) Ku17.1
    have qu18 : Fld Z hu17 w1 "com/example/impatiens/impatiens/statespace/StateWriter" "bytes" "[B" (.ref b1) := qu11.keep Ku17 (ninS neu1_w1 nin0)
    have qu19 : Fld Z hu17 w1 "com/example/impatiens/impatiens/statespace/StateWriter" "length" "I" (.int (Int32.ofNat (own_enc 8 1 ++ own_encs ([(ut, ua, uc)] : List (Nat × Nat × Nat))).length)) := qu12.keep Ku17 (ninS neu1_w1 nin0)
    have qu20 : Exa Z hu17 w1 "com/example/impatiens/impatiens/statespace/StateWriter" := qu13.keep Ku17
    have qu21 : Exa Z hu17 b1 "[B" := qu14.keep Ku17
    have qu22 : Exa Z hu17 bu1 "com/example/impatiens/impatiens/statespace/StateReader" := EDu10.keep Ku17
    have qu23 : Arv Z hu17 b1 k1 .byte (64 : Int32) ((own_enc 8 1 ++ own_encs ([(ut, ua, uc)] : List (Nat × Nat × Nat))).map Value.int) (.int (0 : Int32)) := qu16.keep Ku17 (ninS neu1_b1 nin0)
    have Nu17 := Fr.app Nu10 Nu17q
    refine own_stepW (T' := Tu17) (g' := (mkF m 160 #[.val (.int x0), .val (.int x1), .val (.long x2), .second, .val (.long x4), .second, .val (.long x6), .second, .val (.long x8), .second, .val (.int (Int32.ofNat 1)), .val (.int (Int32.ofNat ut)), .val (.int (Int32.ofNat ug)), .val (.long (Int64.ofNat ua)), .second, .val (.long (Int64.ofNat ub)), .second, .val (.long (Int64.ofNat uc)), .second, .val (.long (Int64.ofNat ud)), .second, .val (.ref w1), .unset, .unset, .unset, .unset] [(.ref iu17)])) (fun _ k => stu17 _ k) ?_
    have isT := isu17
    have oqT := isT
    obtain ⟨ET, FtT, FaT, FcT, FnT, VtT, VaT, VcT, ⟨ntaT, ntcT, nacT⟩, giT, gtT, gaT, gcT⟩ := oqT
    have ni_tau17T : iu17 ≠ tau17 := ET.neArv VtT (hw _ (List.mem_of_getElem? (i := 68) rfl))
    have ni_aau17T : iu17 ≠ aau17 := ET.neArv VaT (hw _ (List.mem_of_getElem? (i := 68) rfl))
    have ni_cau17T : iu17 ≠ cau17 := ET.neArv VcT (hw _ (List.mem_of_getElem? (i := 68) rfl))
    refine own_stepW (T' := Tu17) (g' := (mkF m 162 #[.val (.int x0), .val (.int x1), .val (.long x2), .second, .val (.long x4), .second, .val (.long x6), .second, .val (.long x8), .second, .val (.int (Int32.ofNat 1)), .val (.int (Int32.ofNat ut)), .val (.int (Int32.ofNat ug)), .val (.long (Int64.ofNat ua)), .second, .val (.long (Int64.ofNat ub)), .second, .val (.long (Int64.ofNat uc)), .second, .val (.long (Int64.ofNat ud)), .second, .val (.ref w1), .val (.ref iu17), .unset, .unset, .unset] [])) (fun _ k => XS.astore Xu17.here hx rfl (hb hby at_160) rfl rfl (l' := #[.val (.int x0), .val (.int x1), .val (.long x2), .second, .val (.long x4), .second, .val (.long x6), .second, .val (.long x8), .second, .val (.int (Int32.ofNat 1)), .val (.int (Int32.ofNat ut)), .val (.int (Int32.ofNat ug)), .val (.long (Int64.ofNat ua)), .second, .val (.long (Int64.ofNat ub)), .second, .val (.long (Int64.ofNat uc)), .second, .val (.long (Int64.ofNat ud)), .second, .val (.ref w1), .val (.ref iu17), .unset, .unset, .unset]) rfl k) ?_
    refine own_stepW (T' := Tu17) (g' := (mkF m 164 #[.val (.int x0), .val (.int x1), .val (.long x2), .second, .val (.long x4), .second, .val (.long x6), .second, .val (.long x8), .second, .val (.int (Int32.ofNat 1)), .val (.int (Int32.ofNat ut)), .val (.int (Int32.ofNat ug)), .val (.long (Int64.ofNat ua)), .second, .val (.long (Int64.ofNat ub)), .second, .val (.long (Int64.ofNat uc)), .second, .val (.long (Int64.ofNat ud)), .second, .val (.ref w1), .val (.ref iu17), .unset, .unset, .unset] [(.ref iu17)])) (fun _ k => XS.aload Xu17.here hx rfl (hb hby at_162) rfl rfl k) ?_
    obtain ⟨cqu24, kqu24, qu24a, qu24b, qu24c⟩ := isOf hZu10 eu17 ET
    obtain ⟨_, _, ⟨Tu24, Lu24, ku24, nu24⟩, -, Xu24, ⟨Lcu24, hQu24, lu24, yu24, zu24⟩, stu24⟩ := Xu17.virtualBack hx (y := (⟨"com/example/impatiens/impatiens/itpn/Instances", "tick", "()V"⟩ : MethodName)) (z := (⟨"com/example/impatiens/impatiens/itpn/Instances", "tick", "()V"⟩ : MethodName)) hownu10 (mvT hZu10 (hw _ (List.mem_of_getElem? (i := 83) rfl))) (mvT hZu10 (hw _ (List.mem_of_getElem? (i := 84) rfl))) (notFace_of_selects (args := #[]) (mvT hZu10 (hw _ (List.mem_of_getElem? (i := 86) rfl)))) (mvT hZu10 (hw _ (List.mem_of_getElem? (i := 86) rfl))) (mvT hZu10 (hw _ (List.mem_of_getElem? (i := 85) rfl))) (by decide) (backOf (W := 0) (rm12 l Z a0 hw [] iu17 tau17 aau17 cau17 ktu17 kau17 kcu17 ([(ut, ua, uc)] : List (Nat × Nat × Nat)).length ((own_ts 0 ([(ut, ua, uc)] : List (Nat × Nat × Nat))).map Int32.ofNat) (([(ut, ua, uc)] : List (Nat × Nat × Nat)).map (fun g => Int64.ofNat g.2.1)) (([(ut, ua, uc)] : List (Nat × Nat × Nat)).map (fun g => Int64.ofNat g.2.2)) hu17 n0 Zu17 (by simp) (by simp) ⟨ET, FtT, FaT, FcT, FnT, VtT, VaT, VcT, ⟨ntaT, ntcT, nacT⟩, giT, gtT, gaT, gcT⟩) hZu10 (hw _ (List.mem_of_getElem? (i := 87) rfl)) (hw _ (List.mem_of_getElem? (i := 55) rfl)) (by decide) (by decide)) qu24a qu24c (g := (mkF m 164 #[.val (.int x0), .val (.int x1), .val (.long x2), .second, .val (.long x4), .second, .val (.long x6), .second, .val (.long x8), .second, .val (.int (Int32.ofNat 1)), .val (.int (Int32.ofNat ut)), .val (.int (Int32.ofNat ug)), .val (.long (Int64.ofNat ua)), .second, .val (.long (Int64.ofNat ub)), .second, .val (.long (Int64.ofNat uc)), .second, .val (.long (Int64.ofNat ud)), .second, .val (.ref w1), .val (.ref iu17), .unset, .unset, .unset] [(.ref iu17)])) rfl (by rw [hml]; rfl) (Steps.refl _) (argsL := []) (rest := []) (lenOf pd_7 rfl) rfl (by show 2 * 0 + _ ≤ _; exact Nat.le_of_eq rfl) (hb hby at_164) (fun _ _ => ⟨rfl, eu17, (by decide : 9 + 0 ≤ _), (by decide : 170 + 0 ≤ _)⟩)
    dsimp only [Pt.U, Pt.locs, Pt.cells, Pt.slots] at Xu24 lu24 yu24 zu24 stu24 hQu24
    subst lu24 yu24 zu24
    generalize eu24 : Tu24.heap = hu24 at hQu24
    obtain ⟨rfl, Nu24q, Ku24, isu24⟩ := hQu24
    have Zu24 : n0 ≤ hu24.size := Nat.le_trans Zu17 Ku24.1
    have hku24 := Nat.le_trans hku17 Ku24.1
    have qu25 : Fld Z hu24 iu17 "com/example/impatiens/impatiens/itpn/Instances" "transitions" "[I" (.ref tau17) := FtT.keep Ku24 (ninS ni_aau17T nin0)
    have qu26 : Fld Z hu24 iu17 "com/example/impatiens/impatiens/itpn/Instances" "ages" "[J" (.ref aau17) := FaT.keep Ku24 (ninS ni_aau17T nin0)
    have qu27 : Fld Z hu24 iu17 "com/example/impatiens/impatiens/itpn/Instances" "counts" "[J" (.ref cau17) := FcT.keep Ku24 (ninS ni_aau17T nin0)
    have qu28 : Fld Z hu24 iu17 "com/example/impatiens/impatiens/itpn/Instances" "size" "I" (.int (Int32.ofNat ([(ut, ua, uc)] : List (Nat × Nat × Nat)).length)) := FnT.keep Ku24 (ninS ni_aau17T nin0)
    have qu29 : Exa Z hu24 iu17 "com/example/impatiens/impatiens/itpn/Instances" := ET.keep Ku24
    have qu30 : Arv Z hu24 tau17 ktu17 .int (Int32.ofNat ([(ut, ua, uc)] : List (Nat × Nat × Nat)).length) (((own_ts 0 ([(ut, ua, uc)] : List (Nat × Nat × Nat))).map Int32.ofNat).map Value.int) (.int (0 : Int32)) := VtT.keep Ku24 (ninS ntaT nin0)
    have qu31 : Arv Z hu24 cau17 kcu17 .long (Int32.ofNat ([(ut, ua, uc)] : List (Nat × Nat × Nat)).length) ((([(ut, ua, uc)] : List (Nat × Nat × Nat)).map (fun g => Int64.ofNat g.2.2)).map Value.long) (.long (0 : Int64)) := VcT.keep Ku24 (ninS (Ne.symm nacT) nin0)
    have Nu24 := Fr.app Nu17 Nu24q
    have hagree : (([(ut, ua + 1, uc)] : List (Nat × Nat × Nat)).map (fun g => Int64.ofNat g.2.1)) = ((([(ut, ua, uc)] : List (Nat × Nat × Nat)).map (fun g => Int64.ofNat g.2.1))).map (· + 1) := by simp only [List.map_cons, List.map_nil, own_succ64]
    have isU : own_IS Z n0 hu24 iu17 tau17 aau17 cau17 ktu17 kau17 kcu17 ([(ut, ua + 1, uc)] : List (Nat × Nat × Nat)).length ((own_ts 0 ([(ut, ua + 1, uc)] : List (Nat × Nat × Nat))).map Int32.ofNat) (([(ut, ua + 1, uc)] : List (Nat × Nat × Nat)).map (fun g => Int64.ofNat g.2.1)) (([(ut, ua + 1, uc)] : List (Nat × Nat × Nat)).map (fun g => Int64.ofNat g.2.2)) := by rw [hagree]; exact isu24
    refine own_stepW (T' := Tu24) (g' := (mkF m 167 #[.val (.int x0), .val (.int x1), .val (.long x2), .second, .val (.long x4), .second, .val (.long x6), .second, .val (.long x8), .second, .val (.int (Int32.ofNat 1)), .val (.int (Int32.ofNat ut)), .val (.int (Int32.ofNat ug)), .val (.long (Int64.ofNat ua)), .second, .val (.long (Int64.ofNat ub)), .second, .val (.long (Int64.ofNat uc)), .second, .val (.long (Int64.ofNat ud)), .second, .val (.ref w1), .val (.ref iu17), .unset, .unset, .unset] [])) (fun _ k => stu24.trans k) ?_
    exact B167_1 Tu24 _ hu24 w1 iu17 tau17 aau17 cau17 ktu17 kau17 kcu17 Zu24 isU _ _ hSu10r hku24 hZu10 hownu10 Xu24 eu24 Nu24
  have B72_1 : ∀ (T0 : State) (locs : List Loc) (hh : Heap), n0 ≤ hh.size → Stand p l e room_1 (s.setVm s.vm) m #[(.int x0), (.int x1), (.long x2), (.long x4), (.long x6), (.long x8)] below meth c T0 locs 0 0 → T0.heap = hh → Fr n0 locs → own_GoesW p e below s (own_Law n0) 32 1408 T0 (mkF m 72 #[.val (.int x0), .val (.int x1), .val (.long x2), .second, .val (.long x4), .second, .val (.long x6), .second, .val (.long x8), .second, .val (.int (Int32.ofNat 1)), .val (.int (Int32.ofNat ut)), .val (.int (Int32.ofNat ug)), .val (.long (Int64.ofNat ua)), .second, .val (.long (Int64.ofNat ub)), .second, .val (.long (Int64.ofNat uc)), .second, .val (.long (Int64.ofNat ud)), .second, .unset, .unset, .unset, .unset, .unset] []) := by
    intro T0 locs hh  Zh  X0 e0 N0
    have hlen0 : (([] : List Int32) ++ own_enc 8 1).length + 10 ≤ 64 := by simp only [List.length_append, List.length_nil]; omega
    have hlen1 : ((([] : List Int32) ++ own_enc 8 1) ++ own_enc 8 ut).length + 10 ≤ 64 := by simp only [List.length_append, List.length_nil]; omega
    have hlen2 : (((([] : List Int32) ++ own_enc 8 1) ++ own_enc 8 ut) ++ own_enc 8 ua).length + 10 ≤ 64 := by simp only [List.length_append, List.length_nil]; omega
    obtain ⟨Tu1, hu1, Xu1, eu1, Eu1, Au1, Du1, -, stu1⟩ := newO X0 hx hZs howns (hw _ (List.mem_of_getElem? (i := 6) rfl)) (hw _ (List.mem_of_getElem? (i := 7) rfl)) (hw _ (List.mem_of_getElem? (i := 8) rfl)) e0 (g := (mkF m 72 #[.val (.int x0), .val (.int x1), .val (.long x2), .second, .val (.long x4), .second, .val (.long x6), .second, .val (.long x8), .second, .val (.int (Int32.ofNat 1)), .val (.int (Int32.ofNat ut)), .val (.int (Int32.ofNat ug)), .val (.long (Int64.ofNat ua)), .second, .val (.long (Int64.ofNat ub)), .second, .val (.long (Int64.ofNat uc)), .second, .val (.long (Int64.ofNat ud)), .second, .unset, .unset, .unset, .unset, .unset] [])) rfl (hb hby at_72) (by decide) (by decide)
    obtain ⟨bu1, gu1⟩ : ∃ z, z = hh.size := ⟨_, rfl⟩
    rw [← gu1] at Au1 Du1 stu1
    have qu2 : Fld Z hu1 bu1 "com/example/impatiens/impatiens/statespace/StateWriter" "bytes" "[B" .null := Du1 (Or.inl (hw _ (List.mem_of_getElem? (i := 17) rfl))) (ty := (.array .byte)) (by decide)
    have qu3 : Fld Z hu1 bu1 "com/example/impatiens/impatiens/statespace/StateWriter" "length" "I" (.int (0 : Int32)) := Du1 (Or.inl (hw _ (List.mem_of_getElem? (i := 24) rfl))) (ty := .int) (by decide)
    have g_bu1 : n0 ≤ bu1 := Nat.le_trans Zh (Nat.le_of_eq gu1.symm)
    have Zu1 : n0 ≤ hu1.size := Nat.le_trans Zh Eu1.1
    have hku1 := Nat.le_trans (Nat.zero_le _) Eu1.1
    refine own_stepW (T' := Tu1) (g' := (mkF m 75 #[.val (.int x0), .val (.int x1), .val (.long x2), .second, .val (.long x4), .second, .val (.long x6), .second, .val (.long x8), .second, .val (.int (Int32.ofNat 1)), .val (.int (Int32.ofNat ut)), .val (.int (Int32.ofNat ug)), .val (.long (Int64.ofNat ua)), .second, .val (.long (Int64.ofNat ub)), .second, .val (.long (Int64.ofNat uc)), .second, .val (.long (Int64.ofNat ud)), .second, .unset, .unset, .unset, .unset, .unset] [(.ref bu1)])) (fun _ k => stu1 _ k) ?_
    refine own_stepW (T' := Tu1) (g' := (mkF m 76 #[.val (.int x0), .val (.int x1), .val (.long x2), .second, .val (.long x4), .second, .val (.long x6), .second, .val (.long x8), .second, .val (.int (Int32.ofNat 1)), .val (.int (Int32.ofNat ut)), .val (.int (Int32.ofNat ug)), .val (.long (Int64.ofNat ua)), .second, .val (.long (Int64.ofNat ub)), .second, .val (.long (Int64.ofNat uc)), .second, .val (.long (Int64.ofNat ud)), .second, .unset, .unset, .unset, .unset, .unset] [(.ref bu1), (.ref bu1)])) (fun _ k => XS.dup Xu1.here hx rfl (hb hby at_75) rfl rfl k) ?_
    obtain ⟨_, _, ⟨Tu4, Lu4, ku4, nu4⟩, -, Xu4, ⟨Lcu4, hQu4, lu4, yu4, zu4⟩, stu4⟩ := Xu1.specialBack hx (y := (⟨"com/example/impatiens/impatiens/statespace/StateWriter", "<init>", "()V"⟩ : MethodName)) rfl howns (mvT hZs (hw _ (List.mem_of_getElem? (i := 9) rfl))) (mvT hZs (hw _ (List.mem_of_getElem? (i := 10) rfl))) (mvT hZs (hw _ (List.mem_of_getElem? (i := 11) rfl))) (by decide) (backOf (W := 1) (rm2 l Z a0 hw [] bu1 .null hu1 n0 Zu1 Au1 g_bu1 qu2 qu3) hZs (hw _ (List.mem_of_getElem? (i := 11) rfl)) (hw _ (List.mem_of_getElem? (i := 8) rfl)) (by decide) (by decide)) (g := (mkF m 76 #[.val (.int x0), .val (.int x1), .val (.long x2), .second, .val (.long x4), .second, .val (.long x6), .second, .val (.long x8), .second, .val (.int (Int32.ofNat 1)), .val (.int (Int32.ofNat ut)), .val (.int (Int32.ofNat ug)), .val (.long (Int64.ofNat ua)), .second, .val (.long (Int64.ofNat ub)), .second, .val (.long (Int64.ofNat uc)), .second, .val (.long (Int64.ofNat ud)), .second, .unset, .unset, .unset, .unset, .unset] [(.ref bu1), (.ref bu1)])) rfl (by rw [hml]; rfl) (Steps.refl _) (a := bu1) (argsL := []) (rest := [(.ref bu1)]) (lenOf pd_7 rfl) rfl (by show 2 * 0 + _ ≤ _; exact Nat.le_of_eq rfl) (hb hby at_76) (fun _ _ => ⟨rfl, eu1, (by decide : 1 + 1 ≤ _), (by decide : 2 + 64 ≤ _)⟩)
    dsimp only [Pt.U, Pt.locs, Pt.cells, Pt.slots] at Xu4 lu4 yu4 zu4 stu4 hQu4
    subst lu4 yu4 zu4
    generalize eu4 : Tu4.heap = hu4 at hQu4
    obtain ⟨rfl, Nu4q, Ku4, bbu4, kbu4, szbu4, wru4⟩ := hQu4
    have Zu4 : n0 ≤ hu4.size := Nat.le_trans Zu1 Ku4.1
    have hku4 := Nat.le_trans hku1 Ku4.1
    have qu5 : Exa Z hu4 bu1 "com/example/impatiens/impatiens/statespace/StateWriter" := Au1.keep Ku4
    have Nu4 := Fr.app N0 Nu4q
    have nbu4_bu1 : bu1 ≠ bbu4 := Nat.ne_of_lt (Nat.lt_of_lt_of_le qu2.lt szbu4)
    obtain ⟨EIu4, FbIu4, FlIu4, EbIu4, VbIu4, gwIu4, gbIu4⟩ := wru4
    refine own_stepW (T' := Tu4) (g' := (mkF m 79 #[.val (.int x0), .val (.int x1), .val (.long x2), .second, .val (.long x4), .second, .val (.long x6), .second, .val (.long x8), .second, .val (.int (Int32.ofNat 1)), .val (.int (Int32.ofNat ut)), .val (.int (Int32.ofNat ug)), .val (.long (Int64.ofNat ua)), .second, .val (.long (Int64.ofNat ub)), .second, .val (.long (Int64.ofNat uc)), .second, .val (.long (Int64.ofNat ud)), .second, .unset, .unset, .unset, .unset, .unset] [(.ref bu1)])) (fun _ k => stu4.trans k) ?_
    refine own_stepW (T' := Tu4) (g' := (mkF m 81 #[.val (.int x0), .val (.int x1), .val (.long x2), .second, .val (.long x4), .second, .val (.long x6), .second, .val (.long x8), .second, .val (.int (Int32.ofNat 1)), .val (.int (Int32.ofNat ut)), .val (.int (Int32.ofNat ug)), .val (.long (Int64.ofNat ua)), .second, .val (.long (Int64.ofNat ub)), .second, .val (.long (Int64.ofNat uc)), .second, .val (.long (Int64.ofNat ud)), .second, .val (.ref bu1), .unset, .unset, .unset, .unset] [])) (fun _ k => XS.astore Xu4.here hx rfl (hb hby at_79) rfl rfl (l' := #[.val (.int x0), .val (.int x1), .val (.long x2), .second, .val (.long x4), .second, .val (.long x6), .second, .val (.long x8), .second, .val (.int (Int32.ofNat 1)), .val (.int (Int32.ofNat ut)), .val (.int (Int32.ofNat ug)), .val (.long (Int64.ofNat ua)), .second, .val (.long (Int64.ofNat ub)), .second, .val (.long (Int64.ofNat uc)), .second, .val (.long (Int64.ofNat ud)), .second, .val (.ref bu1), .unset, .unset, .unset, .unset]) rfl k) ?_
    refine own_stepW (T' := Tu4) (g' := (mkF m 83 #[.val (.int x0), .val (.int x1), .val (.long x2), .second, .val (.long x4), .second, .val (.long x6), .second, .val (.long x8), .second, .val (.int (Int32.ofNat 1)), .val (.int (Int32.ofNat ut)), .val (.int (Int32.ofNat ug)), .val (.long (Int64.ofNat ua)), .second, .val (.long (Int64.ofNat ub)), .second, .val (.long (Int64.ofNat uc)), .second, .val (.long (Int64.ofNat ud)), .second, .val (.ref bu1), .unset, .unset, .unset, .unset] [(.ref bu1)])) (fun _ k => XS.aload Xu4.here hx rfl (hb hby at_81) rfl rfl k) ?_
    refine own_stepW (T' := Tu4) (g' := (mkF m 85 #[.val (.int x0), .val (.int x1), .val (.long x2), .second, .val (.long x4), .second, .val (.long x6), .second, .val (.long x8), .second, .val (.int (Int32.ofNat 1)), .val (.int (Int32.ofNat ut)), .val (.int (Int32.ofNat ug)), .val (.long (Int64.ofNat ua)), .second, .val (.long (Int64.ofNat ub)), .second, .val (.long (Int64.ofNat uc)), .second, .val (.long (Int64.ofNat ud)), .second, .val (.ref bu1), .unset, .unset, .unset, .unset] [(.int (Int32.ofNat 1)), (.ref bu1)])) (fun _ k => XS.iload Xu4.here hx rfl (hb hby at_83) rfl k) ?_
    refine own_stepW (T' := Tu4) (g' := (mkF m 86 #[.val (.int x0), .val (.int x1), .val (.long x2), .second, .val (.long x4), .second, .val (.long x6), .second, .val (.long x8), .second, .val (.int (Int32.ofNat 1)), .val (.int (Int32.ofNat ut)), .val (.int (Int32.ofNat ug)), .val (.long (Int64.ofNat ua)), .second, .val (.long (Int64.ofNat ub)), .second, .val (.long (Int64.ofNat uc)), .second, .val (.long (Int64.ofNat ud)), .second, .val (.ref bu1), .unset, .unset, .unset, .unset] [(.long ((Int32.ofNat 1).toInt64)), (.ref bu1)])) (fun _ k => XS.i2l Xu4.here hx rfl (hb hby at_85) rfl k) ?_
    obtain ⟨cqu6, kqu6, qu6a, qu6b, qu6c⟩ := isOf hZs eu4 EIu4
    obtain ⟨_, _, ⟨Tu6, Lu6, ku6, nu6⟩, -, Xu6, ⟨Lcu6, hQu6, lu6, yu6, zu6⟩, stu6⟩ := Xu4.virtualBack hx (y := (⟨"com/example/impatiens/impatiens/statespace/StateWriter", "writeLong", "(J)V"⟩ : MethodName)) (z := (⟨"com/example/impatiens/impatiens/statespace/StateWriter", "writeLong", "(J)V"⟩ : MethodName)) howns (mvT hZs (hw _ (List.mem_of_getElem? (i := 18) rfl))) (mvT hZs (hw _ (List.mem_of_getElem? (i := 19) rfl))) (notFace_of_selects (args := #[]) (mvT hZs (hw _ (List.mem_of_getElem? (i := 21) rfl)))) (mvT hZs (hw _ (List.mem_of_getElem? (i := 21) rfl))) (mvT hZs (hw _ (List.mem_of_getElem? (i := 20) rfl))) (by decide) (backOf (W := 0) (rm4 l Z a0 hw [] bu1 ((Int32.ofNat 1).toInt64) bbu4 kbu4 ([] : List Int32) 1 hu4 n0 Zu4 (own_i2l 1 (by decide)) (by decide) (by decide) ⟨EIu4, FbIu4, FlIu4, EbIu4, VbIu4, gwIu4, gbIu4⟩) hZs (hw _ (List.mem_of_getElem? (i := 22) rfl)) (hw _ (List.mem_of_getElem? (i := 8) rfl)) (by decide) (by decide)) qu6a qu6c (g := (mkF m 86 #[.val (.int x0), .val (.int x1), .val (.long x2), .second, .val (.long x4), .second, .val (.long x6), .second, .val (.long x8), .second, .val (.int (Int32.ofNat 1)), .val (.int (Int32.ofNat ut)), .val (.int (Int32.ofNat ug)), .val (.long (Int64.ofNat ua)), .second, .val (.long (Int64.ofNat ub)), .second, .val (.long (Int64.ofNat uc)), .second, .val (.long (Int64.ofNat ud)), .second, .val (.ref bu1), .unset, .unset, .unset, .unset] [(.long ((Int32.ofNat 1).toInt64)), (.ref bu1)])) rfl (by rw [hml]; rfl) (Steps.refl _) (argsL := [(.long ((Int32.ofNat 1).toInt64))]) (rest := []) (lenOf pd_4 rfl) rfl (by show 2 * 0 + _ ≤ _; exact Nat.le_of_eq rfl) (hb hby at_86) (fun _ _ => ⟨rfl, eu4, (by decide : 2 + 0 ≤ _), (by decide : 66 + 0 ≤ _)⟩)
    dsimp only [Pt.U, Pt.locs, Pt.cells, Pt.slots] at Xu6 lu6 yu6 zu6 stu6 hQu6
    subst lu6 yu6 zu6
    generalize eu6 : Tu6.heap = hu6 at hQu6
    obtain ⟨rfl, Nu6q, Ku6, wru6⟩ := hQu6
    have Zu6 : n0 ≤ hu6.size := Nat.le_trans Zu4 Ku6.1
    have hku6 := Nat.le_trans hku4 Ku6.1
    have qu7 : Exa Z hu6 bu1 "com/example/impatiens/impatiens/statespace/StateWriter" := EIu4.keep Ku6
    have qu8 : Exa Z hu6 bbu4 "[B" := EbIu4.keep Ku6
    have Nu6 := Fr.app Nu4 Nu6q
    obtain ⟨EWu6, FbWu6, FlWu6, EbWu6, VbWu6, gwWu6, gbWu6⟩ := wru6
    refine own_stepW (T' := Tu6) (g' := (mkF m 89 #[.val (.int x0), .val (.int x1), .val (.long x2), .second, .val (.long x4), .second, .val (.long x6), .second, .val (.long x8), .second, .val (.int (Int32.ofNat 1)), .val (.int (Int32.ofNat ut)), .val (.int (Int32.ofNat ug)), .val (.long (Int64.ofNat ua)), .second, .val (.long (Int64.ofNat ub)), .second, .val (.long (Int64.ofNat uc)), .second, .val (.long (Int64.ofNat ud)), .second, .val (.ref bu1), .unset, .unset, .unset, .unset] [])) (fun _ k => stu6.trans k) ?_
    refine own_stepW (T' := Tu6) (g' := (mkF m 91 #[.val (.int x0), .val (.int x1), .val (.long x2), .second, .val (.long x4), .second, .val (.long x6), .second, .val (.long x8), .second, .val (.int (Int32.ofNat 1)), .val (.int (Int32.ofNat ut)), .val (.int (Int32.ofNat ug)), .val (.long (Int64.ofNat ua)), .second, .val (.long (Int64.ofNat ub)), .second, .val (.long (Int64.ofNat uc)), .second, .val (.long (Int64.ofNat ud)), .second, .val (.ref bu1), .unset, .unset, .unset, .unset] [(.int (Int32.ofNat 1))])) (fun _ k => XS.iload Xu6.here hx rfl (hb hby at_89) rfl k) ?_
    refine own_stepW (T' := Tu6) (g' := (mkF m 92 #[.val (.int x0), .val (.int x1), .val (.long x2), .second, .val (.long x4), .second, .val (.long x6), .second, .val (.long x8), .second, .val (.int (Int32.ofNat 1)), .val (.int (Int32.ofNat ut)), .val (.int (Int32.ofNat ug)), .val (.long (Int64.ofNat ua)), .second, .val (.long (Int64.ofNat ub)), .second, .val (.long (Int64.ofNat uc)), .second, .val (.long (Int64.ofNat ud)), .second, .val (.ref bu1), .unset, .unset, .unset, .unset] [(.int (1 : Int32)), (.int (Int32.ofNat 1))])) (fun _ k => XS.iconst Xu6.here hx rfl (hb hby at_91) k) ?_
    have hcu9 : ¬ ((Int32.ofNat 1) < (1 : Int32)) := by decide
    refine own_stepW (T' := Tu6) (g' := (mkF m 95 #[.val (.int x0), .val (.int x1), .val (.long x2), .second, .val (.long x4), .second, .val (.long x6), .second, .val (.long x8), .second, .val (.int (Int32.ofNat 1)), .val (.int (Int32.ofNat ut)), .val (.int (Int32.ofNat ug)), .val (.long (Int64.ofNat ua)), .second, .val (.long (Int64.ofNat ub)), .second, .val (.long (Int64.ofNat uc)), .second, .val (.long (Int64.ofNat ud)), .second, .val (.ref bu1), .unset, .unset, .unset, .unset] [])) (fun _ k => XS.icmpNo Xu6.here hx rfl (hb hby at_92) rfl (flt hcu9).1 k) ?_
    refine own_stepW (T' := Tu6) (g' := (mkF m 97 #[.val (.int x0), .val (.int x1), .val (.long x2), .second, .val (.long x4), .second, .val (.long x6), .second, .val (.long x8), .second, .val (.int (Int32.ofNat 1)), .val (.int (Int32.ofNat ut)), .val (.int (Int32.ofNat ug)), .val (.long (Int64.ofNat ua)), .second, .val (.long (Int64.ofNat ub)), .second, .val (.long (Int64.ofNat uc)), .second, .val (.long (Int64.ofNat ud)), .second, .val (.ref bu1), .unset, .unset, .unset, .unset] [(.ref bu1)])) (fun _ k => XS.aload Xu6.here hx rfl (hb hby at_95) rfl rfl k) ?_
    refine own_stepW (T' := Tu6) (g' := (mkF m 99 #[.val (.int x0), .val (.int x1), .val (.long x2), .second, .val (.long x4), .second, .val (.long x6), .second, .val (.long x8), .second, .val (.int (Int32.ofNat 1)), .val (.int (Int32.ofNat ut)), .val (.int (Int32.ofNat ug)), .val (.long (Int64.ofNat ua)), .second, .val (.long (Int64.ofNat ub)), .second, .val (.long (Int64.ofNat uc)), .second, .val (.long (Int64.ofNat ud)), .second, .val (.ref bu1), .unset, .unset, .unset, .unset] [(.int (Int32.ofNat ut)), (.ref bu1)])) (fun _ k => XS.iload Xu6.here hx rfl (hb hby at_97) rfl k) ?_
    refine own_stepW (T' := Tu6) (g' := (mkF m 100 #[.val (.int x0), .val (.int x1), .val (.long x2), .second, .val (.long x4), .second, .val (.long x6), .second, .val (.long x8), .second, .val (.int (Int32.ofNat 1)), .val (.int (Int32.ofNat ut)), .val (.int (Int32.ofNat ug)), .val (.long (Int64.ofNat ua)), .second, .val (.long (Int64.ofNat ub)), .second, .val (.long (Int64.ofNat uc)), .second, .val (.long (Int64.ofNat ud)), .second, .val (.ref bu1), .unset, .unset, .unset, .unset] [(.long ((Int32.ofNat ut).toInt64)), (.ref bu1)])) (fun _ k => XS.i2l Xu6.here hx rfl (hb hby at_99) rfl k) ?_
    obtain ⟨cqu10, kqu10, qu10a, qu10b, qu10c⟩ := isOf hZs eu6 EWu6
    obtain ⟨_, _, ⟨Tu10, Lu10, ku10, nu10⟩, -, Xu10, ⟨Lcu10, hQu10, lu10, yu10, zu10⟩, stu10⟩ := Xu6.virtualBack hx (y := (⟨"com/example/impatiens/impatiens/statespace/StateWriter", "writeLong", "(J)V"⟩ : MethodName)) (z := (⟨"com/example/impatiens/impatiens/statespace/StateWriter", "writeLong", "(J)V"⟩ : MethodName)) howns (mvT hZs (hw _ (List.mem_of_getElem? (i := 18) rfl))) (mvT hZs (hw _ (List.mem_of_getElem? (i := 19) rfl))) (notFace_of_selects (args := #[]) (mvT hZs (hw _ (List.mem_of_getElem? (i := 21) rfl)))) (mvT hZs (hw _ (List.mem_of_getElem? (i := 21) rfl))) (mvT hZs (hw _ (List.mem_of_getElem? (i := 20) rfl))) (by decide) (backOf (W := 0) (rm4 l Z a0 hw [] bu1 ((Int32.ofNat ut).toInt64) bbu4 kbu4 (([] : List Int32) ++ own_enc 8 1) ut hu6 n0 Zu6 (own_i2l ut hut31) hut hlen0 ⟨EWu6, FbWu6, FlWu6, EbWu6, VbWu6, gwIu4, gbIu4⟩) hZs (hw _ (List.mem_of_getElem? (i := 22) rfl)) (hw _ (List.mem_of_getElem? (i := 8) rfl)) (by decide) (by decide)) qu10a qu10c (g := (mkF m 100 #[.val (.int x0), .val (.int x1), .val (.long x2), .second, .val (.long x4), .second, .val (.long x6), .second, .val (.long x8), .second, .val (.int (Int32.ofNat 1)), .val (.int (Int32.ofNat ut)), .val (.int (Int32.ofNat ug)), .val (.long (Int64.ofNat ua)), .second, .val (.long (Int64.ofNat ub)), .second, .val (.long (Int64.ofNat uc)), .second, .val (.long (Int64.ofNat ud)), .second, .val (.ref bu1), .unset, .unset, .unset, .unset] [(.long ((Int32.ofNat ut).toInt64)), (.ref bu1)])) rfl (by rw [hml]; rfl) (Steps.refl _) (argsL := [(.long ((Int32.ofNat ut).toInt64))]) (rest := []) (lenOf pd_4 rfl) rfl (by show 2 * 0 + _ ≤ _; exact Nat.le_of_eq rfl) (hb hby at_100) (fun _ _ => ⟨rfl, eu6, (by decide : 2 + 0 ≤ _), (by decide : 66 + 0 ≤ _)⟩)
    dsimp only [Pt.U, Pt.locs, Pt.cells, Pt.slots] at Xu10 lu10 yu10 zu10 stu10 hQu10
    subst lu10 yu10 zu10
    generalize eu10 : Tu10.heap = hu10 at hQu10
    obtain ⟨rfl, Nu10q, Ku10, wru10⟩ := hQu10
    have Zu10 : n0 ≤ hu10.size := Nat.le_trans Zu6 Ku10.1
    have hku10 := Nat.le_trans hku6 Ku10.1
    have qu11 : Exa Z hu10 bu1 "com/example/impatiens/impatiens/statespace/StateWriter" := EWu6.keep Ku10
    have qu12 : Exa Z hu10 bbu4 "[B" := EbWu6.keep Ku10
    have Nu10 := Fr.app Nu6 Nu10q
    obtain ⟨EWu10, FbWu10, FlWu10, EbWu10, VbWu10, gwWu10, gbWu10⟩ := wru10
    refine own_stepW (T' := Tu10) (g' := (mkF m 103 #[.val (.int x0), .val (.int x1), .val (.long x2), .second, .val (.long x4), .second, .val (.long x6), .second, .val (.long x8), .second, .val (.int (Int32.ofNat 1)), .val (.int (Int32.ofNat ut)), .val (.int (Int32.ofNat ug)), .val (.long (Int64.ofNat ua)), .second, .val (.long (Int64.ofNat ub)), .second, .val (.long (Int64.ofNat uc)), .second, .val (.long (Int64.ofNat ud)), .second, .val (.ref bu1), .unset, .unset, .unset, .unset] [])) (fun _ k => stu10.trans k) ?_
    refine own_stepW (T' := Tu10) (g' := (mkF m 105 #[.val (.int x0), .val (.int x1), .val (.long x2), .second, .val (.long x4), .second, .val (.long x6), .second, .val (.long x8), .second, .val (.int (Int32.ofNat 1)), .val (.int (Int32.ofNat ut)), .val (.int (Int32.ofNat ug)), .val (.long (Int64.ofNat ua)), .second, .val (.long (Int64.ofNat ub)), .second, .val (.long (Int64.ofNat uc)), .second, .val (.long (Int64.ofNat ud)), .second, .val (.ref bu1), .unset, .unset, .unset, .unset] [(.ref bu1)])) (fun _ k => XS.aload Xu10.here hx rfl (hb hby at_103) rfl rfl k) ?_
    refine own_stepW (T' := Tu10) (g' := (mkF m 107 #[.val (.int x0), .val (.int x1), .val (.long x2), .second, .val (.long x4), .second, .val (.long x6), .second, .val (.long x8), .second, .val (.int (Int32.ofNat 1)), .val (.int (Int32.ofNat ut)), .val (.int (Int32.ofNat ug)), .val (.long (Int64.ofNat ua)), .second, .val (.long (Int64.ofNat ub)), .second, .val (.long (Int64.ofNat uc)), .second, .val (.long (Int64.ofNat ud)), .second, .val (.ref bu1), .unset, .unset, .unset, .unset] [(.long (Int64.ofNat ua)), (.ref bu1)])) (fun _ k => XS.lload Xu10.here hx rfl (hb hby at_105) rfl k) ?_
    obtain ⟨cqu13, kqu13, qu13a, qu13b, qu13c⟩ := isOf hZs eu10 EWu10
    obtain ⟨_, _, ⟨Tu13, Lu13, ku13, nu13⟩, -, Xu13, ⟨Lcu13, hQu13, lu13, yu13, zu13⟩, stu13⟩ := Xu10.virtualBack hx (y := (⟨"com/example/impatiens/impatiens/statespace/StateWriter", "writeLong", "(J)V"⟩ : MethodName)) (z := (⟨"com/example/impatiens/impatiens/statespace/StateWriter", "writeLong", "(J)V"⟩ : MethodName)) howns (mvT hZs (hw _ (List.mem_of_getElem? (i := 18) rfl))) (mvT hZs (hw _ (List.mem_of_getElem? (i := 19) rfl))) (notFace_of_selects (args := #[]) (mvT hZs (hw _ (List.mem_of_getElem? (i := 21) rfl)))) (mvT hZs (hw _ (List.mem_of_getElem? (i := 21) rfl))) (mvT hZs (hw _ (List.mem_of_getElem? (i := 20) rfl))) (by decide) (backOf (W := 0) (rm4 l Z a0 hw [] bu1 (Int64.ofNat ua) bbu4 kbu4 ((([] : List Int32) ++ own_enc 8 1) ++ own_enc 8 ut) ua hu10 n0 Zu10 rfl hua hlen1 ⟨EWu10, FbWu10, FlWu10, EbWu10, VbWu10, gwIu4, gbIu4⟩) hZs (hw _ (List.mem_of_getElem? (i := 22) rfl)) (hw _ (List.mem_of_getElem? (i := 8) rfl)) (by decide) (by decide)) qu13a qu13c (g := (mkF m 107 #[.val (.int x0), .val (.int x1), .val (.long x2), .second, .val (.long x4), .second, .val (.long x6), .second, .val (.long x8), .second, .val (.int (Int32.ofNat 1)), .val (.int (Int32.ofNat ut)), .val (.int (Int32.ofNat ug)), .val (.long (Int64.ofNat ua)), .second, .val (.long (Int64.ofNat ub)), .second, .val (.long (Int64.ofNat uc)), .second, .val (.long (Int64.ofNat ud)), .second, .val (.ref bu1), .unset, .unset, .unset, .unset] [(.long (Int64.ofNat ua)), (.ref bu1)])) rfl (by rw [hml]; rfl) (Steps.refl _) (argsL := [(.long (Int64.ofNat ua))]) (rest := []) (lenOf pd_4 rfl) rfl (by show 2 * 0 + _ ≤ _; exact Nat.le_of_eq rfl) (hb hby at_107) (fun _ _ => ⟨rfl, eu10, (by decide : 2 + 0 ≤ _), (by decide : 66 + 0 ≤ _)⟩)
    dsimp only [Pt.U, Pt.locs, Pt.cells, Pt.slots] at Xu13 lu13 yu13 zu13 stu13 hQu13
    subst lu13 yu13 zu13
    generalize eu13 : Tu13.heap = hu13 at hQu13
    obtain ⟨rfl, Nu13q, Ku13, wru13⟩ := hQu13
    have Zu13 : n0 ≤ hu13.size := Nat.le_trans Zu10 Ku13.1
    have hku13 := Nat.le_trans hku10 Ku13.1
    have qu14 : Exa Z hu13 bu1 "com/example/impatiens/impatiens/statespace/StateWriter" := EWu10.keep Ku13
    have qu15 : Exa Z hu13 bbu4 "[B" := EbWu10.keep Ku13
    have Nu13 := Fr.app Nu10 Nu13q
    obtain ⟨EWu13, FbWu13, FlWu13, EbWu13, VbWu13, gwWu13, gbWu13⟩ := wru13
    refine own_stepW (T' := Tu13) (g' := (mkF m 110 #[.val (.int x0), .val (.int x1), .val (.long x2), .second, .val (.long x4), .second, .val (.long x6), .second, .val (.long x8), .second, .val (.int (Int32.ofNat 1)), .val (.int (Int32.ofNat ut)), .val (.int (Int32.ofNat ug)), .val (.long (Int64.ofNat ua)), .second, .val (.long (Int64.ofNat ub)), .second, .val (.long (Int64.ofNat uc)), .second, .val (.long (Int64.ofNat ud)), .second, .val (.ref bu1), .unset, .unset, .unset, .unset] [])) (fun _ k => stu13.trans k) ?_
    refine own_stepW (T' := Tu13) (g' := (mkF m 112 #[.val (.int x0), .val (.int x1), .val (.long x2), .second, .val (.long x4), .second, .val (.long x6), .second, .val (.long x8), .second, .val (.int (Int32.ofNat 1)), .val (.int (Int32.ofNat ut)), .val (.int (Int32.ofNat ug)), .val (.long (Int64.ofNat ua)), .second, .val (.long (Int64.ofNat ub)), .second, .val (.long (Int64.ofNat uc)), .second, .val (.long (Int64.ofNat ud)), .second, .val (.ref bu1), .unset, .unset, .unset, .unset] [(.ref bu1)])) (fun _ k => XS.aload Xu13.here hx rfl (hb hby at_110) rfl rfl k) ?_
    refine own_stepW (T' := Tu13) (g' := (mkF m 114 #[.val (.int x0), .val (.int x1), .val (.long x2), .second, .val (.long x4), .second, .val (.long x6), .second, .val (.long x8), .second, .val (.int (Int32.ofNat 1)), .val (.int (Int32.ofNat ut)), .val (.int (Int32.ofNat ug)), .val (.long (Int64.ofNat ua)), .second, .val (.long (Int64.ofNat ub)), .second, .val (.long (Int64.ofNat uc)), .second, .val (.long (Int64.ofNat ud)), .second, .val (.ref bu1), .unset, .unset, .unset, .unset] [(.long (Int64.ofNat uc)), (.ref bu1)])) (fun _ k => XS.lload Xu13.here hx rfl (hb hby at_112) rfl k) ?_
    obtain ⟨cqu16, kqu16, qu16a, qu16b, qu16c⟩ := isOf hZs eu13 EWu13
    obtain ⟨_, _, ⟨Tu16, Lu16, ku16, nu16⟩, -, Xu16, ⟨Lcu16, hQu16, lu16, yu16, zu16⟩, stu16⟩ := Xu13.virtualBack hx (y := (⟨"com/example/impatiens/impatiens/statespace/StateWriter", "writeLong", "(J)V"⟩ : MethodName)) (z := (⟨"com/example/impatiens/impatiens/statespace/StateWriter", "writeLong", "(J)V"⟩ : MethodName)) howns (mvT hZs (hw _ (List.mem_of_getElem? (i := 18) rfl))) (mvT hZs (hw _ (List.mem_of_getElem? (i := 19) rfl))) (notFace_of_selects (args := #[]) (mvT hZs (hw _ (List.mem_of_getElem? (i := 21) rfl)))) (mvT hZs (hw _ (List.mem_of_getElem? (i := 21) rfl))) (mvT hZs (hw _ (List.mem_of_getElem? (i := 20) rfl))) (by decide) (backOf (W := 0) (rm4 l Z a0 hw [] bu1 (Int64.ofNat uc) bbu4 kbu4 (((([] : List Int32) ++ own_enc 8 1) ++ own_enc 8 ut) ++ own_enc 8 ua) uc hu13 n0 Zu13 rfl hC hlen2 ⟨EWu13, FbWu13, FlWu13, EbWu13, VbWu13, gwIu4, gbIu4⟩) hZs (hw _ (List.mem_of_getElem? (i := 22) rfl)) (hw _ (List.mem_of_getElem? (i := 8) rfl)) (by decide) (by decide)) qu16a qu16c (g := (mkF m 114 #[.val (.int x0), .val (.int x1), .val (.long x2), .second, .val (.long x4), .second, .val (.long x6), .second, .val (.long x8), .second, .val (.int (Int32.ofNat 1)), .val (.int (Int32.ofNat ut)), .val (.int (Int32.ofNat ug)), .val (.long (Int64.ofNat ua)), .second, .val (.long (Int64.ofNat ub)), .second, .val (.long (Int64.ofNat uc)), .second, .val (.long (Int64.ofNat ud)), .second, .val (.ref bu1), .unset, .unset, .unset, .unset] [(.long (Int64.ofNat uc)), (.ref bu1)])) rfl (by rw [hml]; rfl) (Steps.refl _) (argsL := [(.long (Int64.ofNat uc))]) (rest := []) (lenOf pd_4 rfl) rfl (by show 2 * 0 + _ ≤ _; exact Nat.le_of_eq rfl) (hb hby at_114) (fun _ _ => ⟨rfl, eu13, (by decide : 2 + 0 ≤ _), (by decide : 66 + 0 ≤ _)⟩)
    dsimp only [Pt.U, Pt.locs, Pt.cells, Pt.slots] at Xu16 lu16 yu16 zu16 stu16 hQu16
    subst lu16 yu16 zu16
    generalize eu16 : Tu16.heap = hu16 at hQu16
    obtain ⟨rfl, Nu16q, Ku16, wru16⟩ := hQu16
    have Zu16 : n0 ≤ hu16.size := Nat.le_trans Zu13 Ku16.1
    have hku16 := Nat.le_trans hku13 Ku16.1
    have qu17 : Exa Z hu16 bu1 "com/example/impatiens/impatiens/statespace/StateWriter" := EWu13.keep Ku16
    have qu18 : Exa Z hu16 bbu4 "[B" := EbWu13.keep Ku16
    have Nu16 := Fr.app Nu13 Nu16q
    obtain ⟨EWu16, FbWu16, FlWu16, EbWu16, VbWu16, gwWu16, gbWu16⟩ := wru16
    refine own_stepW (T' := Tu16) (g' := (mkF m 117 #[.val (.int x0), .val (.int x1), .val (.long x2), .second, .val (.long x4), .second, .val (.long x6), .second, .val (.long x8), .second, .val (.int (Int32.ofNat 1)), .val (.int (Int32.ofNat ut)), .val (.int (Int32.ofNat ug)), .val (.long (Int64.ofNat ua)), .second, .val (.long (Int64.ofNat ub)), .second, .val (.long (Int64.ofNat uc)), .second, .val (.long (Int64.ofNat ud)), .second, .val (.ref bu1), .unset, .unset, .unset, .unset] [])) (fun _ k => stu16.trans k) ?_
    refine own_stepW (T' := Tu16) (g' := (mkF m 119 #[.val (.int x0), .val (.int x1), .val (.long x2), .second, .val (.long x4), .second, .val (.long x6), .second, .val (.long x8), .second, .val (.int (Int32.ofNat 1)), .val (.int (Int32.ofNat ut)), .val (.int (Int32.ofNat ug)), .val (.long (Int64.ofNat ua)), .second, .val (.long (Int64.ofNat ub)), .second, .val (.long (Int64.ofNat uc)), .second, .val (.long (Int64.ofNat ud)), .second, .val (.ref bu1), .unset, .unset, .unset, .unset] [(.int (Int32.ofNat 1))])) (fun _ k => XS.iload Xu16.here hx rfl (hb hby at_117) rfl k) ?_
    refine own_stepW (T' := Tu16) (g' := (mkF m 120 #[.val (.int x0), .val (.int x1), .val (.long x2), .second, .val (.long x4), .second, .val (.long x6), .second, .val (.long x8), .second, .val (.int (Int32.ofNat 1)), .val (.int (Int32.ofNat ut)), .val (.int (Int32.ofNat ug)), .val (.long (Int64.ofNat ua)), .second, .val (.long (Int64.ofNat ub)), .second, .val (.long (Int64.ofNat uc)), .second, .val (.long (Int64.ofNat ud)), .second, .val (.ref bu1), .unset, .unset, .unset, .unset] [(.int (2 : Int32)), (.int (Int32.ofNat 1))])) (fun _ k => XS.iconst Xu16.here hx rfl (hb hby at_119) k) ?_
    have hcu19 : (Int32.ofNat 1) < (2 : Int32) := by decide
    refine own_stepW (T' := Tu16) (g' := (mkF m 145 #[.val (.int x0), .val (.int x1), .val (.long x2), .second, .val (.long x4), .second, .val (.long x6), .second, .val (.long x8), .second, .val (.int (Int32.ofNat 1)), .val (.int (Int32.ofNat ut)), .val (.int (Int32.ofNat ug)), .val (.long (Int64.ofNat ua)), .second, .val (.long (Int64.ofNat ub)), .second, .val (.long (Int64.ofNat uc)), .second, .val (.long (Int64.ofNat ud)), .second, .val (.ref bu1), .unset, .unset, .unset, .unset] [])) (fun _ k => XS.icmpYes Xu16.here hx rfl (pc0 := 120) (pc' := 145) rfl (hb hby at_120) rfl (tlt hcu19).1 (by decide) (by decide) k) ?_
    exact B145_1 Tu16 _ hu16 bu1 bbu4 kbu4 Zu16 (own_wrc (vs := ((((([] : List Int32) ++ own_enc 8 1) ++ own_enc 8 ut) ++ own_enc 8 ua) ++ own_enc 8 uc)) ⟨EWu16, FbWu16, FlWu16, EbWu16, VbWu16, gwIu4, gbIu4⟩ (by simp [own_encs])) Xu16 eu16 Nu16
  exact B72_1
set_option maxRecDepth 65536 in
set_option maxHeartbeats 40000000 in
theorem own_road2 (l : Launch) (Z : State) (a0 : Array Value) (hw : ∀ d ∈ tables_1, d.before a0 Z = true) (ws : List Jvm.Cond) (x0 : Int32) (x1 : Int32) (x2 : Int64) (x4 : Int64) (x6 : Int64) (x8 : Int64) (n0 : Nat) {p : Program} {e : Env} {s : State} {m : MethodId} {below : List Frame} {meth : Method} {c : Code} {s₁ : State} (Bd : BodyLoose p l x (head1 (Jvm.Cond.code x code maxLocals ret :: ws) room_1) code maxLocals ret e s m #[(.int x0), (.int x1), (.long x2), (.long x4), (.long x6), (.long x8)] below meth c s₁) (hml : c.maxLocals = 26) (hZ : Z.Warmed39 s.vm) (ut ug ua ub uc ud : Nat) (hT : ut ≤ 32767) (hG : ug ≤ 32767) (hA : ua < 2 ^ 63 - 1) (hB : ub < 2 ^ 63 - 1) (hC : uc < 2 ^ 63) (hD : ud < 2 ^ 63) : ∀ (T0 : State) (locs : List Loc) (hh : Heap), n0 ≤ hh.size → Stand p l e room_1 (s.setVm s.vm) m #[(.int x0), (.int x1), (.long x2), (.long x4), (.long x6), (.long x8)] below meth c T0 locs 0 0 → T0.heap = hh → Fr n0 locs → own_GoesW p e below s (own_Law n0) 32 1408 T0 (mkF m 72 #[.val (.int x0), .val (.int x1), .val (.long x2), .second, .val (.long x4), .second, .val (.long x6), .second, .val (.long x8), .second, .val (.int (Int32.ofNat 2)), .val (.int (Int32.ofNat ut)), .val (.int (Int32.ofNat ug)), .val (.long (Int64.ofNat ua)), .second, .val (.long (Int64.ofNat ub)), .second, .val (.long (Int64.ofNat uc)), .second, .val (.long (Int64.ofNat ud)), .second, .unset, .unset, .unset, .unset, .unset] []) := by
  have hx := Bd.exec
  have hby := Bd.bytes
  have hown : s.vm.findClass "com/example/impatiens/impatiens/itpn/InstancesTickPinLaw" = some m.cls := findClass_of_methodNamed Bd.named
  have wS : ∀ a ∈ Bundle.stringAtoms, a.before a0 Z = true := fun d hd => by
    simp only [Bundle.stringAtoms, List.mem_cons, List.not_mem_nil, or_false] at hd
    rcases hd with rfl | rfl | rfl | rfl | rfl | rfl | rfl
    · exact (hw _ (List.mem_of_getElem? (i := 39) rfl))
    · exact (hw _ (List.mem_of_getElem? (i := 40) rfl))
    · exact (hw _ (List.mem_of_getElem? (i := 15) rfl))
    · exact (hw _ (List.mem_of_getElem? (i := 41) rfl))
    · exact (hw _ (List.mem_of_getElem? (i := 42) rfl))
    · exact (hw _ (List.mem_of_getElem? (i := 43) rfl))
    · exact (hw _ (List.mem_of_getElem? (i := 44) rfl))
  have hS0 : s.Since s.vm 0 := (State.WarmedH.refl s).since _
  have hZs : Z.Warmed39 (s.setVm s.vm).vm := hZ
  have howns : (s.setVm s.vm).vm.findClass "com/example/impatiens/impatiens/itpn/InstancesTickPinLaw" = some m.cls := hown
  have hut : ut < 2 ^ 63 := by omega
  have hut31 : ut < 2 ^ 31 := by omega
  have hug : ug < 2 ^ 63 := by omega
  have hug31 : ug < 2 ^ 31 := by omega
  have hua : ua < 2 ^ 63 := by omega
  have hub : ub < 2 ^ 63 := by omega
  have hua1 : ua + 1 < 2 ^ 63 := by omega
  have hub1 : ub + 1 < 2 ^ 63 := by omega
  have hl1 := own_enc_three ut (by omega)
  have hl2 := own_enc_len 8 ua
  have hl3 := own_enc_len 8 uc
  have hl4 := own_enc_three ug (by omega)
  have hl5 := own_enc_len 8 ub
  have hl6 := own_enc_len 8 ud
  have hl0 := own_enc_one 2 (by decide)
  have hG1 : ∀ g ∈ ([(ut, ua, uc), (ug, ub, ud)] : List (Nat × Nat × Nat)), g.1 < 32768 ∧ g.2.1 < 2 ^ 63 ∧ g.2.2 < 2 ^ 63 := by simp; omega
  have hG2 : ∀ g ∈ ([(ut, ua + 1, uc), (ug, ub + 1, ud)] : List (Nat × Nat × Nat)), g.1 < 32768 ∧ g.2.1 < 2 ^ 63 ∧ g.2.2 < 2 ^ 63 := by simp; omega
  have hE1 := own_encs_len _ hG1
  have hE2 := own_encs_len _ hG2
  have hV1 : (own_enc 8 2 ++ own_encs ([(ut, ua, uc), (ug, ub, ud)] : List (Nat × Nat × Nat))).length ≤ 64 := by rw [List.length_append]; simp only [List.length_cons, List.length_nil] at hE1; omega
  have hV2 : (own_enc 8 2 ++ own_encs ([(ut, ua + 1, uc), (ug, ub + 1, ud)] : List (Nat × Nat × Nat))).length ≤ 64 := by rw [List.length_append]; simp only [List.length_cons, List.length_nil] at hE2; omega
  have hA1 : (own_enc 8 2 ++ own_encs ([(ut, ua, uc), (ug, ub, ud)] : List (Nat × Nat × Nat))).drop 0 = own_enc 8 ([(ut, ua, uc), (ug, ub, ud)] : List (Nat × Nat × Nat)).length ++ (own_encs ([(ut, ua, uc), (ug, ub, ud)] : List (Nat × Nat × Nat)) ++ []) := by simp
  have B197_2 : ∀ (T0 : State) (locs : List Loc) (hh : Heap) (w1 i1 w2 b2 r2 : Addr) (k2 : ClassId), n0 ≤ hh.size → own_WR Z n0 hh w2 b2 k2 (own_enc 8 2 ++ own_encs ([(ut, ua + 1, uc), (ug, ub + 1, ud)] : List (Nat × Nat × Nat))) → own_RD Z n0 hh r2 b2 k2 0 (own_enc 8 2 ++ own_encs ([(ut, ua + 1, uc), (ug, ub + 1, ud)] : List (Nat × Nat × Nat))) → ∀ (vm1 : Vm) (kv : Nat), s.Since vm1 kv → kv ≤ hh.size → Z.Warmed39 (s.setVm vm1).vm → (s.setVm vm1).vm.findClass "com/example/impatiens/impatiens/itpn/InstancesTickPinLaw" = some m.cls → Stand p l e room_1 (s.setVm vm1) m #[(.int x0), (.int x1), (.long x2), (.long x4), (.long x6), (.long x8)] below meth c T0 locs 14 330 → T0.heap = hh → Fr n0 locs → own_GoesW p e below s (own_Law n0) 32 1408 T0 (mkF m 197 #[.val (.int x0), .val (.int x1), .val (.long x2), .second, .val (.long x4), .second, .val (.long x6), .second, .val (.long x8), .second, .val (.int (Int32.ofNat 2)), .val (.int (Int32.ofNat ut)), .val (.int (Int32.ofNat ug)), .val (.long (Int64.ofNat ua)), .second, .val (.long (Int64.ofNat ub)), .second, .val (.long (Int64.ofNat uc)), .second, .val (.long (Int64.ofNat ud)), .second, .val (.ref w1), .val (.ref i1), .val (.ref w2), .val (.ref r2), .unset] []) := by
    intro T0 locs hh w1 i1 w2 b2 r2 k2 Zh hWR hRD vm1 kv hSv hkv hZv hownv X0 e0 N0
    have oqw := hWR
    obtain ⟨Ew, Fbw, Flw, Ebw, Vbw, gww, gbw⟩ := oqw
    have new : w2 ≠ b2 := Ew.neArv Vbw (hw _ (List.mem_of_getElem? (i := 7) rfl))
    have oqr := hRD
    obtain ⟨Er, Fbr, Fpr, Vbr, grr⟩ := oqr
    have ner : r2 ≠ b2 := Er.neArv Vbr (hw _ (List.mem_of_getElem? (i := 27) rfl))
    have nwr : w2 ≠ r2 := Ew.ne Er (by decide)
    refine own_stepW (T' := T0) (g' := (mkF m 199 #[.val (.int x0), .val (.int x1), .val (.long x2), .second, .val (.long x4), .second, .val (.long x6), .second, .val (.long x8), .second, .val (.int (Int32.ofNat 2)), .val (.int (Int32.ofNat ut)), .val (.int (Int32.ofNat ug)), .val (.long (Int64.ofNat ua)), .second, .val (.long (Int64.ofNat ub)), .second, .val (.long (Int64.ofNat uc)), .second, .val (.long (Int64.ofNat ud)), .second, .val (.ref w1), .val (.ref i1), .val (.ref w2), .val (.ref r2), .unset] [(.ref r2)])) (fun _ k => XS.aload X0.here hx rfl (hb hby at_197) rfl rfl k) ?_
    have hat0 : (own_enc 8 2 ++ own_encs ([(ut, ua + 1, uc), (ug, ub + 1, ud)] : List (Nat × Nat × Nat))).drop 0 = own_enc 8 2 ++ (own_enc 8 ut ++ (own_enc 8 (ua + 1) ++ (own_enc 8 uc ++ (own_enc 8 ug ++ (own_enc 8 (ub + 1) ++ (own_enc 8 ud ++ ([])))))) : List Int32) := by simp [own_encs]
    obtain ⟨cqu1, kqu1, qu1a, qu1b, qu1c⟩ := isOf hZv e0 Er
    obtain ⟨_, _, ⟨Tu1, Lu1, ku1, nu1⟩, -, Xu1, ⟨Lcu1, hQu1, lu1, yu1, zu1⟩, stu1⟩ := X0.virtualBack hx (y := (⟨"com/example/impatiens/impatiens/statespace/StateReader", "readLong", "()J"⟩ : MethodName)) (z := (⟨"com/example/impatiens/impatiens/statespace/StateReader", "readLong", "()J"⟩ : MethodName)) hownv (mvT hZv (hw _ (List.mem_of_getElem? (i := 94) rfl))) (mvT hZv (hw _ (List.mem_of_getElem? (i := 58) rfl))) (notFace_of_selects (args := #[]) (mvT hZv (hw _ (List.mem_of_getElem? (i := 60) rfl)))) (mvT hZv (hw _ (List.mem_of_getElem? (i := 60) rfl))) (mvT hZv (hw _ (List.mem_of_getElem? (i := 59) rfl))) (by decide) (backOf (W := 0) (rm9 l Z a0 hw [] r2 b2 k2 (own_enc 8 2 ++ own_encs ([(ut, ua + 1, uc), (ug, ub + 1, ud)] : List (Nat × Nat × Nat))) (own_enc 8 ut ++ (own_enc 8 (ua + 1) ++ (own_enc 8 uc ++ (own_enc 8 ug ++ (own_enc 8 (ub + 1) ++ (own_enc 8 ud ++ ([])))))) : List Int32) 0 2 hh n0 Zh (by decide) hV2 hat0 ⟨Er, Fbr, Fpr, Vbw, grr⟩) hZv (hw _ (List.mem_of_getElem? (i := 61) rfl)) (hw _ (List.mem_of_getElem? (i := 28) rfl)) (by decide) (by decide)) qu1a qu1c (g := (mkF m 199 #[.val (.int x0), .val (.int x1), .val (.long x2), .second, .val (.long x4), .second, .val (.long x6), .second, .val (.long x8), .second, .val (.int (Int32.ofNat 2)), .val (.int (Int32.ofNat ut)), .val (.int (Int32.ofNat ug)), .val (.long (Int64.ofNat ua)), .second, .val (.long (Int64.ofNat ub)), .second, .val (.long (Int64.ofNat uc)), .second, .val (.long (Int64.ofNat ud)), .second, .val (.ref w1), .val (.ref i1), .val (.ref w2), .val (.ref r2), .unset] [(.ref r2)])) rfl (by rw [hml]; rfl) (Steps.refl _) (argsL := []) (rest := []) (lenOf pd_1 rfl) rfl (by show 2 * 0 + _ ≤ _; exact Nat.le_of_eq rfl) (hb hby at_199) (fun _ _ => ⟨rfl, e0, (by decide : 14 + 0 ≤ _), (by decide : 330 + 0 ≤ _)⟩)
    dsimp only [Pt.U, Pt.locs, Pt.cells, Pt.slots] at Xu1 lu1 yu1 zu1 stu1 hQu1
    subst lu1 yu1 zu1
    generalize eu1 : Tu1.heap = hu1 at hQu1
    obtain ⟨rfl, Nu1q, Ku1, rdu1⟩ := hQu1
    have Zu1 : n0 ≤ hu1.size := Nat.le_trans Zh Ku1.1
    have hku1 := Nat.le_trans hkv Ku1.1
    have qu2 : Fld Z hu1 w2 "com/example/impatiens/impatiens/statespace/StateWriter" "bytes" "[B" (.ref b2) := Fbw.keep Ku1 (ninS nwr nin0)
    have qu3 : Fld Z hu1 w2 "com/example/impatiens/impatiens/statespace/StateWriter" "length" "I" (.int (Int32.ofNat (own_enc 8 2 ++ own_encs ([(ut, ua + 1, uc), (ug, ub + 1, ud)] : List (Nat × Nat × Nat))).length)) := Flw.keep Ku1 (ninS nwr nin0)
    have qu4 : Exa Z hu1 w2 "com/example/impatiens/impatiens/statespace/StateWriter" := Ew.keep Ku1
    have qu5 : Exa Z hu1 b2 "[B" := Ebw.keep Ku1
    have qu6 : Exa Z hu1 r2 "com/example/impatiens/impatiens/statespace/StateReader" := Er.keep Ku1
    have qu7 : Arv Z hu1 b2 k2 .byte (64 : Int32) ((own_enc 8 2 ++ own_encs ([(ut, ua + 1, uc), (ug, ub + 1, ud)] : List (Nat × Nat × Nat))).map Value.int) (.int (0 : Int32)) := Vbw.keep Ku1 (ninS (Ne.symm ner) nin0)
    have Nu1 := Fr.app N0 Nu1q
    obtain ⟨ERu1, FbRu1, FpRu1, VbRu1, grRu1⟩ := rdu1
    refine own_stepW (T' := Tu1) (g' := (mkF m 202 #[.val (.int x0), .val (.int x1), .val (.long x2), .second, .val (.long x4), .second, .val (.long x6), .second, .val (.long x8), .second, .val (.int (Int32.ofNat 2)), .val (.int (Int32.ofNat ut)), .val (.int (Int32.ofNat ug)), .val (.long (Int64.ofNat ua)), .second, .val (.long (Int64.ofNat ub)), .second, .val (.long (Int64.ofNat uc)), .second, .val (.long (Int64.ofNat ud)), .second, .val (.ref w1), .val (.ref i1), .val (.ref w2), .val (.ref r2), .unset] [(.long (Int64.ofNat 2))])) (fun _ k => stu1.trans k) ?_
    refine own_stepW (T' := Tu1) (g' := (mkF m 204 #[.val (.int x0), .val (.int x1), .val (.long x2), .second, .val (.long x4), .second, .val (.long x6), .second, .val (.long x8), .second, .val (.int (Int32.ofNat 2)), .val (.int (Int32.ofNat ut)), .val (.int (Int32.ofNat ug)), .val (.long (Int64.ofNat ua)), .second, .val (.long (Int64.ofNat ub)), .second, .val (.long (Int64.ofNat uc)), .second, .val (.long (Int64.ofNat ud)), .second, .val (.ref w1), .val (.ref i1), .val (.ref w2), .val (.ref r2), .unset] [(.int (Int32.ofNat 2)), (.long (Int64.ofNat 2))])) (fun _ k => XS.iload Xu1.here hx rfl (hb hby at_202) rfl k) ?_
    refine own_stepW (T' := Tu1) (g' := (mkF m 205 #[.val (.int x0), .val (.int x1), .val (.long x2), .second, .val (.long x4), .second, .val (.long x6), .second, .val (.long x8), .second, .val (.int (Int32.ofNat 2)), .val (.int (Int32.ofNat ut)), .val (.int (Int32.ofNat ug)), .val (.long (Int64.ofNat ua)), .second, .val (.long (Int64.ofNat ub)), .second, .val (.long (Int64.ofNat uc)), .second, .val (.long (Int64.ofNat ud)), .second, .val (.ref w1), .val (.ref i1), .val (.ref w2), .val (.ref r2), .unset] [(.long ((Int32.ofNat 2).toInt64)), (.long (Int64.ofNat 2))])) (fun _ k => XS.i2l Xu1.here hx rfl (hb hby at_204) rfl k) ?_
    refine own_stepW (T' := Tu1) (g' := (mkF m 206 #[.val (.int x0), .val (.int x1), .val (.long x2), .second, .val (.long x4), .second, .val (.long x6), .second, .val (.long x8), .second, .val (.int (Int32.ofNat 2)), .val (.int (Int32.ofNat ut)), .val (.int (Int32.ofNat ug)), .val (.long (Int64.ofNat ua)), .second, .val (.long (Int64.ofNat ub)), .second, .val (.long (Int64.ofNat uc)), .second, .val (.long (Int64.ofNat ud)), .second, .val (.ref w1), .val (.ref i1), .val (.ref w2), .val (.ref r2), .unset] [(.int (lcmpW (Int64.ofNat 2) ((Int32.ofNat 2).toInt64)))])) (fun _ k => XS.lcmp Xu1.here hx rfl (hb hby at_205) rfl k) ?_
    have hcu8 : (lcmpW (Int64.ofNat 2) ((Int32.ofNat 2).toInt64)) = (0 : Int32) := own_cmpeq (own_i2l 2 (by decide)).symm
    refine own_stepW (T' := Tu1) (g' := (mkF m 209 #[.val (.int x0), .val (.int x1), .val (.long x2), .second, .val (.long x4), .second, .val (.long x6), .second, .val (.long x8), .second, .val (.int (Int32.ofNat 2)), .val (.int (Int32.ofNat ut)), .val (.int (Int32.ofNat ug)), .val (.long (Int64.ofNat ua)), .second, .val (.long (Int64.ofNat ub)), .second, .val (.long (Int64.ofNat uc)), .second, .val (.long (Int64.ofNat ud)), .second, .val (.ref w1), .val (.ref i1), .val (.ref w2), .val (.ref r2), .unset] [])) (fun _ k => XS.ifNo Xu1.here hx rfl (hb hby at_206) rfl ((if0 _ _).trans (teq hcu8).2) k) ?_
    refine own_stepW (T' := Tu1) (g' := (mkF m 210 #[.val (.int x0), .val (.int x1), .val (.long x2), .second, .val (.long x4), .second, .val (.long x6), .second, .val (.long x8), .second, .val (.int (Int32.ofNat 2)), .val (.int (Int32.ofNat ut)), .val (.int (Int32.ofNat ug)), .val (.long (Int64.ofNat ua)), .second, .val (.long (Int64.ofNat ub)), .second, .val (.long (Int64.ofNat uc)), .second, .val (.long (Int64.ofNat ud)), .second, .val (.ref w1), .val (.ref i1), .val (.ref w2), .val (.ref r2), .unset] [(.int (1 : Int32))])) (fun _ k => XS.iconst Xu1.here hx rfl (hb hby at_209) k) ?_
    refine own_stepW (T' := Tu1) (g' := (mkF m 214 #[.val (.int x0), .val (.int x1), .val (.long x2), .second, .val (.long x4), .second, .val (.long x6), .second, .val (.long x8), .second, .val (.int (Int32.ofNat 2)), .val (.int (Int32.ofNat ut)), .val (.int (Int32.ofNat ug)), .val (.long (Int64.ofNat ua)), .second, .val (.long (Int64.ofNat ub)), .second, .val (.long (Int64.ofNat uc)), .second, .val (.long (Int64.ofNat ud)), .second, .val (.ref w1), .val (.ref i1), .val (.ref w2), .val (.ref r2), .unset] [(.int (1 : Int32))])) (fun _ k => XS.goto Xu1.here hx rfl (pc0 := 210) (pc' := 214) rfl (hb hby at_210) (by decide) (by decide) k) ?_
    refine own_stepW (T' := Tu1) (g' := (mkF m 216 #[.val (.int x0), .val (.int x1), .val (.long x2), .second, .val (.long x4), .second, .val (.long x6), .second, .val (.long x8), .second, .val (.int (Int32.ofNat 2)), .val (.int (Int32.ofNat ut)), .val (.int (Int32.ofNat ug)), .val (.long (Int64.ofNat ua)), .second, .val (.long (Int64.ofNat ub)), .second, .val (.long (Int64.ofNat uc)), .second, .val (.long (Int64.ofNat ud)), .second, .val (.ref w1), .val (.ref i1), .val (.ref w2), .val (.ref r2), .val (.int (1 : Int32))] [])) (fun _ k => XS.istore Xu1.here hx rfl (hb hby at_214) rfl (l' := #[.val (.int x0), .val (.int x1), .val (.long x2), .second, .val (.long x4), .second, .val (.long x6), .second, .val (.long x8), .second, .val (.int (Int32.ofNat 2)), .val (.int (Int32.ofNat ut)), .val (.int (Int32.ofNat ug)), .val (.long (Int64.ofNat ua)), .second, .val (.long (Int64.ofNat ub)), .second, .val (.long (Int64.ofNat uc)), .second, .val (.long (Int64.ofNat ud)), .second, .val (.ref w1), .val (.ref i1), .val (.ref w2), .val (.ref r2), .val (.int (1 : Int32))]) rfl k) ?_
    refine own_stepW (T' := Tu1) (g' := (mkF m 218 #[.val (.int x0), .val (.int x1), .val (.long x2), .second, .val (.long x4), .second, .val (.long x6), .second, .val (.long x8), .second, .val (.int (Int32.ofNat 2)), .val (.int (Int32.ofNat ut)), .val (.int (Int32.ofNat ug)), .val (.long (Int64.ofNat ua)), .second, .val (.long (Int64.ofNat ub)), .second, .val (.long (Int64.ofNat uc)), .second, .val (.long (Int64.ofNat ud)), .second, .val (.ref w1), .val (.ref i1), .val (.ref w2), .val (.ref r2), .val (.int (1 : Int32))] [(.int (1 : Int32))])) (fun _ k => XS.iload Xu1.here hx rfl (hb hby at_216) rfl k) ?_
    have hcu9 : ¬ ((1 : Int32) = (0 : Int32)) := by decide
    refine own_stepW (T' := Tu1) (g' := (mkF m 221 #[.val (.int x0), .val (.int x1), .val (.long x2), .second, .val (.long x4), .second, .val (.long x6), .second, .val (.long x8), .second, .val (.int (Int32.ofNat 2)), .val (.int (Int32.ofNat ut)), .val (.int (Int32.ofNat ug)), .val (.long (Int64.ofNat ua)), .second, .val (.long (Int64.ofNat ub)), .second, .val (.long (Int64.ofNat uc)), .second, .val (.long (Int64.ofNat ud)), .second, .val (.ref w1), .val (.ref i1), .val (.ref w2), .val (.ref r2), .val (.int (1 : Int32))] [])) (fun _ k => XS.ifNo Xu1.here hx rfl (hb hby at_218) rfl ((if0 _ _).trans (feq hcu9).1) k) ?_
    refine own_stepW (T' := Tu1) (g' := (mkF m 223 #[.val (.int x0), .val (.int x1), .val (.long x2), .second, .val (.long x4), .second, .val (.long x6), .second, .val (.long x8), .second, .val (.int (Int32.ofNat 2)), .val (.int (Int32.ofNat ut)), .val (.int (Int32.ofNat ug)), .val (.long (Int64.ofNat ua)), .second, .val (.long (Int64.ofNat ub)), .second, .val (.long (Int64.ofNat uc)), .second, .val (.long (Int64.ofNat ud)), .second, .val (.ref w1), .val (.ref i1), .val (.ref w2), .val (.ref r2), .val (.int (1 : Int32))] [(.int (Int32.ofNat 2))])) (fun _ k => XS.iload Xu1.here hx rfl (hb hby at_221) rfl k) ?_
    refine own_stepW (T' := Tu1) (g' := (mkF m 224 #[.val (.int x0), .val (.int x1), .val (.long x2), .second, .val (.long x4), .second, .val (.long x6), .second, .val (.long x8), .second, .val (.int (Int32.ofNat 2)), .val (.int (Int32.ofNat ut)), .val (.int (Int32.ofNat ug)), .val (.long (Int64.ofNat ua)), .second, .val (.long (Int64.ofNat ub)), .second, .val (.long (Int64.ofNat uc)), .second, .val (.long (Int64.ofNat ud)), .second, .val (.ref w1), .val (.ref i1), .val (.ref w2), .val (.ref r2), .val (.int (1 : Int32))] [(.int (1 : Int32)), (.int (Int32.ofNat 2))])) (fun _ k => XS.iconst Xu1.here hx rfl (hb hby at_223) k) ?_
    have hcu10 : ¬ ((Int32.ofNat 2) < (1 : Int32)) := by decide
    refine own_stepW (T' := Tu1) (g' := (mkF m 227 #[.val (.int x0), .val (.int x1), .val (.long x2), .second, .val (.long x4), .second, .val (.long x6), .second, .val (.long x8), .second, .val (.int (Int32.ofNat 2)), .val (.int (Int32.ofNat ut)), .val (.int (Int32.ofNat ug)), .val (.long (Int64.ofNat ua)), .second, .val (.long (Int64.ofNat ub)), .second, .val (.long (Int64.ofNat uc)), .second, .val (.long (Int64.ofNat ud)), .second, .val (.ref w1), .val (.ref i1), .val (.ref w2), .val (.ref r2), .val (.int (1 : Int32))] [])) (fun _ k => XS.icmpNo Xu1.here hx rfl (hb hby at_224) rfl (flt hcu10).1 k) ?_
    refine own_stepW (T' := Tu1) (g' := (mkF m 229 #[.val (.int x0), .val (.int x1), .val (.long x2), .second, .val (.long x4), .second, .val (.long x6), .second, .val (.long x8), .second, .val (.int (Int32.ofNat 2)), .val (.int (Int32.ofNat ut)), .val (.int (Int32.ofNat ug)), .val (.long (Int64.ofNat ua)), .second, .val (.long (Int64.ofNat ub)), .second, .val (.long (Int64.ofNat uc)), .second, .val (.long (Int64.ofNat ud)), .second, .val (.ref w1), .val (.ref i1), .val (.ref w2), .val (.ref r2), .val (.int (1 : Int32))] [(.ref r2)])) (fun _ k => XS.aload Xu1.here hx rfl (hb hby at_227) rfl rfl k) ?_
    have hat1 : (own_enc 8 2 ++ own_encs ([(ut, ua + 1, uc), (ug, ub + 1, ud)] : List (Nat × Nat × Nat))).drop (0 + (own_enc 8 2).length) = own_enc 8 ut ++ (own_enc 8 (ua + 1) ++ (own_enc 8 uc ++ (own_enc 8 ug ++ (own_enc 8 (ub + 1) ++ (own_enc 8 ud ++ ([]))))) : List Int32) := own_drop hat0
    obtain ⟨cqu11, kqu11, qu11a, qu11b, qu11c⟩ := isOf hZv eu1 ERu1
    obtain ⟨_, _, ⟨Tu11, Lu11, ku11, nu11⟩, -, Xu11, ⟨Lcu11, hQu11, lu11, yu11, zu11⟩, stu11⟩ := Xu1.virtualBack hx (y := (⟨"com/example/impatiens/impatiens/statespace/StateReader", "readLong", "()J"⟩ : MethodName)) (z := (⟨"com/example/impatiens/impatiens/statespace/StateReader", "readLong", "()J"⟩ : MethodName)) hownv (mvT hZv (hw _ (List.mem_of_getElem? (i := 94) rfl))) (mvT hZv (hw _ (List.mem_of_getElem? (i := 58) rfl))) (notFace_of_selects (args := #[]) (mvT hZv (hw _ (List.mem_of_getElem? (i := 60) rfl)))) (mvT hZv (hw _ (List.mem_of_getElem? (i := 60) rfl))) (mvT hZv (hw _ (List.mem_of_getElem? (i := 59) rfl))) (by decide) (backOf (W := 0) (rm9 l Z a0 hw [] r2 b2 k2 (own_enc 8 2 ++ own_encs ([(ut, ua + 1, uc), (ug, ub + 1, ud)] : List (Nat × Nat × Nat))) (own_enc 8 (ua + 1) ++ (own_enc 8 uc ++ (own_enc 8 ug ++ (own_enc 8 (ub + 1) ++ (own_enc 8 ud ++ ([]))))) : List Int32) (0 + (own_enc 8 2).length) ut hu1 n0 Zu1 hut hV2 hat1 ⟨ERu1, FbRu1, FpRu1, qu7, grr⟩) hZv (hw _ (List.mem_of_getElem? (i := 61) rfl)) (hw _ (List.mem_of_getElem? (i := 28) rfl)) (by decide) (by decide)) qu11a qu11c (g := (mkF m 229 #[.val (.int x0), .val (.int x1), .val (.long x2), .second, .val (.long x4), .second, .val (.long x6), .second, .val (.long x8), .second, .val (.int (Int32.ofNat 2)), .val (.int (Int32.ofNat ut)), .val (.int (Int32.ofNat ug)), .val (.long (Int64.ofNat ua)), .second, .val (.long (Int64.ofNat ub)), .second, .val (.long (Int64.ofNat uc)), .second, .val (.long (Int64.ofNat ud)), .second, .val (.ref w1), .val (.ref i1), .val (.ref w2), .val (.ref r2), .val (.int (1 : Int32))] [(.ref r2)])) rfl (by rw [hml]; rfl) (Steps.refl _) (argsL := []) (rest := []) (lenOf pd_1 rfl) rfl (by show 2 * 0 + _ ≤ _; exact Nat.le_of_eq rfl) (hb hby at_229) (fun _ _ => ⟨rfl, eu1, (by decide : 14 + 0 ≤ _), (by decide : 330 + 0 ≤ _)⟩)
    dsimp only [Pt.U, Pt.locs, Pt.cells, Pt.slots] at Xu11 lu11 yu11 zu11 stu11 hQu11
    subst lu11 yu11 zu11
    generalize eu11 : Tu11.heap = hu11 at hQu11
    obtain ⟨rfl, Nu11q, Ku11, rdu11⟩ := hQu11
    have Zu11 : n0 ≤ hu11.size := Nat.le_trans Zu1 Ku11.1
    have hku11 := Nat.le_trans hku1 Ku11.1
    have qu12 : Fld Z hu11 w2 "com/example/impatiens/impatiens/statespace/StateWriter" "bytes" "[B" (.ref b2) := qu2.keep Ku11 (ninS nwr nin0)
    have qu13 : Fld Z hu11 w2 "com/example/impatiens/impatiens/statespace/StateWriter" "length" "I" (.int (Int32.ofNat (own_enc 8 2 ++ own_encs ([(ut, ua + 1, uc), (ug, ub + 1, ud)] : List (Nat × Nat × Nat))).length)) := qu3.keep Ku11 (ninS nwr nin0)
    have qu14 : Exa Z hu11 w2 "com/example/impatiens/impatiens/statespace/StateWriter" := qu4.keep Ku11
    have qu15 : Exa Z hu11 b2 "[B" := qu5.keep Ku11
    have qu16 : Exa Z hu11 r2 "com/example/impatiens/impatiens/statespace/StateReader" := ERu1.keep Ku11
    have qu17 : Arv Z hu11 b2 k2 .byte (64 : Int32) ((own_enc 8 2 ++ own_encs ([(ut, ua + 1, uc), (ug, ub + 1, ud)] : List (Nat × Nat × Nat))).map Value.int) (.int (0 : Int32)) := qu7.keep Ku11 (ninS (Ne.symm ner) nin0)
    have Nu11 := Fr.app Nu1 Nu11q
    obtain ⟨ERu11, FbRu11, FpRu11, VbRu11, grRu11⟩ := rdu11
    refine own_stepW (T' := Tu11) (g' := (mkF m 232 #[.val (.int x0), .val (.int x1), .val (.long x2), .second, .val (.long x4), .second, .val (.long x6), .second, .val (.long x8), .second, .val (.int (Int32.ofNat 2)), .val (.int (Int32.ofNat ut)), .val (.int (Int32.ofNat ug)), .val (.long (Int64.ofNat ua)), .second, .val (.long (Int64.ofNat ub)), .second, .val (.long (Int64.ofNat uc)), .second, .val (.long (Int64.ofNat ud)), .second, .val (.ref w1), .val (.ref i1), .val (.ref w2), .val (.ref r2), .val (.int (1 : Int32))] [(.long (Int64.ofNat ut))])) (fun _ k => stu11.trans k) ?_
    refine own_stepW (T' := Tu11) (g' := (mkF m 234 #[.val (.int x0), .val (.int x1), .val (.long x2), .second, .val (.long x4), .second, .val (.long x6), .second, .val (.long x8), .second, .val (.int (Int32.ofNat 2)), .val (.int (Int32.ofNat ut)), .val (.int (Int32.ofNat ug)), .val (.long (Int64.ofNat ua)), .second, .val (.long (Int64.ofNat ub)), .second, .val (.long (Int64.ofNat uc)), .second, .val (.long (Int64.ofNat ud)), .second, .val (.ref w1), .val (.ref i1), .val (.ref w2), .val (.ref r2), .val (.int (1 : Int32))] [(.int (Int32.ofNat ut)), (.long (Int64.ofNat ut))])) (fun _ k => XS.iload Xu11.here hx rfl (hb hby at_232) rfl k) ?_
    refine own_stepW (T' := Tu11) (g' := (mkF m 235 #[.val (.int x0), .val (.int x1), .val (.long x2), .second, .val (.long x4), .second, .val (.long x6), .second, .val (.long x8), .second, .val (.int (Int32.ofNat 2)), .val (.int (Int32.ofNat ut)), .val (.int (Int32.ofNat ug)), .val (.long (Int64.ofNat ua)), .second, .val (.long (Int64.ofNat ub)), .second, .val (.long (Int64.ofNat uc)), .second, .val (.long (Int64.ofNat ud)), .second, .val (.ref w1), .val (.ref i1), .val (.ref w2), .val (.ref r2), .val (.int (1 : Int32))] [(.long ((Int32.ofNat ut).toInt64)), (.long (Int64.ofNat ut))])) (fun _ k => XS.i2l Xu11.here hx rfl (hb hby at_234) rfl k) ?_
    refine own_stepW (T' := Tu11) (g' := (mkF m 236 #[.val (.int x0), .val (.int x1), .val (.long x2), .second, .val (.long x4), .second, .val (.long x6), .second, .val (.long x8), .second, .val (.int (Int32.ofNat 2)), .val (.int (Int32.ofNat ut)), .val (.int (Int32.ofNat ug)), .val (.long (Int64.ofNat ua)), .second, .val (.long (Int64.ofNat ub)), .second, .val (.long (Int64.ofNat uc)), .second, .val (.long (Int64.ofNat ud)), .second, .val (.ref w1), .val (.ref i1), .val (.ref w2), .val (.ref r2), .val (.int (1 : Int32))] [(.int (lcmpW (Int64.ofNat ut) ((Int32.ofNat ut).toInt64)))])) (fun _ k => XS.lcmp Xu11.here hx rfl (hb hby at_235) rfl k) ?_
    have hcu18 : (lcmpW (Int64.ofNat ut) ((Int32.ofNat ut).toInt64)) = (0 : Int32) := own_cmpeq (own_i2l ut hut31).symm
    refine own_stepW (T' := Tu11) (g' := (mkF m 239 #[.val (.int x0), .val (.int x1), .val (.long x2), .second, .val (.long x4), .second, .val (.long x6), .second, .val (.long x8), .second, .val (.int (Int32.ofNat 2)), .val (.int (Int32.ofNat ut)), .val (.int (Int32.ofNat ug)), .val (.long (Int64.ofNat ua)), .second, .val (.long (Int64.ofNat ub)), .second, .val (.long (Int64.ofNat uc)), .second, .val (.long (Int64.ofNat ud)), .second, .val (.ref w1), .val (.ref i1), .val (.ref w2), .val (.ref r2), .val (.int (1 : Int32))] [])) (fun _ k => XS.ifNo Xu11.here hx rfl (hb hby at_236) rfl ((if0 _ _).trans (teq hcu18).2) k) ?_
    refine own_stepW (T' := Tu11) (g' := (mkF m 241 #[.val (.int x0), .val (.int x1), .val (.long x2), .second, .val (.long x4), .second, .val (.long x6), .second, .val (.long x8), .second, .val (.int (Int32.ofNat 2)), .val (.int (Int32.ofNat ut)), .val (.int (Int32.ofNat ug)), .val (.long (Int64.ofNat ua)), .second, .val (.long (Int64.ofNat ub)), .second, .val (.long (Int64.ofNat uc)), .second, .val (.long (Int64.ofNat ud)), .second, .val (.ref w1), .val (.ref i1), .val (.ref w2), .val (.ref r2), .val (.int (1 : Int32))] [(.ref r2)])) (fun _ k => XS.aload Xu11.here hx rfl (hb hby at_239) rfl rfl k) ?_
    have hat2 : (own_enc 8 2 ++ own_encs ([(ut, ua + 1, uc), (ug, ub + 1, ud)] : List (Nat × Nat × Nat))).drop ((0 + (own_enc 8 2).length) + (own_enc 8 ut).length) = own_enc 8 (ua + 1) ++ (own_enc 8 uc ++ (own_enc 8 ug ++ (own_enc 8 (ub + 1) ++ (own_enc 8 ud ++ ([])))) : List Int32) := own_drop hat1
    obtain ⟨cqu19, kqu19, qu19a, qu19b, qu19c⟩ := isOf hZv eu11 ERu11
    obtain ⟨_, _, ⟨Tu19, Lu19, ku19, nu19⟩, -, Xu19, ⟨Lcu19, hQu19, lu19, yu19, zu19⟩, stu19⟩ := Xu11.virtualBack hx (y := (⟨"com/example/impatiens/impatiens/statespace/StateReader", "readLong", "()J"⟩ : MethodName)) (z := (⟨"com/example/impatiens/impatiens/statespace/StateReader", "readLong", "()J"⟩ : MethodName)) hownv (mvT hZv (hw _ (List.mem_of_getElem? (i := 94) rfl))) (mvT hZv (hw _ (List.mem_of_getElem? (i := 58) rfl))) (notFace_of_selects (args := #[]) (mvT hZv (hw _ (List.mem_of_getElem? (i := 60) rfl)))) (mvT hZv (hw _ (List.mem_of_getElem? (i := 60) rfl))) (mvT hZv (hw _ (List.mem_of_getElem? (i := 59) rfl))) (by decide) (backOf (W := 0) (rm9 l Z a0 hw [] r2 b2 k2 (own_enc 8 2 ++ own_encs ([(ut, ua + 1, uc), (ug, ub + 1, ud)] : List (Nat × Nat × Nat))) (own_enc 8 uc ++ (own_enc 8 ug ++ (own_enc 8 (ub + 1) ++ (own_enc 8 ud ++ ([])))) : List Int32) ((0 + (own_enc 8 2).length) + (own_enc 8 ut).length) (ua + 1) hu11 n0 Zu11 hua1 hV2 hat2 ⟨ERu11, FbRu11, FpRu11, qu17, grr⟩) hZv (hw _ (List.mem_of_getElem? (i := 61) rfl)) (hw _ (List.mem_of_getElem? (i := 28) rfl)) (by decide) (by decide)) qu19a qu19c (g := (mkF m 241 #[.val (.int x0), .val (.int x1), .val (.long x2), .second, .val (.long x4), .second, .val (.long x6), .second, .val (.long x8), .second, .val (.int (Int32.ofNat 2)), .val (.int (Int32.ofNat ut)), .val (.int (Int32.ofNat ug)), .val (.long (Int64.ofNat ua)), .second, .val (.long (Int64.ofNat ub)), .second, .val (.long (Int64.ofNat uc)), .second, .val (.long (Int64.ofNat ud)), .second, .val (.ref w1), .val (.ref i1), .val (.ref w2), .val (.ref r2), .val (.int (1 : Int32))] [(.ref r2)])) rfl (by rw [hml]; rfl) (Steps.refl _) (argsL := []) (rest := []) (lenOf pd_1 rfl) rfl (by show 2 * 0 + _ ≤ _; exact Nat.le_of_eq rfl) (hb hby at_241) (fun _ _ => ⟨rfl, eu11, (by decide : 14 + 0 ≤ _), (by decide : 330 + 0 ≤ _)⟩)
    dsimp only [Pt.U, Pt.locs, Pt.cells, Pt.slots] at Xu19 lu19 yu19 zu19 stu19 hQu19
    subst lu19 yu19 zu19
    generalize eu19 : Tu19.heap = hu19 at hQu19
    obtain ⟨rfl, Nu19q, Ku19, rdu19⟩ := hQu19
    have Zu19 : n0 ≤ hu19.size := Nat.le_trans Zu11 Ku19.1
    have hku19 := Nat.le_trans hku11 Ku19.1
    have qu20 : Fld Z hu19 w2 "com/example/impatiens/impatiens/statespace/StateWriter" "bytes" "[B" (.ref b2) := qu12.keep Ku19 (ninS nwr nin0)
    have qu21 : Fld Z hu19 w2 "com/example/impatiens/impatiens/statespace/StateWriter" "length" "I" (.int (Int32.ofNat (own_enc 8 2 ++ own_encs ([(ut, ua + 1, uc), (ug, ub + 1, ud)] : List (Nat × Nat × Nat))).length)) := qu13.keep Ku19 (ninS nwr nin0)
    have qu22 : Exa Z hu19 w2 "com/example/impatiens/impatiens/statespace/StateWriter" := qu14.keep Ku19
    have qu23 : Exa Z hu19 b2 "[B" := qu15.keep Ku19
    have qu24 : Exa Z hu19 r2 "com/example/impatiens/impatiens/statespace/StateReader" := ERu11.keep Ku19
    have qu25 : Arv Z hu19 b2 k2 .byte (64 : Int32) ((own_enc 8 2 ++ own_encs ([(ut, ua + 1, uc), (ug, ub + 1, ud)] : List (Nat × Nat × Nat))).map Value.int) (.int (0 : Int32)) := qu17.keep Ku19 (ninS (Ne.symm ner) nin0)
    have Nu19 := Fr.app Nu11 Nu19q
    obtain ⟨ERu19, FbRu19, FpRu19, VbRu19, grRu19⟩ := rdu19
    refine own_stepW (T' := Tu19) (g' := (mkF m 244 #[.val (.int x0), .val (.int x1), .val (.long x2), .second, .val (.long x4), .second, .val (.long x6), .second, .val (.long x8), .second, .val (.int (Int32.ofNat 2)), .val (.int (Int32.ofNat ut)), .val (.int (Int32.ofNat ug)), .val (.long (Int64.ofNat ua)), .second, .val (.long (Int64.ofNat ub)), .second, .val (.long (Int64.ofNat uc)), .second, .val (.long (Int64.ofNat ud)), .second, .val (.ref w1), .val (.ref i1), .val (.ref w2), .val (.ref r2), .val (.int (1 : Int32))] [(.long (Int64.ofNat (ua + 1)))])) (fun _ k => stu19.trans k) ?_
    refine own_stepW (T' := Tu19) (g' := (mkF m 246 #[.val (.int x0), .val (.int x1), .val (.long x2), .second, .val (.long x4), .second, .val (.long x6), .second, .val (.long x8), .second, .val (.int (Int32.ofNat 2)), .val (.int (Int32.ofNat ut)), .val (.int (Int32.ofNat ug)), .val (.long (Int64.ofNat ua)), .second, .val (.long (Int64.ofNat ub)), .second, .val (.long (Int64.ofNat uc)), .second, .val (.long (Int64.ofNat ud)), .second, .val (.ref w1), .val (.ref i1), .val (.ref w2), .val (.ref r2), .val (.int (1 : Int32))] [(.long (Int64.ofNat ua)), (.long (Int64.ofNat (ua + 1)))])) (fun _ k => XS.lload Xu19.here hx rfl (hb hby at_244) rfl k) ?_
    refine own_stepW (T' := Tu19) (g' := (mkF m 247 #[.val (.int x0), .val (.int x1), .val (.long x2), .second, .val (.long x4), .second, .val (.long x6), .second, .val (.long x8), .second, .val (.int (Int32.ofNat 2)), .val (.int (Int32.ofNat ut)), .val (.int (Int32.ofNat ug)), .val (.long (Int64.ofNat ua)), .second, .val (.long (Int64.ofNat ub)), .second, .val (.long (Int64.ofNat uc)), .second, .val (.long (Int64.ofNat ud)), .second, .val (.ref w1), .val (.ref i1), .val (.ref w2), .val (.ref r2), .val (.int (1 : Int32))] [(.long (1 : Int64)), (.long (Int64.ofNat ua)), (.long (Int64.ofNat (ua + 1)))])) (fun _ k => XS.lconst Xu19.here hx rfl (hb hby at_246) k) ?_
    refine own_stepW (T' := Tu19) (g' := (mkF m 248 #[.val (.int x0), .val (.int x1), .val (.long x2), .second, .val (.long x4), .second, .val (.long x6), .second, .val (.long x8), .second, .val (.int (Int32.ofNat 2)), .val (.int (Int32.ofNat ut)), .val (.int (Int32.ofNat ug)), .val (.long (Int64.ofNat ua)), .second, .val (.long (Int64.ofNat ub)), .second, .val (.long (Int64.ofNat uc)), .second, .val (.long (Int64.ofNat ud)), .second, .val (.ref w1), .val (.ref i1), .val (.ref w2), .val (.ref r2), .val (.int (1 : Int32))] [(.long ((Int64.ofNat ua) + (1 : Int64))), (.long (Int64.ofNat (ua + 1)))])) (fun _ k => XS.ladd Xu19.here hx rfl (hb hby at_247) rfl k) ?_
    refine own_stepW (T' := Tu19) (g' := (mkF m 249 #[.val (.int x0), .val (.int x1), .val (.long x2), .second, .val (.long x4), .second, .val (.long x6), .second, .val (.long x8), .second, .val (.int (Int32.ofNat 2)), .val (.int (Int32.ofNat ut)), .val (.int (Int32.ofNat ug)), .val (.long (Int64.ofNat ua)), .second, .val (.long (Int64.ofNat ub)), .second, .val (.long (Int64.ofNat uc)), .second, .val (.long (Int64.ofNat ud)), .second, .val (.ref w1), .val (.ref i1), .val (.ref w2), .val (.ref r2), .val (.int (1 : Int32))] [(.int (lcmpW (Int64.ofNat (ua + 1)) ((Int64.ofNat ua) + (1 : Int64))))])) (fun _ k => XS.lcmp Xu19.here hx rfl (hb hby at_248) rfl k) ?_
    have hcu26 : (lcmpW (Int64.ofNat (ua + 1)) ((Int64.ofNat ua) + (1 : Int64))) = (0 : Int32) := own_cmpeq (own_succ64 ua).symm
    refine own_stepW (T' := Tu19) (g' := (mkF m 252 #[.val (.int x0), .val (.int x1), .val (.long x2), .second, .val (.long x4), .second, .val (.long x6), .second, .val (.long x8), .second, .val (.int (Int32.ofNat 2)), .val (.int (Int32.ofNat ut)), .val (.int (Int32.ofNat ug)), .val (.long (Int64.ofNat ua)), .second, .val (.long (Int64.ofNat ub)), .second, .val (.long (Int64.ofNat uc)), .second, .val (.long (Int64.ofNat ud)), .second, .val (.ref w1), .val (.ref i1), .val (.ref w2), .val (.ref r2), .val (.int (1 : Int32))] [])) (fun _ k => XS.ifNo Xu19.here hx rfl (hb hby at_249) rfl ((if0 _ _).trans (teq hcu26).2) k) ?_
    refine own_stepW (T' := Tu19) (g' := (mkF m 254 #[.val (.int x0), .val (.int x1), .val (.long x2), .second, .val (.long x4), .second, .val (.long x6), .second, .val (.long x8), .second, .val (.int (Int32.ofNat 2)), .val (.int (Int32.ofNat ut)), .val (.int (Int32.ofNat ug)), .val (.long (Int64.ofNat ua)), .second, .val (.long (Int64.ofNat ub)), .second, .val (.long (Int64.ofNat uc)), .second, .val (.long (Int64.ofNat ud)), .second, .val (.ref w1), .val (.ref i1), .val (.ref w2), .val (.ref r2), .val (.int (1 : Int32))] [(.ref r2)])) (fun _ k => XS.aload Xu19.here hx rfl (hb hby at_252) rfl rfl k) ?_
    have hat3 : (own_enc 8 2 ++ own_encs ([(ut, ua + 1, uc), (ug, ub + 1, ud)] : List (Nat × Nat × Nat))).drop (((0 + (own_enc 8 2).length) + (own_enc 8 ut).length) + (own_enc 8 (ua + 1)).length) = own_enc 8 uc ++ (own_enc 8 ug ++ (own_enc 8 (ub + 1) ++ (own_enc 8 ud ++ ([]))) : List Int32) := own_drop hat2
    obtain ⟨cqu27, kqu27, qu27a, qu27b, qu27c⟩ := isOf hZv eu19 ERu19
    obtain ⟨_, _, ⟨Tu27, Lu27, ku27, nu27⟩, -, Xu27, ⟨Lcu27, hQu27, lu27, yu27, zu27⟩, stu27⟩ := Xu19.virtualBack hx (y := (⟨"com/example/impatiens/impatiens/statespace/StateReader", "readLong", "()J"⟩ : MethodName)) (z := (⟨"com/example/impatiens/impatiens/statespace/StateReader", "readLong", "()J"⟩ : MethodName)) hownv (mvT hZv (hw _ (List.mem_of_getElem? (i := 94) rfl))) (mvT hZv (hw _ (List.mem_of_getElem? (i := 58) rfl))) (notFace_of_selects (args := #[]) (mvT hZv (hw _ (List.mem_of_getElem? (i := 60) rfl)))) (mvT hZv (hw _ (List.mem_of_getElem? (i := 60) rfl))) (mvT hZv (hw _ (List.mem_of_getElem? (i := 59) rfl))) (by decide) (backOf (W := 0) (rm9 l Z a0 hw [] r2 b2 k2 (own_enc 8 2 ++ own_encs ([(ut, ua + 1, uc), (ug, ub + 1, ud)] : List (Nat × Nat × Nat))) (own_enc 8 ug ++ (own_enc 8 (ub + 1) ++ (own_enc 8 ud ++ ([]))) : List Int32) (((0 + (own_enc 8 2).length) + (own_enc 8 ut).length) + (own_enc 8 (ua + 1)).length) uc hu19 n0 Zu19 hC hV2 hat3 ⟨ERu19, FbRu19, FpRu19, qu25, grr⟩) hZv (hw _ (List.mem_of_getElem? (i := 61) rfl)) (hw _ (List.mem_of_getElem? (i := 28) rfl)) (by decide) (by decide)) qu27a qu27c (g := (mkF m 254 #[.val (.int x0), .val (.int x1), .val (.long x2), .second, .val (.long x4), .second, .val (.long x6), .second, .val (.long x8), .second, .val (.int (Int32.ofNat 2)), .val (.int (Int32.ofNat ut)), .val (.int (Int32.ofNat ug)), .val (.long (Int64.ofNat ua)), .second, .val (.long (Int64.ofNat ub)), .second, .val (.long (Int64.ofNat uc)), .second, .val (.long (Int64.ofNat ud)), .second, .val (.ref w1), .val (.ref i1), .val (.ref w2), .val (.ref r2), .val (.int (1 : Int32))] [(.ref r2)])) rfl (by rw [hml]; rfl) (Steps.refl _) (argsL := []) (rest := []) (lenOf pd_1 rfl) rfl (by show 2 * 0 + _ ≤ _; exact Nat.le_of_eq rfl) (hb hby at_254) (fun _ _ => ⟨rfl, eu19, (by decide : 14 + 0 ≤ _), (by decide : 330 + 0 ≤ _)⟩)
    dsimp only [Pt.U, Pt.locs, Pt.cells, Pt.slots] at Xu27 lu27 yu27 zu27 stu27 hQu27
    subst lu27 yu27 zu27
    generalize eu27 : Tu27.heap = hu27 at hQu27
    obtain ⟨rfl, Nu27q, Ku27, rdu27⟩ := hQu27
    have Zu27 : n0 ≤ hu27.size := Nat.le_trans Zu19 Ku27.1
    have hku27 := Nat.le_trans hku19 Ku27.1
    have qu28 : Fld Z hu27 w2 "com/example/impatiens/impatiens/statespace/StateWriter" "bytes" "[B" (.ref b2) := qu20.keep Ku27 (ninS nwr nin0)
    have qu29 : Fld Z hu27 w2 "com/example/impatiens/impatiens/statespace/StateWriter" "length" "I" (.int (Int32.ofNat (own_enc 8 2 ++ own_encs ([(ut, ua + 1, uc), (ug, ub + 1, ud)] : List (Nat × Nat × Nat))).length)) := qu21.keep Ku27 (ninS nwr nin0)
    have qu30 : Exa Z hu27 w2 "com/example/impatiens/impatiens/statespace/StateWriter" := qu22.keep Ku27
    have qu31 : Exa Z hu27 b2 "[B" := qu23.keep Ku27
    have qu32 : Exa Z hu27 r2 "com/example/impatiens/impatiens/statespace/StateReader" := ERu19.keep Ku27
    have qu33 : Arv Z hu27 b2 k2 .byte (64 : Int32) ((own_enc 8 2 ++ own_encs ([(ut, ua + 1, uc), (ug, ub + 1, ud)] : List (Nat × Nat × Nat))).map Value.int) (.int (0 : Int32)) := qu25.keep Ku27 (ninS (Ne.symm ner) nin0)
    have Nu27 := Fr.app Nu19 Nu27q
    obtain ⟨ERu27, FbRu27, FpRu27, VbRu27, grRu27⟩ := rdu27
    refine own_stepW (T' := Tu27) (g' := (mkF m 257 #[.val (.int x0), .val (.int x1), .val (.long x2), .second, .val (.long x4), .second, .val (.long x6), .second, .val (.long x8), .second, .val (.int (Int32.ofNat 2)), .val (.int (Int32.ofNat ut)), .val (.int (Int32.ofNat ug)), .val (.long (Int64.ofNat ua)), .second, .val (.long (Int64.ofNat ub)), .second, .val (.long (Int64.ofNat uc)), .second, .val (.long (Int64.ofNat ud)), .second, .val (.ref w1), .val (.ref i1), .val (.ref w2), .val (.ref r2), .val (.int (1 : Int32))] [(.long (Int64.ofNat uc))])) (fun _ k => stu27.trans k) ?_
    refine own_stepW (T' := Tu27) (g' := (mkF m 259 #[.val (.int x0), .val (.int x1), .val (.long x2), .second, .val (.long x4), .second, .val (.long x6), .second, .val (.long x8), .second, .val (.int (Int32.ofNat 2)), .val (.int (Int32.ofNat ut)), .val (.int (Int32.ofNat ug)), .val (.long (Int64.ofNat ua)), .second, .val (.long (Int64.ofNat ub)), .second, .val (.long (Int64.ofNat uc)), .second, .val (.long (Int64.ofNat ud)), .second, .val (.ref w1), .val (.ref i1), .val (.ref w2), .val (.ref r2), .val (.int (1 : Int32))] [(.long (Int64.ofNat uc)), (.long (Int64.ofNat uc))])) (fun _ k => XS.lload Xu27.here hx rfl (hb hby at_257) rfl k) ?_
    refine own_stepW (T' := Tu27) (g' := (mkF m 260 #[.val (.int x0), .val (.int x1), .val (.long x2), .second, .val (.long x4), .second, .val (.long x6), .second, .val (.long x8), .second, .val (.int (Int32.ofNat 2)), .val (.int (Int32.ofNat ut)), .val (.int (Int32.ofNat ug)), .val (.long (Int64.ofNat ua)), .second, .val (.long (Int64.ofNat ub)), .second, .val (.long (Int64.ofNat uc)), .second, .val (.long (Int64.ofNat ud)), .second, .val (.ref w1), .val (.ref i1), .val (.ref w2), .val (.ref r2), .val (.int (1 : Int32))] [(.int (lcmpW (Int64.ofNat uc) (Int64.ofNat uc)))])) (fun _ k => XS.lcmp Xu27.here hx rfl (hb hby at_259) rfl k) ?_
    have hcu34 : (lcmpW (Int64.ofNat uc) (Int64.ofNat uc)) = (0 : Int32) := own_cmpeq rfl
    refine own_stepW (T' := Tu27) (g' := (mkF m 263 #[.val (.int x0), .val (.int x1), .val (.long x2), .second, .val (.long x4), .second, .val (.long x6), .second, .val (.long x8), .second, .val (.int (Int32.ofNat 2)), .val (.int (Int32.ofNat ut)), .val (.int (Int32.ofNat ug)), .val (.long (Int64.ofNat ua)), .second, .val (.long (Int64.ofNat ub)), .second, .val (.long (Int64.ofNat uc)), .second, .val (.long (Int64.ofNat ud)), .second, .val (.ref w1), .val (.ref i1), .val (.ref w2), .val (.ref r2), .val (.int (1 : Int32))] [])) (fun _ k => XS.ifNo Xu27.here hx rfl (hb hby at_260) rfl ((if0 _ _).trans (teq hcu34).2) k) ?_
    refine own_stepW (T' := Tu27) (g' := (mkF m 264 #[.val (.int x0), .val (.int x1), .val (.long x2), .second, .val (.long x4), .second, .val (.long x6), .second, .val (.long x8), .second, .val (.int (Int32.ofNat 2)), .val (.int (Int32.ofNat ut)), .val (.int (Int32.ofNat ug)), .val (.long (Int64.ofNat ua)), .second, .val (.long (Int64.ofNat ub)), .second, .val (.long (Int64.ofNat uc)), .second, .val (.long (Int64.ofNat ud)), .second, .val (.ref w1), .val (.ref i1), .val (.ref w2), .val (.ref r2), .val (.int (1 : Int32))] [(.int (1 : Int32))])) (fun _ k => XS.iconst Xu27.here hx rfl (hb hby at_263) k) ?_
    refine own_stepW (T' := Tu27) (g' := (mkF m 268 #[.val (.int x0), .val (.int x1), .val (.long x2), .second, .val (.long x4), .second, .val (.long x6), .second, .val (.long x8), .second, .val (.int (Int32.ofNat 2)), .val (.int (Int32.ofNat ut)), .val (.int (Int32.ofNat ug)), .val (.long (Int64.ofNat ua)), .second, .val (.long (Int64.ofNat ub)), .second, .val (.long (Int64.ofNat uc)), .second, .val (.long (Int64.ofNat ud)), .second, .val (.ref w1), .val (.ref i1), .val (.ref w2), .val (.ref r2), .val (.int (1 : Int32))] [(.int (1 : Int32))])) (fun _ k => XS.goto Xu27.here hx rfl (pc0 := 264) (pc' := 268) rfl (hb hby at_264) (by decide) (by decide) k) ?_
    refine own_stepW (T' := Tu27) (g' := (mkF m 270 #[.val (.int x0), .val (.int x1), .val (.long x2), .second, .val (.long x4), .second, .val (.long x6), .second, .val (.long x8), .second, .val (.int (Int32.ofNat 2)), .val (.int (Int32.ofNat ut)), .val (.int (Int32.ofNat ug)), .val (.long (Int64.ofNat ua)), .second, .val (.long (Int64.ofNat ub)), .second, .val (.long (Int64.ofNat uc)), .second, .val (.long (Int64.ofNat ud)), .second, .val (.ref w1), .val (.ref i1), .val (.ref w2), .val (.ref r2), .val (.int (1 : Int32))] [])) (fun _ k => XS.istore Xu27.here hx rfl (hb hby at_268) rfl (l' := #[.val (.int x0), .val (.int x1), .val (.long x2), .second, .val (.long x4), .second, .val (.long x6), .second, .val (.long x8), .second, .val (.int (Int32.ofNat 2)), .val (.int (Int32.ofNat ut)), .val (.int (Int32.ofNat ug)), .val (.long (Int64.ofNat ua)), .second, .val (.long (Int64.ofNat ub)), .second, .val (.long (Int64.ofNat uc)), .second, .val (.long (Int64.ofNat ud)), .second, .val (.ref w1), .val (.ref i1), .val (.ref w2), .val (.ref r2), .val (.int (1 : Int32))]) rfl k) ?_
    refine own_stepW (T' := Tu27) (g' := (mkF m 272 #[.val (.int x0), .val (.int x1), .val (.long x2), .second, .val (.long x4), .second, .val (.long x6), .second, .val (.long x8), .second, .val (.int (Int32.ofNat 2)), .val (.int (Int32.ofNat ut)), .val (.int (Int32.ofNat ug)), .val (.long (Int64.ofNat ua)), .second, .val (.long (Int64.ofNat ub)), .second, .val (.long (Int64.ofNat uc)), .second, .val (.long (Int64.ofNat ud)), .second, .val (.ref w1), .val (.ref i1), .val (.ref w2), .val (.ref r2), .val (.int (1 : Int32))] [(.int (1 : Int32))])) (fun _ k => XS.iload Xu27.here hx rfl (hb hby at_270) rfl k) ?_
    have hcu35 : ¬ ((1 : Int32) = (0 : Int32)) := by decide
    refine own_stepW (T' := Tu27) (g' := (mkF m 275 #[.val (.int x0), .val (.int x1), .val (.long x2), .second, .val (.long x4), .second, .val (.long x6), .second, .val (.long x8), .second, .val (.int (Int32.ofNat 2)), .val (.int (Int32.ofNat ut)), .val (.int (Int32.ofNat ug)), .val (.long (Int64.ofNat ua)), .second, .val (.long (Int64.ofNat ub)), .second, .val (.long (Int64.ofNat uc)), .second, .val (.long (Int64.ofNat ud)), .second, .val (.ref w1), .val (.ref i1), .val (.ref w2), .val (.ref r2), .val (.int (1 : Int32))] [])) (fun _ k => XS.ifNo Xu27.here hx rfl (hb hby at_272) rfl ((if0 _ _).trans (feq hcu35).1) k) ?_
    refine own_stepW (T' := Tu27) (g' := (mkF m 277 #[.val (.int x0), .val (.int x1), .val (.long x2), .second, .val (.long x4), .second, .val (.long x6), .second, .val (.long x8), .second, .val (.int (Int32.ofNat 2)), .val (.int (Int32.ofNat ut)), .val (.int (Int32.ofNat ug)), .val (.long (Int64.ofNat ua)), .second, .val (.long (Int64.ofNat ub)), .second, .val (.long (Int64.ofNat uc)), .second, .val (.long (Int64.ofNat ud)), .second, .val (.ref w1), .val (.ref i1), .val (.ref w2), .val (.ref r2), .val (.int (1 : Int32))] [(.int (Int32.ofNat 2))])) (fun _ k => XS.iload Xu27.here hx rfl (hb hby at_275) rfl k) ?_
    refine own_stepW (T' := Tu27) (g' := (mkF m 278 #[.val (.int x0), .val (.int x1), .val (.long x2), .second, .val (.long x4), .second, .val (.long x6), .second, .val (.long x8), .second, .val (.int (Int32.ofNat 2)), .val (.int (Int32.ofNat ut)), .val (.int (Int32.ofNat ug)), .val (.long (Int64.ofNat ua)), .second, .val (.long (Int64.ofNat ub)), .second, .val (.long (Int64.ofNat uc)), .second, .val (.long (Int64.ofNat ud)), .second, .val (.ref w1), .val (.ref i1), .val (.ref w2), .val (.ref r2), .val (.int (1 : Int32))] [(.int (2 : Int32)), (.int (Int32.ofNat 2))])) (fun _ k => XS.iconst Xu27.here hx rfl (hb hby at_277) k) ?_
    have hcu36 : ¬ ((Int32.ofNat 2) < (2 : Int32)) := by decide
    refine own_stepW (T' := Tu27) (g' := (mkF m 281 #[.val (.int x0), .val (.int x1), .val (.long x2), .second, .val (.long x4), .second, .val (.long x6), .second, .val (.long x8), .second, .val (.int (Int32.ofNat 2)), .val (.int (Int32.ofNat ut)), .val (.int (Int32.ofNat ug)), .val (.long (Int64.ofNat ua)), .second, .val (.long (Int64.ofNat ub)), .second, .val (.long (Int64.ofNat uc)), .second, .val (.long (Int64.ofNat ud)), .second, .val (.ref w1), .val (.ref i1), .val (.ref w2), .val (.ref r2), .val (.int (1 : Int32))] [])) (fun _ k => XS.icmpNo Xu27.here hx rfl (hb hby at_278) rfl (flt hcu36).1 k) ?_
    refine own_stepW (T' := Tu27) (g' := (mkF m 283 #[.val (.int x0), .val (.int x1), .val (.long x2), .second, .val (.long x4), .second, .val (.long x6), .second, .val (.long x8), .second, .val (.int (Int32.ofNat 2)), .val (.int (Int32.ofNat ut)), .val (.int (Int32.ofNat ug)), .val (.long (Int64.ofNat ua)), .second, .val (.long (Int64.ofNat ub)), .second, .val (.long (Int64.ofNat uc)), .second, .val (.long (Int64.ofNat ud)), .second, .val (.ref w1), .val (.ref i1), .val (.ref w2), .val (.ref r2), .val (.int (1 : Int32))] [(.ref r2)])) (fun _ k => XS.aload Xu27.here hx rfl (hb hby at_281) rfl rfl k) ?_
    have hat4 : (own_enc 8 2 ++ own_encs ([(ut, ua + 1, uc), (ug, ub + 1, ud)] : List (Nat × Nat × Nat))).drop ((((0 + (own_enc 8 2).length) + (own_enc 8 ut).length) + (own_enc 8 (ua + 1)).length) + (own_enc 8 uc).length) = own_enc 8 ug ++ (own_enc 8 (ub + 1) ++ (own_enc 8 ud ++ ([])) : List Int32) := own_drop hat3
    obtain ⟨cqu37, kqu37, qu37a, qu37b, qu37c⟩ := isOf hZv eu27 ERu27
    obtain ⟨_, _, ⟨Tu37, Lu37, ku37, nu37⟩, -, Xu37, ⟨Lcu37, hQu37, lu37, yu37, zu37⟩, stu37⟩ := Xu27.virtualBack hx (y := (⟨"com/example/impatiens/impatiens/statespace/StateReader", "readLong", "()J"⟩ : MethodName)) (z := (⟨"com/example/impatiens/impatiens/statespace/StateReader", "readLong", "()J"⟩ : MethodName)) hownv (mvT hZv (hw _ (List.mem_of_getElem? (i := 94) rfl))) (mvT hZv (hw _ (List.mem_of_getElem? (i := 58) rfl))) (notFace_of_selects (args := #[]) (mvT hZv (hw _ (List.mem_of_getElem? (i := 60) rfl)))) (mvT hZv (hw _ (List.mem_of_getElem? (i := 60) rfl))) (mvT hZv (hw _ (List.mem_of_getElem? (i := 59) rfl))) (by decide) (backOf (W := 0) (rm9 l Z a0 hw [] r2 b2 k2 (own_enc 8 2 ++ own_encs ([(ut, ua + 1, uc), (ug, ub + 1, ud)] : List (Nat × Nat × Nat))) (own_enc 8 (ub + 1) ++ (own_enc 8 ud ++ ([])) : List Int32) ((((0 + (own_enc 8 2).length) + (own_enc 8 ut).length) + (own_enc 8 (ua + 1)).length) + (own_enc 8 uc).length) ug hu27 n0 Zu27 hug hV2 hat4 ⟨ERu27, FbRu27, FpRu27, qu33, grr⟩) hZv (hw _ (List.mem_of_getElem? (i := 61) rfl)) (hw _ (List.mem_of_getElem? (i := 28) rfl)) (by decide) (by decide)) qu37a qu37c (g := (mkF m 283 #[.val (.int x0), .val (.int x1), .val (.long x2), .second, .val (.long x4), .second, .val (.long x6), .second, .val (.long x8), .second, .val (.int (Int32.ofNat 2)), .val (.int (Int32.ofNat ut)), .val (.int (Int32.ofNat ug)), .val (.long (Int64.ofNat ua)), .second, .val (.long (Int64.ofNat ub)), .second, .val (.long (Int64.ofNat uc)), .second, .val (.long (Int64.ofNat ud)), .second, .val (.ref w1), .val (.ref i1), .val (.ref w2), .val (.ref r2), .val (.int (1 : Int32))] [(.ref r2)])) rfl (by rw [hml]; rfl) (Steps.refl _) (argsL := []) (rest := []) (lenOf pd_1 rfl) rfl (by show 2 * 0 + _ ≤ _; exact Nat.le_of_eq rfl) (hb hby at_283) (fun _ _ => ⟨rfl, eu27, (by decide : 14 + 0 ≤ _), (by decide : 330 + 0 ≤ _)⟩)
    dsimp only [Pt.U, Pt.locs, Pt.cells, Pt.slots] at Xu37 lu37 yu37 zu37 stu37 hQu37
    subst lu37 yu37 zu37
    generalize eu37 : Tu37.heap = hu37 at hQu37
    obtain ⟨rfl, Nu37q, Ku37, rdu37⟩ := hQu37
    have Zu37 : n0 ≤ hu37.size := Nat.le_trans Zu27 Ku37.1
    have hku37 := Nat.le_trans hku27 Ku37.1
    have qu38 : Fld Z hu37 w2 "com/example/impatiens/impatiens/statespace/StateWriter" "bytes" "[B" (.ref b2) := qu28.keep Ku37 (ninS nwr nin0)
    have qu39 : Fld Z hu37 w2 "com/example/impatiens/impatiens/statespace/StateWriter" "length" "I" (.int (Int32.ofNat (own_enc 8 2 ++ own_encs ([(ut, ua + 1, uc), (ug, ub + 1, ud)] : List (Nat × Nat × Nat))).length)) := qu29.keep Ku37 (ninS nwr nin0)
    have qu40 : Exa Z hu37 w2 "com/example/impatiens/impatiens/statespace/StateWriter" := qu30.keep Ku37
    have qu41 : Exa Z hu37 b2 "[B" := qu31.keep Ku37
    have qu42 : Exa Z hu37 r2 "com/example/impatiens/impatiens/statespace/StateReader" := ERu27.keep Ku37
    have qu43 : Arv Z hu37 b2 k2 .byte (64 : Int32) ((own_enc 8 2 ++ own_encs ([(ut, ua + 1, uc), (ug, ub + 1, ud)] : List (Nat × Nat × Nat))).map Value.int) (.int (0 : Int32)) := qu33.keep Ku37 (ninS (Ne.symm ner) nin0)
    have Nu37 := Fr.app Nu27 Nu37q
    obtain ⟨ERu37, FbRu37, FpRu37, VbRu37, grRu37⟩ := rdu37
    refine own_stepW (T' := Tu37) (g' := (mkF m 286 #[.val (.int x0), .val (.int x1), .val (.long x2), .second, .val (.long x4), .second, .val (.long x6), .second, .val (.long x8), .second, .val (.int (Int32.ofNat 2)), .val (.int (Int32.ofNat ut)), .val (.int (Int32.ofNat ug)), .val (.long (Int64.ofNat ua)), .second, .val (.long (Int64.ofNat ub)), .second, .val (.long (Int64.ofNat uc)), .second, .val (.long (Int64.ofNat ud)), .second, .val (.ref w1), .val (.ref i1), .val (.ref w2), .val (.ref r2), .val (.int (1 : Int32))] [(.long (Int64.ofNat ug))])) (fun _ k => stu37.trans k) ?_
    refine own_stepW (T' := Tu37) (g' := (mkF m 288 #[.val (.int x0), .val (.int x1), .val (.long x2), .second, .val (.long x4), .second, .val (.long x6), .second, .val (.long x8), .second, .val (.int (Int32.ofNat 2)), .val (.int (Int32.ofNat ut)), .val (.int (Int32.ofNat ug)), .val (.long (Int64.ofNat ua)), .second, .val (.long (Int64.ofNat ub)), .second, .val (.long (Int64.ofNat uc)), .second, .val (.long (Int64.ofNat ud)), .second, .val (.ref w1), .val (.ref i1), .val (.ref w2), .val (.ref r2), .val (.int (1 : Int32))] [(.int (Int32.ofNat ug)), (.long (Int64.ofNat ug))])) (fun _ k => XS.iload Xu37.here hx rfl (hb hby at_286) rfl k) ?_
    refine own_stepW (T' := Tu37) (g' := (mkF m 289 #[.val (.int x0), .val (.int x1), .val (.long x2), .second, .val (.long x4), .second, .val (.long x6), .second, .val (.long x8), .second, .val (.int (Int32.ofNat 2)), .val (.int (Int32.ofNat ut)), .val (.int (Int32.ofNat ug)), .val (.long (Int64.ofNat ua)), .second, .val (.long (Int64.ofNat ub)), .second, .val (.long (Int64.ofNat uc)), .second, .val (.long (Int64.ofNat ud)), .second, .val (.ref w1), .val (.ref i1), .val (.ref w2), .val (.ref r2), .val (.int (1 : Int32))] [(.long ((Int32.ofNat ug).toInt64)), (.long (Int64.ofNat ug))])) (fun _ k => XS.i2l Xu37.here hx rfl (hb hby at_288) rfl k) ?_
    refine own_stepW (T' := Tu37) (g' := (mkF m 290 #[.val (.int x0), .val (.int x1), .val (.long x2), .second, .val (.long x4), .second, .val (.long x6), .second, .val (.long x8), .second, .val (.int (Int32.ofNat 2)), .val (.int (Int32.ofNat ut)), .val (.int (Int32.ofNat ug)), .val (.long (Int64.ofNat ua)), .second, .val (.long (Int64.ofNat ub)), .second, .val (.long (Int64.ofNat uc)), .second, .val (.long (Int64.ofNat ud)), .second, .val (.ref w1), .val (.ref i1), .val (.ref w2), .val (.ref r2), .val (.int (1 : Int32))] [(.int (lcmpW (Int64.ofNat ug) ((Int32.ofNat ug).toInt64)))])) (fun _ k => XS.lcmp Xu37.here hx rfl (hb hby at_289) rfl k) ?_
    have hcu44 : (lcmpW (Int64.ofNat ug) ((Int32.ofNat ug).toInt64)) = (0 : Int32) := own_cmpeq (own_i2l ug hug31).symm
    refine own_stepW (T' := Tu37) (g' := (mkF m 293 #[.val (.int x0), .val (.int x1), .val (.long x2), .second, .val (.long x4), .second, .val (.long x6), .second, .val (.long x8), .second, .val (.int (Int32.ofNat 2)), .val (.int (Int32.ofNat ut)), .val (.int (Int32.ofNat ug)), .val (.long (Int64.ofNat ua)), .second, .val (.long (Int64.ofNat ub)), .second, .val (.long (Int64.ofNat uc)), .second, .val (.long (Int64.ofNat ud)), .second, .val (.ref w1), .val (.ref i1), .val (.ref w2), .val (.ref r2), .val (.int (1 : Int32))] [])) (fun _ k => XS.ifNo Xu37.here hx rfl (hb hby at_290) rfl ((if0 _ _).trans (teq hcu44).2) k) ?_
    refine own_stepW (T' := Tu37) (g' := (mkF m 295 #[.val (.int x0), .val (.int x1), .val (.long x2), .second, .val (.long x4), .second, .val (.long x6), .second, .val (.long x8), .second, .val (.int (Int32.ofNat 2)), .val (.int (Int32.ofNat ut)), .val (.int (Int32.ofNat ug)), .val (.long (Int64.ofNat ua)), .second, .val (.long (Int64.ofNat ub)), .second, .val (.long (Int64.ofNat uc)), .second, .val (.long (Int64.ofNat ud)), .second, .val (.ref w1), .val (.ref i1), .val (.ref w2), .val (.ref r2), .val (.int (1 : Int32))] [(.ref r2)])) (fun _ k => XS.aload Xu37.here hx rfl (hb hby at_293) rfl rfl k) ?_
    have hat5 : (own_enc 8 2 ++ own_encs ([(ut, ua + 1, uc), (ug, ub + 1, ud)] : List (Nat × Nat × Nat))).drop (((((0 + (own_enc 8 2).length) + (own_enc 8 ut).length) + (own_enc 8 (ua + 1)).length) + (own_enc 8 uc).length) + (own_enc 8 ug).length) = own_enc 8 (ub + 1) ++ (own_enc 8 ud ++ ([]) : List Int32) := own_drop hat4
    obtain ⟨cqu45, kqu45, qu45a, qu45b, qu45c⟩ := isOf hZv eu37 ERu37
    obtain ⟨_, _, ⟨Tu45, Lu45, ku45, nu45⟩, -, Xu45, ⟨Lcu45, hQu45, lu45, yu45, zu45⟩, stu45⟩ := Xu37.virtualBack hx (y := (⟨"com/example/impatiens/impatiens/statespace/StateReader", "readLong", "()J"⟩ : MethodName)) (z := (⟨"com/example/impatiens/impatiens/statespace/StateReader", "readLong", "()J"⟩ : MethodName)) hownv (mvT hZv (hw _ (List.mem_of_getElem? (i := 94) rfl))) (mvT hZv (hw _ (List.mem_of_getElem? (i := 58) rfl))) (notFace_of_selects (args := #[]) (mvT hZv (hw _ (List.mem_of_getElem? (i := 60) rfl)))) (mvT hZv (hw _ (List.mem_of_getElem? (i := 60) rfl))) (mvT hZv (hw _ (List.mem_of_getElem? (i := 59) rfl))) (by decide) (backOf (W := 0) (rm9 l Z a0 hw [] r2 b2 k2 (own_enc 8 2 ++ own_encs ([(ut, ua + 1, uc), (ug, ub + 1, ud)] : List (Nat × Nat × Nat))) (own_enc 8 ud ++ ([]) : List Int32) (((((0 + (own_enc 8 2).length) + (own_enc 8 ut).length) + (own_enc 8 (ua + 1)).length) + (own_enc 8 uc).length) + (own_enc 8 ug).length) (ub + 1) hu37 n0 Zu37 hub1 hV2 hat5 ⟨ERu37, FbRu37, FpRu37, qu43, grr⟩) hZv (hw _ (List.mem_of_getElem? (i := 61) rfl)) (hw _ (List.mem_of_getElem? (i := 28) rfl)) (by decide) (by decide)) qu45a qu45c (g := (mkF m 295 #[.val (.int x0), .val (.int x1), .val (.long x2), .second, .val (.long x4), .second, .val (.long x6), .second, .val (.long x8), .second, .val (.int (Int32.ofNat 2)), .val (.int (Int32.ofNat ut)), .val (.int (Int32.ofNat ug)), .val (.long (Int64.ofNat ua)), .second, .val (.long (Int64.ofNat ub)), .second, .val (.long (Int64.ofNat uc)), .second, .val (.long (Int64.ofNat ud)), .second, .val (.ref w1), .val (.ref i1), .val (.ref w2), .val (.ref r2), .val (.int (1 : Int32))] [(.ref r2)])) rfl (by rw [hml]; rfl) (Steps.refl _) (argsL := []) (rest := []) (lenOf pd_1 rfl) rfl (by show 2 * 0 + _ ≤ _; exact Nat.le_of_eq rfl) (hb hby at_295) (fun _ _ => ⟨rfl, eu37, (by decide : 14 + 0 ≤ _), (by decide : 330 + 0 ≤ _)⟩)
    dsimp only [Pt.U, Pt.locs, Pt.cells, Pt.slots] at Xu45 lu45 yu45 zu45 stu45 hQu45
    subst lu45 yu45 zu45
    generalize eu45 : Tu45.heap = hu45 at hQu45
    obtain ⟨rfl, Nu45q, Ku45, rdu45⟩ := hQu45
    have Zu45 : n0 ≤ hu45.size := Nat.le_trans Zu37 Ku45.1
    have hku45 := Nat.le_trans hku37 Ku45.1
    have qu46 : Fld Z hu45 w2 "com/example/impatiens/impatiens/statespace/StateWriter" "bytes" "[B" (.ref b2) := qu38.keep Ku45 (ninS nwr nin0)
    have qu47 : Fld Z hu45 w2 "com/example/impatiens/impatiens/statespace/StateWriter" "length" "I" (.int (Int32.ofNat (own_enc 8 2 ++ own_encs ([(ut, ua + 1, uc), (ug, ub + 1, ud)] : List (Nat × Nat × Nat))).length)) := qu39.keep Ku45 (ninS nwr nin0)
    have qu48 : Exa Z hu45 w2 "com/example/impatiens/impatiens/statespace/StateWriter" := qu40.keep Ku45
    have qu49 : Exa Z hu45 b2 "[B" := qu41.keep Ku45
    have qu50 : Exa Z hu45 r2 "com/example/impatiens/impatiens/statespace/StateReader" := ERu37.keep Ku45
    have qu51 : Arv Z hu45 b2 k2 .byte (64 : Int32) ((own_enc 8 2 ++ own_encs ([(ut, ua + 1, uc), (ug, ub + 1, ud)] : List (Nat × Nat × Nat))).map Value.int) (.int (0 : Int32)) := qu43.keep Ku45 (ninS (Ne.symm ner) nin0)
    have Nu45 := Fr.app Nu37 Nu45q
    obtain ⟨ERu45, FbRu45, FpRu45, VbRu45, grRu45⟩ := rdu45
    refine own_stepW (T' := Tu45) (g' := (mkF m 298 #[.val (.int x0), .val (.int x1), .val (.long x2), .second, .val (.long x4), .second, .val (.long x6), .second, .val (.long x8), .second, .val (.int (Int32.ofNat 2)), .val (.int (Int32.ofNat ut)), .val (.int (Int32.ofNat ug)), .val (.long (Int64.ofNat ua)), .second, .val (.long (Int64.ofNat ub)), .second, .val (.long (Int64.ofNat uc)), .second, .val (.long (Int64.ofNat ud)), .second, .val (.ref w1), .val (.ref i1), .val (.ref w2), .val (.ref r2), .val (.int (1 : Int32))] [(.long (Int64.ofNat (ub + 1)))])) (fun _ k => stu45.trans k) ?_
    refine own_stepW (T' := Tu45) (g' := (mkF m 300 #[.val (.int x0), .val (.int x1), .val (.long x2), .second, .val (.long x4), .second, .val (.long x6), .second, .val (.long x8), .second, .val (.int (Int32.ofNat 2)), .val (.int (Int32.ofNat ut)), .val (.int (Int32.ofNat ug)), .val (.long (Int64.ofNat ua)), .second, .val (.long (Int64.ofNat ub)), .second, .val (.long (Int64.ofNat uc)), .second, .val (.long (Int64.ofNat ud)), .second, .val (.ref w1), .val (.ref i1), .val (.ref w2), .val (.ref r2), .val (.int (1 : Int32))] [(.long (Int64.ofNat ub)), (.long (Int64.ofNat (ub + 1)))])) (fun _ k => XS.lload Xu45.here hx rfl (hb hby at_298) rfl k) ?_
    refine own_stepW (T' := Tu45) (g' := (mkF m 301 #[.val (.int x0), .val (.int x1), .val (.long x2), .second, .val (.long x4), .second, .val (.long x6), .second, .val (.long x8), .second, .val (.int (Int32.ofNat 2)), .val (.int (Int32.ofNat ut)), .val (.int (Int32.ofNat ug)), .val (.long (Int64.ofNat ua)), .second, .val (.long (Int64.ofNat ub)), .second, .val (.long (Int64.ofNat uc)), .second, .val (.long (Int64.ofNat ud)), .second, .val (.ref w1), .val (.ref i1), .val (.ref w2), .val (.ref r2), .val (.int (1 : Int32))] [(.long (1 : Int64)), (.long (Int64.ofNat ub)), (.long (Int64.ofNat (ub + 1)))])) (fun _ k => XS.lconst Xu45.here hx rfl (hb hby at_300) k) ?_
    refine own_stepW (T' := Tu45) (g' := (mkF m 302 #[.val (.int x0), .val (.int x1), .val (.long x2), .second, .val (.long x4), .second, .val (.long x6), .second, .val (.long x8), .second, .val (.int (Int32.ofNat 2)), .val (.int (Int32.ofNat ut)), .val (.int (Int32.ofNat ug)), .val (.long (Int64.ofNat ua)), .second, .val (.long (Int64.ofNat ub)), .second, .val (.long (Int64.ofNat uc)), .second, .val (.long (Int64.ofNat ud)), .second, .val (.ref w1), .val (.ref i1), .val (.ref w2), .val (.ref r2), .val (.int (1 : Int32))] [(.long ((Int64.ofNat ub) + (1 : Int64))), (.long (Int64.ofNat (ub + 1)))])) (fun _ k => XS.ladd Xu45.here hx rfl (hb hby at_301) rfl k) ?_
    refine own_stepW (T' := Tu45) (g' := (mkF m 303 #[.val (.int x0), .val (.int x1), .val (.long x2), .second, .val (.long x4), .second, .val (.long x6), .second, .val (.long x8), .second, .val (.int (Int32.ofNat 2)), .val (.int (Int32.ofNat ut)), .val (.int (Int32.ofNat ug)), .val (.long (Int64.ofNat ua)), .second, .val (.long (Int64.ofNat ub)), .second, .val (.long (Int64.ofNat uc)), .second, .val (.long (Int64.ofNat ud)), .second, .val (.ref w1), .val (.ref i1), .val (.ref w2), .val (.ref r2), .val (.int (1 : Int32))] [(.int (lcmpW (Int64.ofNat (ub + 1)) ((Int64.ofNat ub) + (1 : Int64))))])) (fun _ k => XS.lcmp Xu45.here hx rfl (hb hby at_302) rfl k) ?_
    have hcu52 : (lcmpW (Int64.ofNat (ub + 1)) ((Int64.ofNat ub) + (1 : Int64))) = (0 : Int32) := own_cmpeq (own_succ64 ub).symm
    refine own_stepW (T' := Tu45) (g' := (mkF m 306 #[.val (.int x0), .val (.int x1), .val (.long x2), .second, .val (.long x4), .second, .val (.long x6), .second, .val (.long x8), .second, .val (.int (Int32.ofNat 2)), .val (.int (Int32.ofNat ut)), .val (.int (Int32.ofNat ug)), .val (.long (Int64.ofNat ua)), .second, .val (.long (Int64.ofNat ub)), .second, .val (.long (Int64.ofNat uc)), .second, .val (.long (Int64.ofNat ud)), .second, .val (.ref w1), .val (.ref i1), .val (.ref w2), .val (.ref r2), .val (.int (1 : Int32))] [])) (fun _ k => XS.ifNo Xu45.here hx rfl (hb hby at_303) rfl ((if0 _ _).trans (teq hcu52).2) k) ?_
    refine own_stepW (T' := Tu45) (g' := (mkF m 308 #[.val (.int x0), .val (.int x1), .val (.long x2), .second, .val (.long x4), .second, .val (.long x6), .second, .val (.long x8), .second, .val (.int (Int32.ofNat 2)), .val (.int (Int32.ofNat ut)), .val (.int (Int32.ofNat ug)), .val (.long (Int64.ofNat ua)), .second, .val (.long (Int64.ofNat ub)), .second, .val (.long (Int64.ofNat uc)), .second, .val (.long (Int64.ofNat ud)), .second, .val (.ref w1), .val (.ref i1), .val (.ref w2), .val (.ref r2), .val (.int (1 : Int32))] [(.ref r2)])) (fun _ k => XS.aload Xu45.here hx rfl (hb hby at_306) rfl rfl k) ?_
    have hat6 : (own_enc 8 2 ++ own_encs ([(ut, ua + 1, uc), (ug, ub + 1, ud)] : List (Nat × Nat × Nat))).drop ((((((0 + (own_enc 8 2).length) + (own_enc 8 ut).length) + (own_enc 8 (ua + 1)).length) + (own_enc 8 uc).length) + (own_enc 8 ug).length) + (own_enc 8 (ub + 1)).length) = own_enc 8 ud ++ ([] : List Int32) := own_drop hat5
    obtain ⟨cqu53, kqu53, qu53a, qu53b, qu53c⟩ := isOf hZv eu45 ERu45
    obtain ⟨_, _, ⟨Tu53, Lu53, ku53, nu53⟩, -, Xu53, ⟨Lcu53, hQu53, lu53, yu53, zu53⟩, stu53⟩ := Xu45.virtualBack hx (y := (⟨"com/example/impatiens/impatiens/statespace/StateReader", "readLong", "()J"⟩ : MethodName)) (z := (⟨"com/example/impatiens/impatiens/statespace/StateReader", "readLong", "()J"⟩ : MethodName)) hownv (mvT hZv (hw _ (List.mem_of_getElem? (i := 94) rfl))) (mvT hZv (hw _ (List.mem_of_getElem? (i := 58) rfl))) (notFace_of_selects (args := #[]) (mvT hZv (hw _ (List.mem_of_getElem? (i := 60) rfl)))) (mvT hZv (hw _ (List.mem_of_getElem? (i := 60) rfl))) (mvT hZv (hw _ (List.mem_of_getElem? (i := 59) rfl))) (by decide) (backOf (W := 0) (rm9 l Z a0 hw [] r2 b2 k2 (own_enc 8 2 ++ own_encs ([(ut, ua + 1, uc), (ug, ub + 1, ud)] : List (Nat × Nat × Nat))) ([] : List Int32) ((((((0 + (own_enc 8 2).length) + (own_enc 8 ut).length) + (own_enc 8 (ua + 1)).length) + (own_enc 8 uc).length) + (own_enc 8 ug).length) + (own_enc 8 (ub + 1)).length) ud hu45 n0 Zu45 hD hV2 hat6 ⟨ERu45, FbRu45, FpRu45, qu51, grr⟩) hZv (hw _ (List.mem_of_getElem? (i := 61) rfl)) (hw _ (List.mem_of_getElem? (i := 28) rfl)) (by decide) (by decide)) qu53a qu53c (g := (mkF m 308 #[.val (.int x0), .val (.int x1), .val (.long x2), .second, .val (.long x4), .second, .val (.long x6), .second, .val (.long x8), .second, .val (.int (Int32.ofNat 2)), .val (.int (Int32.ofNat ut)), .val (.int (Int32.ofNat ug)), .val (.long (Int64.ofNat ua)), .second, .val (.long (Int64.ofNat ub)), .second, .val (.long (Int64.ofNat uc)), .second, .val (.long (Int64.ofNat ud)), .second, .val (.ref w1), .val (.ref i1), .val (.ref w2), .val (.ref r2), .val (.int (1 : Int32))] [(.ref r2)])) rfl (by rw [hml]; rfl) (Steps.refl _) (argsL := []) (rest := []) (lenOf pd_1 rfl) rfl (by show 2 * 0 + _ ≤ _; exact Nat.le_of_eq rfl) (hb hby at_308) (fun _ _ => ⟨rfl, eu45, (by decide : 14 + 0 ≤ _), (by decide : 330 + 0 ≤ _)⟩)
    dsimp only [Pt.U, Pt.locs, Pt.cells, Pt.slots] at Xu53 lu53 yu53 zu53 stu53 hQu53
    subst lu53 yu53 zu53
    generalize eu53 : Tu53.heap = hu53 at hQu53
    obtain ⟨rfl, Nu53q, Ku53, rdu53⟩ := hQu53
    have Zu53 : n0 ≤ hu53.size := Nat.le_trans Zu45 Ku53.1
    have hku53 := Nat.le_trans hku45 Ku53.1
    have qu54 : Fld Z hu53 w2 "com/example/impatiens/impatiens/statespace/StateWriter" "bytes" "[B" (.ref b2) := qu46.keep Ku53 (ninS nwr nin0)
    have qu55 : Fld Z hu53 w2 "com/example/impatiens/impatiens/statespace/StateWriter" "length" "I" (.int (Int32.ofNat (own_enc 8 2 ++ own_encs ([(ut, ua + 1, uc), (ug, ub + 1, ud)] : List (Nat × Nat × Nat))).length)) := qu47.keep Ku53 (ninS nwr nin0)
    have qu56 : Exa Z hu53 w2 "com/example/impatiens/impatiens/statespace/StateWriter" := qu48.keep Ku53
    have qu57 : Exa Z hu53 b2 "[B" := qu49.keep Ku53
    have qu58 : Exa Z hu53 r2 "com/example/impatiens/impatiens/statespace/StateReader" := ERu45.keep Ku53
    have qu59 : Arv Z hu53 b2 k2 .byte (64 : Int32) ((own_enc 8 2 ++ own_encs ([(ut, ua + 1, uc), (ug, ub + 1, ud)] : List (Nat × Nat × Nat))).map Value.int) (.int (0 : Int32)) := qu51.keep Ku53 (ninS (Ne.symm ner) nin0)
    have Nu53 := Fr.app Nu45 Nu53q
    obtain ⟨ERu53, FbRu53, FpRu53, VbRu53, grRu53⟩ := rdu53
    refine own_stepW (T' := Tu53) (g' := (mkF m 311 #[.val (.int x0), .val (.int x1), .val (.long x2), .second, .val (.long x4), .second, .val (.long x6), .second, .val (.long x8), .second, .val (.int (Int32.ofNat 2)), .val (.int (Int32.ofNat ut)), .val (.int (Int32.ofNat ug)), .val (.long (Int64.ofNat ua)), .second, .val (.long (Int64.ofNat ub)), .second, .val (.long (Int64.ofNat uc)), .second, .val (.long (Int64.ofNat ud)), .second, .val (.ref w1), .val (.ref i1), .val (.ref w2), .val (.ref r2), .val (.int (1 : Int32))] [(.long (Int64.ofNat ud))])) (fun _ k => stu53.trans k) ?_
    refine own_stepW (T' := Tu53) (g' := (mkF m 313 #[.val (.int x0), .val (.int x1), .val (.long x2), .second, .val (.long x4), .second, .val (.long x6), .second, .val (.long x8), .second, .val (.int (Int32.ofNat 2)), .val (.int (Int32.ofNat ut)), .val (.int (Int32.ofNat ug)), .val (.long (Int64.ofNat ua)), .second, .val (.long (Int64.ofNat ub)), .second, .val (.long (Int64.ofNat uc)), .second, .val (.long (Int64.ofNat ud)), .second, .val (.ref w1), .val (.ref i1), .val (.ref w2), .val (.ref r2), .val (.int (1 : Int32))] [(.long (Int64.ofNat ud)), (.long (Int64.ofNat ud))])) (fun _ k => XS.lload Xu53.here hx rfl (hb hby at_311) rfl k) ?_
    refine own_stepW (T' := Tu53) (g' := (mkF m 314 #[.val (.int x0), .val (.int x1), .val (.long x2), .second, .val (.long x4), .second, .val (.long x6), .second, .val (.long x8), .second, .val (.int (Int32.ofNat 2)), .val (.int (Int32.ofNat ut)), .val (.int (Int32.ofNat ug)), .val (.long (Int64.ofNat ua)), .second, .val (.long (Int64.ofNat ub)), .second, .val (.long (Int64.ofNat uc)), .second, .val (.long (Int64.ofNat ud)), .second, .val (.ref w1), .val (.ref i1), .val (.ref w2), .val (.ref r2), .val (.int (1 : Int32))] [(.int (lcmpW (Int64.ofNat ud) (Int64.ofNat ud)))])) (fun _ k => XS.lcmp Xu53.here hx rfl (hb hby at_313) rfl k) ?_
    have hcu60 : (lcmpW (Int64.ofNat ud) (Int64.ofNat ud)) = (0 : Int32) := own_cmpeq rfl
    refine own_stepW (T' := Tu53) (g' := (mkF m 317 #[.val (.int x0), .val (.int x1), .val (.long x2), .second, .val (.long x4), .second, .val (.long x6), .second, .val (.long x8), .second, .val (.int (Int32.ofNat 2)), .val (.int (Int32.ofNat ut)), .val (.int (Int32.ofNat ug)), .val (.long (Int64.ofNat ua)), .second, .val (.long (Int64.ofNat ub)), .second, .val (.long (Int64.ofNat uc)), .second, .val (.long (Int64.ofNat ud)), .second, .val (.ref w1), .val (.ref i1), .val (.ref w2), .val (.ref r2), .val (.int (1 : Int32))] [])) (fun _ k => XS.ifNo Xu53.here hx rfl (hb hby at_314) rfl ((if0 _ _).trans (teq hcu60).2) k) ?_
    refine own_stepW (T' := Tu53) (g' := (mkF m 318 #[.val (.int x0), .val (.int x1), .val (.long x2), .second, .val (.long x4), .second, .val (.long x6), .second, .val (.long x8), .second, .val (.int (Int32.ofNat 2)), .val (.int (Int32.ofNat ut)), .val (.int (Int32.ofNat ug)), .val (.long (Int64.ofNat ua)), .second, .val (.long (Int64.ofNat ub)), .second, .val (.long (Int64.ofNat uc)), .second, .val (.long (Int64.ofNat ud)), .second, .val (.ref w1), .val (.ref i1), .val (.ref w2), .val (.ref r2), .val (.int (1 : Int32))] [(.int (1 : Int32))])) (fun _ k => XS.iconst Xu53.here hx rfl (hb hby at_317) k) ?_
    refine own_stepW (T' := Tu53) (g' := (mkF m 322 #[.val (.int x0), .val (.int x1), .val (.long x2), .second, .val (.long x4), .second, .val (.long x6), .second, .val (.long x8), .second, .val (.int (Int32.ofNat 2)), .val (.int (Int32.ofNat ut)), .val (.int (Int32.ofNat ug)), .val (.long (Int64.ofNat ua)), .second, .val (.long (Int64.ofNat ub)), .second, .val (.long (Int64.ofNat uc)), .second, .val (.long (Int64.ofNat ud)), .second, .val (.ref w1), .val (.ref i1), .val (.ref w2), .val (.ref r2), .val (.int (1 : Int32))] [(.int (1 : Int32))])) (fun _ k => XS.goto Xu53.here hx rfl (pc0 := 318) (pc' := 322) rfl (hb hby at_318) (by decide) (by decide) k) ?_
    refine own_stepW (T' := Tu53) (g' := (mkF m 324 #[.val (.int x0), .val (.int x1), .val (.long x2), .second, .val (.long x4), .second, .val (.long x6), .second, .val (.long x8), .second, .val (.int (Int32.ofNat 2)), .val (.int (Int32.ofNat ut)), .val (.int (Int32.ofNat ug)), .val (.long (Int64.ofNat ua)), .second, .val (.long (Int64.ofNat ub)), .second, .val (.long (Int64.ofNat uc)), .second, .val (.long (Int64.ofNat ud)), .second, .val (.ref w1), .val (.ref i1), .val (.ref w2), .val (.ref r2), .val (.int (1 : Int32))] [])) (fun _ k => XS.istore Xu53.here hx rfl (hb hby at_322) rfl (l' := #[.val (.int x0), .val (.int x1), .val (.long x2), .second, .val (.long x4), .second, .val (.long x6), .second, .val (.long x8), .second, .val (.int (Int32.ofNat 2)), .val (.int (Int32.ofNat ut)), .val (.int (Int32.ofNat ug)), .val (.long (Int64.ofNat ua)), .second, .val (.long (Int64.ofNat ub)), .second, .val (.long (Int64.ofNat uc)), .second, .val (.long (Int64.ofNat ud)), .second, .val (.ref w1), .val (.ref i1), .val (.ref w2), .val (.ref r2), .val (.int (1 : Int32))]) rfl k) ?_
    refine own_stepW (T' := Tu53) (g' := (mkF m 326 #[.val (.int x0), .val (.int x1), .val (.long x2), .second, .val (.long x4), .second, .val (.long x6), .second, .val (.long x8), .second, .val (.int (Int32.ofNat 2)), .val (.int (Int32.ofNat ut)), .val (.int (Int32.ofNat ug)), .val (.long (Int64.ofNat ua)), .second, .val (.long (Int64.ofNat ub)), .second, .val (.long (Int64.ofNat uc)), .second, .val (.long (Int64.ofNat ud)), .second, .val (.ref w1), .val (.ref i1), .val (.ref w2), .val (.ref r2), .val (.int (1 : Int32))] [(.int (1 : Int32))])) (fun _ k => XS.iload Xu53.here hx rfl (hb hby at_324) rfl k) ?_
    have hcu61 : ¬ ((1 : Int32) = (0 : Int32)) := by decide
    refine own_stepW (T' := Tu53) (g' := (mkF m 329 #[.val (.int x0), .val (.int x1), .val (.long x2), .second, .val (.long x4), .second, .val (.long x6), .second, .val (.long x8), .second, .val (.int (Int32.ofNat 2)), .val (.int (Int32.ofNat ut)), .val (.int (Int32.ofNat ug)), .val (.long (Int64.ofNat ua)), .second, .val (.long (Int64.ofNat ub)), .second, .val (.long (Int64.ofNat uc)), .second, .val (.long (Int64.ofNat ud)), .second, .val (.ref w1), .val (.ref i1), .val (.ref w2), .val (.ref r2), .val (.int (1 : Int32))] [])) (fun _ k => XS.ifNo Xu53.here hx rfl (hb hby at_326) rfl ((if0 _ _).trans (feq hcu61).1) k) ?_
    refine own_stepW (T' := Tu53) (g' := (mkF m 331 #[.val (.int x0), .val (.int x1), .val (.long x2), .second, .val (.long x4), .second, .val (.long x6), .second, .val (.long x8), .second, .val (.int (Int32.ofNat 2)), .val (.int (Int32.ofNat ut)), .val (.int (Int32.ofNat ug)), .val (.long (Int64.ofNat ua)), .second, .val (.long (Int64.ofNat ub)), .second, .val (.long (Int64.ofNat uc)), .second, .val (.long (Int64.ofNat ud)), .second, .val (.ref w1), .val (.ref i1), .val (.ref w2), .val (.ref r2), .val (.int (1 : Int32))] [(.ref r2)])) (fun _ k => XS.aload Xu53.here hx rfl (hb hby at_329) rfl rfl k) ?_
    obtain ⟨cqu62, kqu62, qu62a, qu62b, qu62c⟩ := isOf hZv eu53 ERu53
    obtain ⟨_, _, ⟨Tu62, Lu62, ku62, nu62⟩, -, Xu62, ⟨Lcu62, hQu62, lu62, yu62, zu62⟩, stu62⟩ := Xu53.virtualBack hx (y := (⟨"com/example/impatiens/impatiens/statespace/StateReader", "position", "()I"⟩ : MethodName)) (z := (⟨"com/example/impatiens/impatiens/statespace/StateReader", "position", "()I"⟩ : MethodName)) hownv (mvT hZv (hw _ (List.mem_of_getElem? (i := 95) rfl))) (mvT hZv (hw _ (List.mem_of_getElem? (i := 96) rfl))) (notFace_of_selects (args := #[]) (mvT hZv (hw _ (List.mem_of_getElem? (i := 98) rfl)))) (mvT hZv (hw _ (List.mem_of_getElem? (i := 98) rfl))) (mvT hZv (hw _ (List.mem_of_getElem? (i := 97) rfl))) (by decide) (backOf (W := 0) (rm14 l Z a0 hw [] r2 b2 k2 (((((((0 + (own_enc 8 2).length) + (own_enc 8 ut).length) + (own_enc 8 (ua + 1)).length) + (own_enc 8 uc).length) + (own_enc 8 ug).length) + (own_enc 8 (ub + 1)).length) + (own_enc 8 ud).length) (own_enc 8 2 ++ own_encs ([(ut, ua + 1, uc), (ug, ub + 1, ud)] : List (Nat × Nat × Nat))) hu53 n0 Zu53 ⟨ERu53, FbRu53, FpRu53, qu59, grr⟩) hZv (hw _ (List.mem_of_getElem? (i := 99) rfl)) (hw _ (List.mem_of_getElem? (i := 28) rfl)) (by decide) (by decide)) qu62a qu62c (g := (mkF m 331 #[.val (.int x0), .val (.int x1), .val (.long x2), .second, .val (.long x4), .second, .val (.long x6), .second, .val (.long x8), .second, .val (.int (Int32.ofNat 2)), .val (.int (Int32.ofNat ut)), .val (.int (Int32.ofNat ug)), .val (.long (Int64.ofNat ua)), .second, .val (.long (Int64.ofNat ub)), .second, .val (.long (Int64.ofNat uc)), .second, .val (.long (Int64.ofNat ud)), .second, .val (.ref w1), .val (.ref i1), .val (.ref w2), .val (.ref r2), .val (.int (1 : Int32))] [(.ref r2)])) rfl (by rw [hml]; rfl) (Steps.refl _) (argsL := []) (rest := []) (lenOf pd_6 rfl) rfl (by show 2 * 0 + _ ≤ _; exact Nat.le_of_eq rfl) (hb hby at_331) (fun _ _ => ⟨rfl, eu53, (by decide : 14 + 0 ≤ _), (by decide : 330 + 0 ≤ _)⟩)
    dsimp only [Pt.U, Pt.locs, Pt.cells, Pt.slots] at Xu62 lu62 yu62 zu62 stu62 hQu62
    subst lu62 yu62 zu62
    obtain ⟨rfl, Nu62q, eu62⟩ := hQu62
    have Nu62 := Fr.app Nu53 Nu62q
    refine own_stepW (T' := Tu62) (g' := (mkF m 334 #[.val (.int x0), .val (.int x1), .val (.long x2), .second, .val (.long x4), .second, .val (.long x6), .second, .val (.long x8), .second, .val (.int (Int32.ofNat 2)), .val (.int (Int32.ofNat ut)), .val (.int (Int32.ofNat ug)), .val (.long (Int64.ofNat ua)), .second, .val (.long (Int64.ofNat ub)), .second, .val (.long (Int64.ofNat uc)), .second, .val (.long (Int64.ofNat ud)), .second, .val (.ref w1), .val (.ref i1), .val (.ref w2), .val (.ref r2), .val (.int (1 : Int32))] [(.int (Int32.ofNat (((((((0 + (own_enc 8 2).length) + (own_enc 8 ut).length) + (own_enc 8 (ua + 1)).length) + (own_enc 8 uc).length) + (own_enc 8 ug).length) + (own_enc 8 (ub + 1)).length) + (own_enc 8 ud).length)))])) (fun _ k => stu62.trans k) ?_
    refine own_stepW (T' := Tu62) (g' := (mkF m 336 #[.val (.int x0), .val (.int x1), .val (.long x2), .second, .val (.long x4), .second, .val (.long x6), .second, .val (.long x8), .second, .val (.int (Int32.ofNat 2)), .val (.int (Int32.ofNat ut)), .val (.int (Int32.ofNat ug)), .val (.long (Int64.ofNat ua)), .second, .val (.long (Int64.ofNat ub)), .second, .val (.long (Int64.ofNat uc)), .second, .val (.long (Int64.ofNat ud)), .second, .val (.ref w1), .val (.ref i1), .val (.ref w2), .val (.ref r2), .val (.int (1 : Int32))] [(.ref w2), (.int (Int32.ofNat (((((((0 + (own_enc 8 2).length) + (own_enc 8 ut).length) + (own_enc 8 (ua + 1)).length) + (own_enc 8 uc).length) + (own_enc 8 ug).length) + (own_enc 8 (ub + 1)).length) + (own_enc 8 ud).length)))])) (fun _ k => XS.aload Xu62.here hx rfl (hb hby at_334) rfl rfl k) ?_
    obtain ⟨cqu63, kqu63, qu63a, qu63b, qu63c⟩ := isOf hZv eu62 qu56
    obtain ⟨_, _, ⟨Tu63, Lu63, ku63, nu63⟩, -, Xu63, ⟨Lcu63, hQu63, lu63, yu63, zu63⟩, stu63⟩ := Xu62.virtualBack hx (y := (⟨"com/example/impatiens/impatiens/statespace/StateWriter", "length", "()I"⟩ : MethodName)) (z := (⟨"com/example/impatiens/impatiens/statespace/StateWriter", "length", "()I"⟩ : MethodName)) hownv (mvT hZv (hw _ (List.mem_of_getElem? (i := 100) rfl))) (mvT hZv (hw _ (List.mem_of_getElem? (i := 101) rfl))) (notFace_of_selects (args := #[]) (mvT hZv (hw _ (List.mem_of_getElem? (i := 103) rfl)))) (mvT hZv (hw _ (List.mem_of_getElem? (i := 103) rfl))) (mvT hZv (hw _ (List.mem_of_getElem? (i := 102) rfl))) (by decide) (backOf (W := 1) (rm15 l Z a0 hw [] w2 b2 k2 (own_enc 8 2 ++ own_encs ([(ut, ua + 1, uc), (ug, ub + 1, ud)] : List (Nat × Nat × Nat))) hu53 n0 Zu53 ⟨qu56, qu54, qu55, qu57, qu59, gww, gbw⟩) hZv (hw _ (List.mem_of_getElem? (i := 104) rfl)) (hw _ (List.mem_of_getElem? (i := 8) rfl)) (by decide) (by decide)) qu63a qu63c (g := (mkF m 336 #[.val (.int x0), .val (.int x1), .val (.long x2), .second, .val (.long x4), .second, .val (.long x6), .second, .val (.long x8), .second, .val (.int (Int32.ofNat 2)), .val (.int (Int32.ofNat ut)), .val (.int (Int32.ofNat ug)), .val (.long (Int64.ofNat ua)), .second, .val (.long (Int64.ofNat ub)), .second, .val (.long (Int64.ofNat uc)), .second, .val (.long (Int64.ofNat ud)), .second, .val (.ref w1), .val (.ref i1), .val (.ref w2), .val (.ref r2), .val (.int (1 : Int32))] [(.ref w2), (.int (Int32.ofNat (((((((0 + (own_enc 8 2).length) + (own_enc 8 ut).length) + (own_enc 8 (ua + 1)).length) + (own_enc 8 uc).length) + (own_enc 8 ug).length) + (own_enc 8 (ub + 1)).length) + (own_enc 8 ud).length)))])) rfl (by rw [hml]; rfl) (Steps.refl _) (argsL := []) (rest := [(.int (Int32.ofNat (((((((0 + (own_enc 8 2).length) + (own_enc 8 ut).length) + (own_enc 8 (ua + 1)).length) + (own_enc 8 uc).length) + (own_enc 8 ug).length) + (own_enc 8 (ub + 1)).length) + (own_enc 8 ud).length)))]) (lenOf pd_6 rfl) rfl (by show 2 * 0 + _ ≤ _; exact Nat.le_of_eq rfl) (hb hby at_336) (fun _ _ => ⟨rfl, eu62, (by decide : 14 + 0 ≤ _), (by decide : 330 + 0 ≤ _)⟩)
    dsimp only [Pt.U, Pt.locs, Pt.cells, Pt.slots] at Xu63 lu63 yu63 zu63 stu63 hQu63
    subst lu63 yu63 zu63
    obtain ⟨rfl, Nu63q, eu63⟩ := hQu63
    have Nu63 := Fr.app Nu62 Nu63q
    refine own_stepW (T' := Tu63) (g' := (mkF m 339 #[.val (.int x0), .val (.int x1), .val (.long x2), .second, .val (.long x4), .second, .val (.long x6), .second, .val (.long x8), .second, .val (.int (Int32.ofNat 2)), .val (.int (Int32.ofNat ut)), .val (.int (Int32.ofNat ug)), .val (.long (Int64.ofNat ua)), .second, .val (.long (Int64.ofNat ub)), .second, .val (.long (Int64.ofNat uc)), .second, .val (.long (Int64.ofNat ud)), .second, .val (.ref w1), .val (.ref i1), .val (.ref w2), .val (.ref r2), .val (.int (1 : Int32))] [(.int (Int32.ofNat (own_enc 8 2 ++ own_encs ([(ut, ua + 1, uc), (ug, ub + 1, ud)] : List (Nat × Nat × Nat))).length)), (.int (Int32.ofNat (((((((0 + (own_enc 8 2).length) + (own_enc 8 ut).length) + (own_enc 8 (ua + 1)).length) + (own_enc 8 uc).length) + (own_enc 8 ug).length) + (own_enc 8 (ub + 1)).length) + (own_enc 8 ud).length)))])) (fun _ k => stu63.trans k) ?_
    have hcu64 : (Int32.ofNat (((((((0 + (own_enc 8 2).length) + (own_enc 8 ut).length) + (own_enc 8 (ua + 1)).length) + (own_enc 8 uc).length) + (own_enc 8 ug).length) + (own_enc 8 (ub + 1)).length) + (own_enc 8 ud).length)) = (Int32.ofNat (own_enc 8 2 ++ own_encs ([(ut, ua + 1, uc), (ug, ub + 1, ud)] : List (Nat × Nat × Nat))).length) := own_posN _ _ (by simp [own_encs, Nat.add_assoc])
    refine own_stepW (T' := Tu63) (g' := (mkF m 342 #[.val (.int x0), .val (.int x1), .val (.long x2), .second, .val (.long x4), .second, .val (.long x6), .second, .val (.long x8), .second, .val (.int (Int32.ofNat 2)), .val (.int (Int32.ofNat ut)), .val (.int (Int32.ofNat ug)), .val (.long (Int64.ofNat ua)), .second, .val (.long (Int64.ofNat ub)), .second, .val (.long (Int64.ofNat uc)), .second, .val (.long (Int64.ofNat ud)), .second, .val (.ref w1), .val (.ref i1), .val (.ref w2), .val (.ref r2), .val (.int (1 : Int32))] [])) (fun _ k => XS.icmpNo Xu63.here hx rfl (hb hby at_339) rfl (teq hcu64).2 k) ?_
    refine own_stepW (T' := Tu63) (g' := (mkF m 343 #[.val (.int x0), .val (.int x1), .val (.long x2), .second, .val (.long x4), .second, .val (.long x6), .second, .val (.long x8), .second, .val (.int (Int32.ofNat 2)), .val (.int (Int32.ofNat ut)), .val (.int (Int32.ofNat ug)), .val (.long (Int64.ofNat ua)), .second, .val (.long (Int64.ofNat ub)), .second, .val (.long (Int64.ofNat uc)), .second, .val (.long (Int64.ofNat ud)), .second, .val (.ref w1), .val (.ref i1), .val (.ref w2), .val (.ref r2), .val (.int (1 : Int32))] [(.int (1 : Int32))])) (fun _ k => XS.iconst Xu63.here hx rfl (hb hby at_342) k) ?_
    refine own_stepW (T' := Tu63) (g' := (mkF m 347 #[.val (.int x0), .val (.int x1), .val (.long x2), .second, .val (.long x4), .second, .val (.long x6), .second, .val (.long x8), .second, .val (.int (Int32.ofNat 2)), .val (.int (Int32.ofNat ut)), .val (.int (Int32.ofNat ug)), .val (.long (Int64.ofNat ua)), .second, .val (.long (Int64.ofNat ub)), .second, .val (.long (Int64.ofNat uc)), .second, .val (.long (Int64.ofNat ud)), .second, .val (.ref w1), .val (.ref i1), .val (.ref w2), .val (.ref r2), .val (.int (1 : Int32))] [(.int (1 : Int32))])) (fun _ k => XS.goto Xu63.here hx rfl (pc0 := 343) (pc' := 347) rfl (hb hby at_343) (by decide) (by decide) k) ?_
    exact own_retW Xu63 Bd hSv (by rw [eu63]; exact hku53) (v := some (.int ((1 : Int32) &&& 1))) (fun q => by rw [Bd.returns] at q; cases q) (fun fs q => retN Xu63 hx (t := .boolean) Bd.returns (by simp) (hb hby at_347) q) (show own_Law n0 _ _ _ from ⟨rfl, Nu63⟩) (by decide) (by decide)
  have B167_2 : ∀ (T0 : State) (locs : List Loc) (hh : Heap) (w1 i1 ta aa ca : Addr) (kt ka kc : ClassId), n0 ≤ hh.size → own_IS Z n0 hh i1 ta aa ca kt ka kc ([(ut, ua + 1, uc), (ug, ub + 1, ud)] : List (Nat × Nat × Nat)).length ((own_ts 0 ([(ut, ua + 1, uc), (ug, ub + 1, ud)] : List (Nat × Nat × Nat))).map Int32.ofNat) (([(ut, ua + 1, uc), (ug, ub + 1, ud)] : List (Nat × Nat × Nat)).map (fun g => Int64.ofNat g.2.1)) (([(ut, ua + 1, uc), (ug, ub + 1, ud)] : List (Nat × Nat × Nat)).map (fun g => Int64.ofNat g.2.2)) → ∀ (vm1 : Vm) (kv : Nat), s.Since vm1 kv → kv ≤ hh.size → Z.Warmed39 (s.setVm vm1).vm → (s.setVm vm1).vm.findClass "com/example/impatiens/impatiens/itpn/InstancesTickPinLaw" = some m.cls → Stand p l e room_1 (s.setVm vm1) m #[(.int x0), (.int x1), (.long x2), (.long x4), (.long x6), (.long x8)] below meth c T0 locs 9 170 → T0.heap = hh → Fr n0 locs → own_GoesW p e below s (own_Law n0) 32 1408 T0 (mkF m 167 #[.val (.int x0), .val (.int x1), .val (.long x2), .second, .val (.long x4), .second, .val (.long x6), .second, .val (.long x8), .second, .val (.int (Int32.ofNat 2)), .val (.int (Int32.ofNat ut)), .val (.int (Int32.ofNat ug)), .val (.long (Int64.ofNat ua)), .second, .val (.long (Int64.ofNat ub)), .second, .val (.long (Int64.ofNat uc)), .second, .val (.long (Int64.ofNat ud)), .second, .val (.ref w1), .val (.ref i1), .unset, .unset, .unset] []) := by
    intro T0 locs hh w1 i1 ta aa ca kt ka kc Zh hIS vm1 kv hSv hkv hZv hownv X0 e0 N0
    have oqi := hIS
    obtain ⟨Ei, Fti, Fai, Fci, Fni, Vti, Vai, Vci, ⟨ntai, ntci, naci⟩, gii, gti, gai, gci⟩ := oqi
    have ni_tai : i1 ≠ ta := Ei.neArv Vti (hw _ (List.mem_of_getElem? (i := 68) rfl))
    have ni_aai : i1 ≠ aa := Ei.neArv Vai (hw _ (List.mem_of_getElem? (i := 68) rfl))
    have ni_cai : i1 ≠ ca := Ei.neArv Vci (hw _ (List.mem_of_getElem? (i := 68) rfl))
    obtain ⟨Tu1, hu1, Xu1, eu1, Eu1, Au1, Du1, -, stu1⟩ := newO X0 hx hZv hownv (hw _ (List.mem_of_getElem? (i := 6) rfl)) (hw _ (List.mem_of_getElem? (i := 7) rfl)) (hw _ (List.mem_of_getElem? (i := 8) rfl)) e0 (g := (mkF m 167 #[.val (.int x0), .val (.int x1), .val (.long x2), .second, .val (.long x4), .second, .val (.long x6), .second, .val (.long x8), .second, .val (.int (Int32.ofNat 2)), .val (.int (Int32.ofNat ut)), .val (.int (Int32.ofNat ug)), .val (.long (Int64.ofNat ua)), .second, .val (.long (Int64.ofNat ub)), .second, .val (.long (Int64.ofNat uc)), .second, .val (.long (Int64.ofNat ud)), .second, .val (.ref w1), .val (.ref i1), .unset, .unset, .unset] [])) rfl (hb hby at_167) (by decide) (by decide)
    obtain ⟨bu1, gu1⟩ : ∃ z, z = hh.size := ⟨_, rfl⟩
    rw [← gu1] at Au1 Du1 stu1
    have neu1_aa : aa ≠ bu1 := Nat.ne_of_lt (Nat.lt_of_lt_of_le Vai.lt (Nat.le_of_eq gu1.symm))
    have neu1_ca : ca ≠ bu1 := Nat.ne_of_lt (Nat.lt_of_lt_of_le Vci.lt (Nat.le_of_eq gu1.symm))
    have neu1_i1 : i1 ≠ bu1 := Nat.ne_of_lt (Nat.lt_of_lt_of_le Fti.lt (Nat.le_of_eq gu1.symm))
    have neu1_ta : ta ≠ bu1 := Nat.ne_of_lt (Nat.lt_of_lt_of_le Vti.lt (Nat.le_of_eq gu1.symm))
    have qu2 : Fld Z hu1 i1 "com/example/impatiens/impatiens/itpn/Instances" "transitions" "[I" (.ref ta) := Fti.ext Eu1
    have qu3 : Fld Z hu1 i1 "com/example/impatiens/impatiens/itpn/Instances" "ages" "[J" (.ref aa) := Fai.ext Eu1
    have qu4 : Fld Z hu1 i1 "com/example/impatiens/impatiens/itpn/Instances" "counts" "[J" (.ref ca) := Fci.ext Eu1
    have qu5 : Fld Z hu1 i1 "com/example/impatiens/impatiens/itpn/Instances" "size" "I" (.int (Int32.ofNat ([(ut, ua + 1, uc), (ug, ub + 1, ud)] : List (Nat × Nat × Nat)).length)) := Fni.ext Eu1
    have qu6 : Exa Z hu1 i1 "com/example/impatiens/impatiens/itpn/Instances" := Ei.ext Eu1
    have qu7 : Arv Z hu1 ta kt .int (Int32.ofNat ([(ut, ua + 1, uc), (ug, ub + 1, ud)] : List (Nat × Nat × Nat)).length) (((own_ts 0 ([(ut, ua + 1, uc), (ug, ub + 1, ud)] : List (Nat × Nat × Nat))).map Int32.ofNat).map Value.int) (.int (0 : Int32)) := Vti.ext Eu1
    have qu8 : Arv Z hu1 aa ka .long (Int32.ofNat ([(ut, ua + 1, uc), (ug, ub + 1, ud)] : List (Nat × Nat × Nat)).length) ((([(ut, ua + 1, uc), (ug, ub + 1, ud)] : List (Nat × Nat × Nat)).map (fun g => Int64.ofNat g.2.1)).map Value.long) (.long (0 : Int64)) := Vai.ext Eu1
    have qu9 : Arv Z hu1 ca kc .long (Int32.ofNat ([(ut, ua + 1, uc), (ug, ub + 1, ud)] : List (Nat × Nat × Nat)).length) ((([(ut, ua + 1, uc), (ug, ub + 1, ud)] : List (Nat × Nat × Nat)).map (fun g => Int64.ofNat g.2.2)).map Value.long) (.long (0 : Int64)) := Vci.ext Eu1
    have qu10 : Fld Z hu1 bu1 "com/example/impatiens/impatiens/statespace/StateWriter" "bytes" "[B" .null := Du1 (Or.inl (hw _ (List.mem_of_getElem? (i := 17) rfl))) (ty := (.array .byte)) (by decide)
    have qu11 : Fld Z hu1 bu1 "com/example/impatiens/impatiens/statespace/StateWriter" "length" "I" (.int (0 : Int32)) := Du1 (Or.inl (hw _ (List.mem_of_getElem? (i := 24) rfl))) (ty := .int) (by decide)
    have g_bu1 : n0 ≤ bu1 := Nat.le_trans Zh (Nat.le_of_eq gu1.symm)
    have Zu1 : n0 ≤ hu1.size := Nat.le_trans Zh Eu1.1
    have hku1 := Nat.le_trans hkv Eu1.1
    refine own_stepW (T' := Tu1) (g' := (mkF m 170 #[.val (.int x0), .val (.int x1), .val (.long x2), .second, .val (.long x4), .second, .val (.long x6), .second, .val (.long x8), .second, .val (.int (Int32.ofNat 2)), .val (.int (Int32.ofNat ut)), .val (.int (Int32.ofNat ug)), .val (.long (Int64.ofNat ua)), .second, .val (.long (Int64.ofNat ub)), .second, .val (.long (Int64.ofNat uc)), .second, .val (.long (Int64.ofNat ud)), .second, .val (.ref w1), .val (.ref i1), .unset, .unset, .unset] [(.ref bu1)])) (fun _ k => stu1 _ k) ?_
    refine own_stepW (T' := Tu1) (g' := (mkF m 171 #[.val (.int x0), .val (.int x1), .val (.long x2), .second, .val (.long x4), .second, .val (.long x6), .second, .val (.long x8), .second, .val (.int (Int32.ofNat 2)), .val (.int (Int32.ofNat ut)), .val (.int (Int32.ofNat ug)), .val (.long (Int64.ofNat ua)), .second, .val (.long (Int64.ofNat ub)), .second, .val (.long (Int64.ofNat uc)), .second, .val (.long (Int64.ofNat ud)), .second, .val (.ref w1), .val (.ref i1), .unset, .unset, .unset] [(.ref bu1), (.ref bu1)])) (fun _ k => XS.dup Xu1.here hx rfl (hb hby at_170) rfl rfl k) ?_
    obtain ⟨_, _, ⟨Tu12, Lu12, ku12, nu12⟩, -, Xu12, ⟨Lcu12, hQu12, lu12, yu12, zu12⟩, stu12⟩ := Xu1.specialBack hx (y := (⟨"com/example/impatiens/impatiens/statespace/StateWriter", "<init>", "()V"⟩ : MethodName)) rfl hownv (mvT hZv (hw _ (List.mem_of_getElem? (i := 9) rfl))) (mvT hZv (hw _ (List.mem_of_getElem? (i := 10) rfl))) (mvT hZv (hw _ (List.mem_of_getElem? (i := 11) rfl))) (by decide) (backOf (W := 1) (rm2 l Z a0 hw [] bu1 .null hu1 n0 Zu1 Au1 g_bu1 qu10 qu11) hZv (hw _ (List.mem_of_getElem? (i := 11) rfl)) (hw _ (List.mem_of_getElem? (i := 8) rfl)) (by decide) (by decide)) (g := (mkF m 171 #[.val (.int x0), .val (.int x1), .val (.long x2), .second, .val (.long x4), .second, .val (.long x6), .second, .val (.long x8), .second, .val (.int (Int32.ofNat 2)), .val (.int (Int32.ofNat ut)), .val (.int (Int32.ofNat ug)), .val (.long (Int64.ofNat ua)), .second, .val (.long (Int64.ofNat ub)), .second, .val (.long (Int64.ofNat uc)), .second, .val (.long (Int64.ofNat ud)), .second, .val (.ref w1), .val (.ref i1), .unset, .unset, .unset] [(.ref bu1), (.ref bu1)])) rfl (by rw [hml]; rfl) (Steps.refl _) (a := bu1) (argsL := []) (rest := [(.ref bu1)]) (lenOf pd_7 rfl) rfl (by show 2 * 0 + _ ≤ _; exact Nat.le_of_eq rfl) (hb hby at_171) (fun _ _ => ⟨rfl, eu1, (by decide : 10 + 1 ≤ _), (by decide : 172 + 64 ≤ _)⟩)
    dsimp only [Pt.U, Pt.locs, Pt.cells, Pt.slots] at Xu12 lu12 yu12 zu12 stu12 hQu12
    subst lu12 yu12 zu12
    generalize eu12 : Tu12.heap = hu12 at hQu12
    obtain ⟨rfl, Nu12q, Ku12, bbu12, kbu12, szbu12, wru12⟩ := hQu12
    have Zu12 : n0 ≤ hu12.size := Nat.le_trans Zu1 Ku12.1
    have hku12 := Nat.le_trans hku1 Ku12.1
    have qu13 : Fld Z hu12 i1 "com/example/impatiens/impatiens/itpn/Instances" "transitions" "[I" (.ref ta) := qu2.keep Ku12 (ninS neu1_i1 nin0)
    have qu14 : Fld Z hu12 i1 "com/example/impatiens/impatiens/itpn/Instances" "ages" "[J" (.ref aa) := qu3.keep Ku12 (ninS neu1_i1 nin0)
    have qu15 : Fld Z hu12 i1 "com/example/impatiens/impatiens/itpn/Instances" "counts" "[J" (.ref ca) := qu4.keep Ku12 (ninS neu1_i1 nin0)
    have qu16 : Fld Z hu12 i1 "com/example/impatiens/impatiens/itpn/Instances" "size" "I" (.int (Int32.ofNat ([(ut, ua + 1, uc), (ug, ub + 1, ud)] : List (Nat × Nat × Nat)).length)) := qu5.keep Ku12 (ninS neu1_i1 nin0)
    have qu17 : Exa Z hu12 i1 "com/example/impatiens/impatiens/itpn/Instances" := qu6.keep Ku12
    have qu18 : Exa Z hu12 bu1 "com/example/impatiens/impatiens/statespace/StateWriter" := Au1.keep Ku12
    have qu19 : Arv Z hu12 ta kt .int (Int32.ofNat ([(ut, ua + 1, uc), (ug, ub + 1, ud)] : List (Nat × Nat × Nat)).length) (((own_ts 0 ([(ut, ua + 1, uc), (ug, ub + 1, ud)] : List (Nat × Nat × Nat))).map Int32.ofNat).map Value.int) (.int (0 : Int32)) := qu7.keep Ku12 (ninS neu1_ta nin0)
    have qu20 : Arv Z hu12 aa ka .long (Int32.ofNat ([(ut, ua + 1, uc), (ug, ub + 1, ud)] : List (Nat × Nat × Nat)).length) ((([(ut, ua + 1, uc), (ug, ub + 1, ud)] : List (Nat × Nat × Nat)).map (fun g => Int64.ofNat g.2.1)).map Value.long) (.long (0 : Int64)) := qu8.keep Ku12 (ninS neu1_aa nin0)
    have qu21 : Arv Z hu12 ca kc .long (Int32.ofNat ([(ut, ua + 1, uc), (ug, ub + 1, ud)] : List (Nat × Nat × Nat)).length) ((([(ut, ua + 1, uc), (ug, ub + 1, ud)] : List (Nat × Nat × Nat)).map (fun g => Int64.ofNat g.2.2)).map Value.long) (.long (0 : Int64)) := qu9.keep Ku12 (ninS neu1_ca nin0)
    have Nu12 := Fr.app N0 Nu12q
    have nbu12_aa : aa ≠ bbu12 := Nat.ne_of_lt (Nat.lt_of_lt_of_le qu8.lt szbu12)
    have nbu12_bu1 : bu1 ≠ bbu12 := Nat.ne_of_lt (Nat.lt_of_lt_of_le qu10.lt szbu12)
    have nbu12_ca : ca ≠ bbu12 := Nat.ne_of_lt (Nat.lt_of_lt_of_le qu9.lt szbu12)
    have nbu12_i1 : i1 ≠ bbu12 := Nat.ne_of_lt (Nat.lt_of_lt_of_le qu2.lt szbu12)
    have nbu12_ta : ta ≠ bbu12 := Nat.ne_of_lt (Nat.lt_of_lt_of_le qu7.lt szbu12)
    obtain ⟨EIu12, FbIu12, FlIu12, EbIu12, VbIu12, gwIu12, gbIu12⟩ := wru12
    refine own_stepW (T' := Tu12) (g' := (mkF m 174 #[.val (.int x0), .val (.int x1), .val (.long x2), .second, .val (.long x4), .second, .val (.long x6), .second, .val (.long x8), .second, .val (.int (Int32.ofNat 2)), .val (.int (Int32.ofNat ut)), .val (.int (Int32.ofNat ug)), .val (.long (Int64.ofNat ua)), .second, .val (.long (Int64.ofNat ub)), .second, .val (.long (Int64.ofNat uc)), .second, .val (.long (Int64.ofNat ud)), .second, .val (.ref w1), .val (.ref i1), .unset, .unset, .unset] [(.ref bu1)])) (fun _ k => stu12.trans k) ?_
    refine own_stepW (T' := Tu12) (g' := (mkF m 176 #[.val (.int x0), .val (.int x1), .val (.long x2), .second, .val (.long x4), .second, .val (.long x6), .second, .val (.long x8), .second, .val (.int (Int32.ofNat 2)), .val (.int (Int32.ofNat ut)), .val (.int (Int32.ofNat ug)), .val (.long (Int64.ofNat ua)), .second, .val (.long (Int64.ofNat ub)), .second, .val (.long (Int64.ofNat uc)), .second, .val (.long (Int64.ofNat ud)), .second, .val (.ref w1), .val (.ref i1), .val (.ref bu1), .unset, .unset] [])) (fun _ k => XS.astore Xu12.here hx rfl (hb hby at_174) rfl rfl (l' := #[.val (.int x0), .val (.int x1), .val (.long x2), .second, .val (.long x4), .second, .val (.long x6), .second, .val (.long x8), .second, .val (.int (Int32.ofNat 2)), .val (.int (Int32.ofNat ut)), .val (.int (Int32.ofNat ug)), .val (.long (Int64.ofNat ua)), .second, .val (.long (Int64.ofNat ub)), .second, .val (.long (Int64.ofNat uc)), .second, .val (.long (Int64.ofNat ud)), .second, .val (.ref w1), .val (.ref i1), .val (.ref bu1), .unset, .unset]) rfl k) ?_
    refine own_stepW (T' := Tu12) (g' := (mkF m 178 #[.val (.int x0), .val (.int x1), .val (.long x2), .second, .val (.long x4), .second, .val (.long x6), .second, .val (.long x8), .second, .val (.int (Int32.ofNat 2)), .val (.int (Int32.ofNat ut)), .val (.int (Int32.ofNat ug)), .val (.long (Int64.ofNat ua)), .second, .val (.long (Int64.ofNat ub)), .second, .val (.long (Int64.ofNat uc)), .second, .val (.long (Int64.ofNat ud)), .second, .val (.ref w1), .val (.ref i1), .val (.ref bu1), .unset, .unset] [(.ref i1)])) (fun _ k => XS.aload Xu12.here hx rfl (hb hby at_176) rfl rfl k) ?_
    refine own_stepW (T' := Tu12) (g' := (mkF m 180 #[.val (.int x0), .val (.int x1), .val (.long x2), .second, .val (.long x4), .second, .val (.long x6), .second, .val (.long x8), .second, .val (.int (Int32.ofNat 2)), .val (.int (Int32.ofNat ut)), .val (.int (Int32.ofNat ug)), .val (.long (Int64.ofNat ua)), .second, .val (.long (Int64.ofNat ub)), .second, .val (.long (Int64.ofNat uc)), .second, .val (.long (Int64.ofNat ud)), .second, .val (.ref w1), .val (.ref i1), .val (.ref bu1), .unset, .unset] [(.ref bu1), (.ref i1)])) (fun _ k => XS.aload Xu12.here hx rfl (hb hby at_178) rfl rfl k) ?_
    obtain ⟨cqu22, kqu22, qu22a, qu22b, qu22c⟩ := isOf hZv eu12 qu17
    obtain ⟨_, _, ⟨Tu22, Lu22, ku22, nu22⟩, -, Xu22, ⟨Lcu22, hQu22, lu22, yu22, zu22⟩, stu22⟩ := Xu12.virtualBack hx (y := (⟨"com/example/impatiens/impatiens/itpn/Instances", "write", "(Lcom/example/impatiens/impatiens/statespace/StateWriter;)V"⟩ : MethodName)) (z := (⟨"com/example/impatiens/impatiens/itpn/Instances", "write", "(Lcom/example/impatiens/impatiens/statespace/StateWriter;)V"⟩ : MethodName)) hownv (mvT hZv (hw _ (List.mem_of_getElem? (i := 88) rfl))) (mvT hZv (hw _ (List.mem_of_getElem? (i := 89) rfl))) (notFace_of_selects (args := #[]) (mvT hZv (hw _ (List.mem_of_getElem? (i := 91) rfl)))) (mvT hZv (hw _ (List.mem_of_getElem? (i := 91) rfl))) (mvT hZv (hw _ (List.mem_of_getElem? (i := 90) rfl))) (by decide) (backOf (W := 0) (rm13 l Z a0 hw [] i1 bu1 bbu12 kbu12 ta aa ca kt ka kc ([(ut, ua + 1, uc), (ug, ub + 1, ud)] : List (Nat × Nat × Nat)) hu12 n0 Zu12 (by simp) hG2 ⟨EIu12, FbIu12, FlIu12, EbIu12, VbIu12, gwIu12, gbIu12⟩ ⟨qu17, qu13, qu14, qu15, qu16, qu19, qu20, qu21, ⟨ntai, ntci, naci⟩, gii, gti, gai, gci⟩ (Ne.symm nbu12_ta) (Ne.symm nbu12_aa) (Ne.symm nbu12_ca)) hZv (hw _ (List.mem_of_getElem? (i := 92) rfl)) (hw _ (List.mem_of_getElem? (i := 55) rfl)) (by decide) (by decide)) qu22a qu22c (g := (mkF m 180 #[.val (.int x0), .val (.int x1), .val (.long x2), .second, .val (.long x4), .second, .val (.long x6), .second, .val (.long x8), .second, .val (.int (Int32.ofNat 2)), .val (.int (Int32.ofNat ut)), .val (.int (Int32.ofNat ug)), .val (.long (Int64.ofNat ua)), .second, .val (.long (Int64.ofNat ub)), .second, .val (.long (Int64.ofNat uc)), .second, .val (.long (Int64.ofNat ud)), .second, .val (.ref w1), .val (.ref i1), .val (.ref bu1), .unset, .unset] [(.ref bu1), (.ref i1)])) rfl (by rw [hml]; rfl) (Steps.refl _) (argsL := [(.ref bu1)]) (rest := []) (lenOf pd_8 rfl) rfl (by show 2 * 0 + _ ≤ _; exact Nat.le_of_eq rfl) (hb hby at_180) (fun _ _ => ⟨rfl, eu12, (by decide : 11 + 0 ≤ _), (by decide : 236 + 0 ≤ _)⟩)
    dsimp only [Pt.U, Pt.locs, Pt.cells, Pt.slots] at Xu22 lu22 yu22 zu22 stu22 hQu22
    subst lu22 yu22 zu22
    generalize eu22 : Tu22.heap = hu22 at hQu22
    obtain ⟨rfl, Nu22q, Ku22, wru22⟩ := hQu22
    have Zu22 : n0 ≤ hu22.size := Nat.le_trans Zu12 Ku22.1
    have hku22 := Nat.le_trans hku12 Ku22.1
    have qu23 : Fld Z hu22 i1 "com/example/impatiens/impatiens/itpn/Instances" "transitions" "[I" (.ref ta) := qu13.keep Ku22 (ninS neu1_i1 (ninS nbu12_i1 nin0))
    have qu24 : Fld Z hu22 i1 "com/example/impatiens/impatiens/itpn/Instances" "ages" "[J" (.ref aa) := qu14.keep Ku22 (ninS neu1_i1 (ninS nbu12_i1 nin0))
    have qu25 : Fld Z hu22 i1 "com/example/impatiens/impatiens/itpn/Instances" "counts" "[J" (.ref ca) := qu15.keep Ku22 (ninS neu1_i1 (ninS nbu12_i1 nin0))
    have qu26 : Fld Z hu22 i1 "com/example/impatiens/impatiens/itpn/Instances" "size" "I" (.int (Int32.ofNat ([(ut, ua + 1, uc), (ug, ub + 1, ud)] : List (Nat × Nat × Nat)).length)) := qu16.keep Ku22 (ninS neu1_i1 (ninS nbu12_i1 nin0))
    have qu27 : Exa Z hu22 i1 "com/example/impatiens/impatiens/itpn/Instances" := qu17.keep Ku22
    have qu28 : Exa Z hu22 bu1 "com/example/impatiens/impatiens/statespace/StateWriter" := EIu12.keep Ku22
    have qu29 : Exa Z hu22 bbu12 "[B" := EbIu12.keep Ku22
    have qu30 : Arv Z hu22 ta kt .int (Int32.ofNat ([(ut, ua + 1, uc), (ug, ub + 1, ud)] : List (Nat × Nat × Nat)).length) (((own_ts 0 ([(ut, ua + 1, uc), (ug, ub + 1, ud)] : List (Nat × Nat × Nat))).map Int32.ofNat).map Value.int) (.int (0 : Int32)) := qu19.keep Ku22 (ninS neu1_ta (ninS nbu12_ta nin0))
    have qu31 : Arv Z hu22 aa ka .long (Int32.ofNat ([(ut, ua + 1, uc), (ug, ub + 1, ud)] : List (Nat × Nat × Nat)).length) ((([(ut, ua + 1, uc), (ug, ub + 1, ud)] : List (Nat × Nat × Nat)).map (fun g => Int64.ofNat g.2.1)).map Value.long) (.long (0 : Int64)) := qu20.keep Ku22 (ninS neu1_aa (ninS nbu12_aa nin0))
    have qu32 : Arv Z hu22 ca kc .long (Int32.ofNat ([(ut, ua + 1, uc), (ug, ub + 1, ud)] : List (Nat × Nat × Nat)).length) ((([(ut, ua + 1, uc), (ug, ub + 1, ud)] : List (Nat × Nat × Nat)).map (fun g => Int64.ofNat g.2.2)).map Value.long) (.long (0 : Int64)) := qu21.keep Ku22 (ninS neu1_ca (ninS nbu12_ca nin0))
    have Nu22 := Fr.app Nu12 Nu22q
    obtain ⟨EBu22, FbBu22, FlBu22, EbBu22, VbBu22, gwBu22, gbBu22⟩ := wru22
    have nwbu22 : bu1 ≠ bbu12 := EBu22.neArv VbBu22 (hw _ (List.mem_of_getElem? (i := 7) rfl))
    refine own_stepW (T' := Tu22) (g' := (mkF m 183 #[.val (.int x0), .val (.int x1), .val (.long x2), .second, .val (.long x4), .second, .val (.long x6), .second, .val (.long x8), .second, .val (.int (Int32.ofNat 2)), .val (.int (Int32.ofNat ut)), .val (.int (Int32.ofNat ug)), .val (.long (Int64.ofNat ua)), .second, .val (.long (Int64.ofNat ub)), .second, .val (.long (Int64.ofNat uc)), .second, .val (.long (Int64.ofNat ud)), .second, .val (.ref w1), .val (.ref i1), .val (.ref bu1), .unset, .unset] [])) (fun _ k => stu22.trans k) ?_
    obtain ⟨Tu33, hu33, Xu33, eu33, Eu33, Au33, Du33, -, stu33⟩ := newO Xu22 hx hZv hownv (hw _ (List.mem_of_getElem? (i := 26) rfl)) (hw _ (List.mem_of_getElem? (i := 27) rfl)) (hw _ (List.mem_of_getElem? (i := 28) rfl)) eu22 (g := (mkF m 183 #[.val (.int x0), .val (.int x1), .val (.long x2), .second, .val (.long x4), .second, .val (.long x6), .second, .val (.long x8), .second, .val (.int (Int32.ofNat 2)), .val (.int (Int32.ofNat ut)), .val (.int (Int32.ofNat ug)), .val (.long (Int64.ofNat ua)), .second, .val (.long (Int64.ofNat ub)), .second, .val (.long (Int64.ofNat uc)), .second, .val (.long (Int64.ofNat ud)), .second, .val (.ref w1), .val (.ref i1), .val (.ref bu1), .unset, .unset] [])) rfl (hb hby at_183) (by decide) (by decide)
    obtain ⟨bu33, gu33⟩ : ∃ z, z = hu22.size := ⟨_, rfl⟩
    rw [← gu33] at Au33 Du33 stu33
    have neu33_bbu12 : bbu12 ≠ bu33 := Nat.ne_of_lt (Nat.lt_of_lt_of_le EbBu22.lt (Nat.le_of_eq gu33.symm))
    have neu33_bu1 : bu1 ≠ bu33 := Nat.ne_of_lt (Nat.lt_of_lt_of_le FbBu22.lt (Nat.le_of_eq gu33.symm))
    have qu34 : Fld Z hu33 bu1 "com/example/impatiens/impatiens/statespace/StateWriter" "bytes" "[B" (.ref bbu12) := FbBu22.ext Eu33
    have qu35 : Fld Z hu33 bu1 "com/example/impatiens/impatiens/statespace/StateWriter" "length" "I" (.int (Int32.ofNat (own_enc 8 2 ++ own_encs ([(ut, ua + 1, uc), (ug, ub + 1, ud)] : List (Nat × Nat × Nat))).length)) := FlBu22.ext Eu33
    have qu36 : Exa Z hu33 bu1 "com/example/impatiens/impatiens/statespace/StateWriter" := EBu22.ext Eu33
    have qu37 : Exa Z hu33 bbu12 "[B" := EbBu22.ext Eu33
    have qu38 : Arv Z hu33 bbu12 kbu12 .byte (64 : Int32) ((own_enc 8 2 ++ own_encs ([(ut, ua + 1, uc), (ug, ub + 1, ud)] : List (Nat × Nat × Nat))).map Value.int) (.int (0 : Int32)) := VbBu22.ext Eu33
    have qu39 : Fld Z hu33 bu33 "com/example/impatiens/impatiens/statespace/StateReader" "bytes" "[B" .null := Du33 (Or.inr (hw _ (List.mem_of_getElem? (i := 52) rfl))) (ty := (.array .byte)) (by decide)
    have qu40 : Fld Z hu33 bu33 "com/example/impatiens/impatiens/statespace/StateReader" "position" "I" (.int (0 : Int32)) := Du33 (Or.inl (hw _ (List.mem_of_getElem? (i := 63) rfl))) (ty := .int) (by decide)
    have g_bu33 : n0 ≤ bu33 := Nat.le_trans Zu22 (Nat.le_of_eq gu33.symm)
    have Zu33 : n0 ≤ hu33.size := Nat.le_trans Zu22 Eu33.1
    have hku33 := Nat.le_trans hku22 Eu33.1
    refine own_stepW (T' := Tu33) (g' := (mkF m 186 #[.val (.int x0), .val (.int x1), .val (.long x2), .second, .val (.long x4), .second, .val (.long x6), .second, .val (.long x8), .second, .val (.int (Int32.ofNat 2)), .val (.int (Int32.ofNat ut)), .val (.int (Int32.ofNat ug)), .val (.long (Int64.ofNat ua)), .second, .val (.long (Int64.ofNat ub)), .second, .val (.long (Int64.ofNat uc)), .second, .val (.long (Int64.ofNat ud)), .second, .val (.ref w1), .val (.ref i1), .val (.ref bu1), .unset, .unset] [(.ref bu33)])) (fun _ k => stu33 _ k) ?_
    refine own_stepW (T' := Tu33) (g' := (mkF m 187 #[.val (.int x0), .val (.int x1), .val (.long x2), .second, .val (.long x4), .second, .val (.long x6), .second, .val (.long x8), .second, .val (.int (Int32.ofNat 2)), .val (.int (Int32.ofNat ut)), .val (.int (Int32.ofNat ug)), .val (.long (Int64.ofNat ua)), .second, .val (.long (Int64.ofNat ub)), .second, .val (.long (Int64.ofNat uc)), .second, .val (.long (Int64.ofNat ud)), .second, .val (.ref w1), .val (.ref i1), .val (.ref bu1), .unset, .unset] [(.ref bu33), (.ref bu33)])) (fun _ k => XS.dup Xu33.here hx rfl (hb hby at_186) rfl rfl k) ?_
    refine own_stepW (T' := Tu33) (g' := (mkF m 189 #[.val (.int x0), .val (.int x1), .val (.long x2), .second, .val (.long x4), .second, .val (.long x6), .second, .val (.long x8), .second, .val (.int (Int32.ofNat 2)), .val (.int (Int32.ofNat ut)), .val (.int (Int32.ofNat ug)), .val (.long (Int64.ofNat ua)), .second, .val (.long (Int64.ofNat ub)), .second, .val (.long (Int64.ofNat uc)), .second, .val (.long (Int64.ofNat ud)), .second, .val (.ref w1), .val (.ref i1), .val (.ref bu1), .unset, .unset] [(.ref bu1), (.ref bu33), (.ref bu33)])) (fun _ k => XS.aload Xu33.here hx rfl (hb hby at_187) rfl rfl k) ?_
    obtain ⟨cqu41, kqu41, qu41a, qu41b, qu41c⟩ := isOf hZv eu33 qu36
    obtain ⟨_, _, ⟨Tu41, Lu41, ku41, nu41⟩, -, Xu41, ⟨Lcu41, hQu41, lu41, yu41, zu41⟩, stu41⟩ := Xu33.virtualBack hx (y := (⟨"com/example/impatiens/impatiens/statespace/StateWriter", "buffer", "()[B"⟩ : MethodName)) (z := (⟨"com/example/impatiens/impatiens/statespace/StateWriter", "buffer", "()[B"⟩ : MethodName)) hownv (mvT hZv (hw _ (List.mem_of_getElem? (i := 29) rfl))) (mvT hZv (hw _ (List.mem_of_getElem? (i := 30) rfl))) (notFace_of_selects (args := #[]) (mvT hZv (hw _ (List.mem_of_getElem? (i := 32) rfl)))) (mvT hZv (hw _ (List.mem_of_getElem? (i := 32) rfl))) (mvT hZv (hw _ (List.mem_of_getElem? (i := 31) rfl))) (by decide) (backOf (W := 2) (rm5 l Z a0 hw [] bu1 bbu12 kbu12 (own_enc 8 2 ++ own_encs ([(ut, ua + 1, uc), (ug, ub + 1, ud)] : List (Nat × Nat × Nat))) hu33 n0 Zu33 ⟨qu36, qu34, qu35, qu37, qu38, gwBu22, gbBu22⟩) hZv (hw _ (List.mem_of_getElem? (i := 33) rfl)) (hw _ (List.mem_of_getElem? (i := 8) rfl)) (by decide) (by decide)) qu41a qu41c (g := (mkF m 189 #[.val (.int x0), .val (.int x1), .val (.long x2), .second, .val (.long x4), .second, .val (.long x6), .second, .val (.long x8), .second, .val (.int (Int32.ofNat 2)), .val (.int (Int32.ofNat ut)), .val (.int (Int32.ofNat ug)), .val (.long (Int64.ofNat ua)), .second, .val (.long (Int64.ofNat ub)), .second, .val (.long (Int64.ofNat uc)), .second, .val (.long (Int64.ofNat ud)), .second, .val (.ref w1), .val (.ref i1), .val (.ref bu1), .unset, .unset] [(.ref bu1), (.ref bu33), (.ref bu33)])) rfl (by rw [hml]; rfl) (Steps.refl _) (argsL := []) (rest := [(.ref bu33), (.ref bu33)]) (lenOf pd_9 rfl) rfl (by show 2 * 0 + _ ≤ _; exact Nat.le_of_eq rfl) (hb hby at_189) (fun _ _ => ⟨rfl, eu33, (by decide : 12 + 0 ≤ _), (by decide : 238 + 0 ≤ _)⟩)
    dsimp only [Pt.U, Pt.locs, Pt.cells, Pt.slots] at Xu41 lu41 yu41 zu41 stu41 hQu41
    subst lu41 yu41 zu41
    obtain ⟨rfl, Nu41q, eu41⟩ := hQu41
    have Nu41 := Fr.app Nu22 Nu41q
    refine own_stepW (T' := Tu41) (g' := (mkF m 192 #[.val (.int x0), .val (.int x1), .val (.long x2), .second, .val (.long x4), .second, .val (.long x6), .second, .val (.long x8), .second, .val (.int (Int32.ofNat 2)), .val (.int (Int32.ofNat ut)), .val (.int (Int32.ofNat ug)), .val (.long (Int64.ofNat ua)), .second, .val (.long (Int64.ofNat ub)), .second, .val (.long (Int64.ofNat uc)), .second, .val (.long (Int64.ofNat ud)), .second, .val (.ref w1), .val (.ref i1), .val (.ref bu1), .unset, .unset] [(.ref bbu12), (.ref bu33), (.ref bu33)])) (fun _ k => stu41.trans k) ?_
    obtain ⟨_, _, ⟨Tu42, Lu42, ku42, nu42⟩, -, Xu42, hSu42, hgru42, ⟨Lcu42, hQu42, lu42, yu42, zu42⟩, stu42⟩ := Xu41.specialBackS hx (y := (⟨"com/example/impatiens/impatiens/statespace/StateReader", "<init>", "([B)V"⟩ : MethodName)) rfl hownv (mvT hZv (hw _ (List.mem_of_getElem? (i := 34) rfl))) (mvT hZv (hw _ (List.mem_of_getElem? (i := 35) rfl))) (mvT hZv (hw _ (List.mem_of_getElem? (i := 36) rfl))) (by decide) (backOfS (W := 1) (rm6 l Z a0 hw [] bu33 bbu12 kbu12 (own_enc 8 2 ++ own_encs ([(ut, ua + 1, uc), (ug, ub + 1, ud)] : List (Nat × Nat × Nat))) .null hu33 n0 Zu33 Au33 g_bu33 qu39 qu40 qu37 qu38) hZv (hw _ (List.mem_of_getElem? (i := 36) rfl)) (hw _ (List.mem_of_getElem? (i := 28) rfl)) (by decide) (by decide)) (g := (mkF m 192 #[.val (.int x0), .val (.int x1), .val (.long x2), .second, .val (.long x4), .second, .val (.long x6), .second, .val (.long x8), .second, .val (.int (Int32.ofNat 2)), .val (.int (Int32.ofNat ut)), .val (.int (Int32.ofNat ug)), .val (.long (Int64.ofNat ua)), .second, .val (.long (Int64.ofNat ub)), .second, .val (.long (Int64.ofNat uc)), .second, .val (.long (Int64.ofNat ud)), .second, .val (.ref w1), .val (.ref i1), .val (.ref bu1), .unset, .unset] [(.ref bbu12), (.ref bu33), (.ref bu33)])) rfl (by rw [hml]; rfl) (Steps.refl _) (a := bu33) (argsL := [(.ref bbu12)]) (rest := [(.ref bu33)]) (lenOf pd_10 rfl) rfl (by show 2 * 0 + _ ≤ _; exact Nat.le_of_eq rfl) (hb hby at_192) (fun _ _ => ⟨rfl, eu41, (by decide : 12 + 2 ≤ _), (by decide : 238 + 92 ≤ _)⟩)
    dsimp only [Pt.U, Pt.locs, Pt.cells, Pt.slots] at Xu42 lu42 yu42 zu42 stu42 hQu42 hSu42 hgru42
    subst lu42 yu42 zu42
    generalize eu42 : Tu42.heap = hu42 at hQu42 hSu42 hgru42
    obtain ⟨rfl, Nu42q, Ku42, rdu42⟩ := hQu42
    have Zu42 : n0 ≤ hu42.size := Nat.le_trans Zu33 Ku42.1
    obtain ⟨Xu42r, hSu42r, hZu42, hownu42⟩ := rebS hSv (Nat.le_trans hku33 (Nat.le_of_eq (congrArg Array.size eu41.symm))) Xu42 hSu42 hgru42 hZv hownv
    have qu43 : Fld Z hu42 bu1 "com/example/impatiens/impatiens/statespace/StateWriter" "bytes" "[B" (.ref bbu12) := qu34.keep Ku42 (ninS neu33_bu1 nin0)
    have qu44 : Fld Z hu42 bu1 "com/example/impatiens/impatiens/statespace/StateWriter" "length" "I" (.int (Int32.ofNat (own_enc 8 2 ++ own_encs ([(ut, ua + 1, uc), (ug, ub + 1, ud)] : List (Nat × Nat × Nat))).length)) := qu35.keep Ku42 (ninS neu33_bu1 nin0)
    have qu45 : Exa Z hu42 bu1 "com/example/impatiens/impatiens/statespace/StateWriter" := qu36.keep Ku42
    have qu46 : Exa Z hu42 bbu12 "[B" := qu37.keep Ku42
    have qu47 : Exa Z hu42 bu33 "com/example/impatiens/impatiens/statespace/StateReader" := Au33.keep Ku42
    have qu48 : Arv Z hu42 bbu12 kbu12 .byte (64 : Int32) ((own_enc 8 2 ++ own_encs ([(ut, ua + 1, uc), (ug, ub + 1, ud)] : List (Nat × Nat × Nat))).map Value.int) (.int (0 : Int32)) := qu38.keep Ku42 (ninS neu33_bbu12 nin0)
    have Nu42 := Fr.app Nu41 Nu42q
    obtain ⟨EDu42, FbDu42, FpDu42, VbDu42, grDu42⟩ := rdu42
    refine own_stepW (T' := Tu42) (g' := (mkF m 195 #[.val (.int x0), .val (.int x1), .val (.long x2), .second, .val (.long x4), .second, .val (.long x6), .second, .val (.long x8), .second, .val (.int (Int32.ofNat 2)), .val (.int (Int32.ofNat ut)), .val (.int (Int32.ofNat ug)), .val (.long (Int64.ofNat ua)), .second, .val (.long (Int64.ofNat ub)), .second, .val (.long (Int64.ofNat uc)), .second, .val (.long (Int64.ofNat ud)), .second, .val (.ref w1), .val (.ref i1), .val (.ref bu1), .unset, .unset] [(.ref bu33)])) (fun _ k => stu42.trans k) ?_
    refine own_stepW (T' := Tu42) (g' := (mkF m 197 #[.val (.int x0), .val (.int x1), .val (.long x2), .second, .val (.long x4), .second, .val (.long x6), .second, .val (.long x8), .second, .val (.int (Int32.ofNat 2)), .val (.int (Int32.ofNat ut)), .val (.int (Int32.ofNat ug)), .val (.long (Int64.ofNat ua)), .second, .val (.long (Int64.ofNat ub)), .second, .val (.long (Int64.ofNat uc)), .second, .val (.long (Int64.ofNat ud)), .second, .val (.ref w1), .val (.ref i1), .val (.ref bu1), .val (.ref bu33), .unset] [])) (fun _ k => XS.astore Xu42r.here hx rfl (hb hby at_195) rfl rfl (l' := #[.val (.int x0), .val (.int x1), .val (.long x2), .second, .val (.long x4), .second, .val (.long x6), .second, .val (.long x8), .second, .val (.int (Int32.ofNat 2)), .val (.int (Int32.ofNat ut)), .val (.int (Int32.ofNat ug)), .val (.long (Int64.ofNat ua)), .second, .val (.long (Int64.ofNat ub)), .second, .val (.long (Int64.ofNat uc)), .second, .val (.long (Int64.ofNat ud)), .second, .val (.ref w1), .val (.ref i1), .val (.ref bu1), .val (.ref bu33), .unset]) rfl k) ?_
    exact B197_2 Tu42 _ hu42 w1 i1 bu1 bbu12 bu33 kbu12 Zu42 ⟨qu45, qu43, qu44, qu46, qu48, gwBu22, gbBu22⟩ ⟨EDu42, FbDu42, FpDu42, qu48, grDu42⟩ _ _ hSu42r (Nat.le_refl hu42.size) hZu42 hownu42 Xu42r eu42 Nu42
  have B145_2 : ∀ (T0 : State) (locs : List Loc) (hh : Heap) (w1 b1 : Addr) (k1 : ClassId), n0 ≤ hh.size → own_WR Z n0 hh w1 b1 k1 (own_enc 8 2 ++ own_encs ([(ut, ua, uc), (ug, ub, ud)] : List (Nat × Nat × Nat))) → Stand p l e room_1 (s.setVm s.vm) m #[(.int x0), (.int x1), (.long x2), (.long x4), (.long x6), (.long x8)] below meth c T0 locs 2 66 → T0.heap = hh → Fr n0 locs → own_GoesW p e below s (own_Law n0) 32 1408 T0 (mkF m 145 #[.val (.int x0), .val (.int x1), .val (.long x2), .second, .val (.long x4), .second, .val (.long x6), .second, .val (.long x8), .second, .val (.int (Int32.ofNat 2)), .val (.int (Int32.ofNat ut)), .val (.int (Int32.ofNat ug)), .val (.long (Int64.ofNat ua)), .second, .val (.long (Int64.ofNat ub)), .second, .val (.long (Int64.ofNat uc)), .second, .val (.long (Int64.ofNat ud)), .second, .val (.ref w1), .unset, .unset, .unset, .unset] []) := by
    intro T0 locs hh w1 b1 k1 Zh hWR X0 e0 N0
    have oqw := hWR
    obtain ⟨Ew, Fbw, Flw, Ebw, Vbw, gww, gbw⟩ := oqw
    have new : w1 ≠ b1 := Ew.neArv Vbw (hw _ (List.mem_of_getElem? (i := 7) rfl))
    obtain ⟨Tu1, hu1, Xu1, eu1, Eu1, Au1, Du1, -, stu1⟩ := newO X0 hx hZs howns (hw _ (List.mem_of_getElem? (i := 26) rfl)) (hw _ (List.mem_of_getElem? (i := 27) rfl)) (hw _ (List.mem_of_getElem? (i := 28) rfl)) e0 (g := (mkF m 145 #[.val (.int x0), .val (.int x1), .val (.long x2), .second, .val (.long x4), .second, .val (.long x6), .second, .val (.long x8), .second, .val (.int (Int32.ofNat 2)), .val (.int (Int32.ofNat ut)), .val (.int (Int32.ofNat ug)), .val (.long (Int64.ofNat ua)), .second, .val (.long (Int64.ofNat ub)), .second, .val (.long (Int64.ofNat uc)), .second, .val (.long (Int64.ofNat ud)), .second, .val (.ref w1), .unset, .unset, .unset, .unset] [])) rfl (hb hby at_145) (by decide) (by decide)
    obtain ⟨bu1, gu1⟩ : ∃ z, z = hh.size := ⟨_, rfl⟩
    rw [← gu1] at Au1 Du1 stu1
    have neu1_b1 : b1 ≠ bu1 := Nat.ne_of_lt (Nat.lt_of_lt_of_le Ebw.lt (Nat.le_of_eq gu1.symm))
    have neu1_w1 : w1 ≠ bu1 := Nat.ne_of_lt (Nat.lt_of_lt_of_le Fbw.lt (Nat.le_of_eq gu1.symm))
    have qu2 : Fld Z hu1 w1 "com/example/impatiens/impatiens/statespace/StateWriter" "bytes" "[B" (.ref b1) := Fbw.ext Eu1
    have qu3 : Fld Z hu1 w1 "com/example/impatiens/impatiens/statespace/StateWriter" "length" "I" (.int (Int32.ofNat (own_enc 8 2 ++ own_encs ([(ut, ua, uc), (ug, ub, ud)] : List (Nat × Nat × Nat))).length)) := Flw.ext Eu1
    have qu4 : Exa Z hu1 w1 "com/example/impatiens/impatiens/statespace/StateWriter" := Ew.ext Eu1
    have qu5 : Exa Z hu1 b1 "[B" := Ebw.ext Eu1
    have qu6 : Arv Z hu1 b1 k1 .byte (64 : Int32) ((own_enc 8 2 ++ own_encs ([(ut, ua, uc), (ug, ub, ud)] : List (Nat × Nat × Nat))).map Value.int) (.int (0 : Int32)) := Vbw.ext Eu1
    have qu7 : Fld Z hu1 bu1 "com/example/impatiens/impatiens/statespace/StateReader" "bytes" "[B" .null := Du1 (Or.inr (hw _ (List.mem_of_getElem? (i := 52) rfl))) (ty := (.array .byte)) (by decide)
    have qu8 : Fld Z hu1 bu1 "com/example/impatiens/impatiens/statespace/StateReader" "position" "I" (.int (0 : Int32)) := Du1 (Or.inl (hw _ (List.mem_of_getElem? (i := 63) rfl))) (ty := .int) (by decide)
    have g_bu1 : n0 ≤ bu1 := Nat.le_trans Zh (Nat.le_of_eq gu1.symm)
    have Zu1 : n0 ≤ hu1.size := Nat.le_trans Zh Eu1.1
    have hku1 := Nat.le_trans (Nat.zero_le _) Eu1.1
    refine own_stepW (T' := Tu1) (g' := (mkF m 148 #[.val (.int x0), .val (.int x1), .val (.long x2), .second, .val (.long x4), .second, .val (.long x6), .second, .val (.long x8), .second, .val (.int (Int32.ofNat 2)), .val (.int (Int32.ofNat ut)), .val (.int (Int32.ofNat ug)), .val (.long (Int64.ofNat ua)), .second, .val (.long (Int64.ofNat ub)), .second, .val (.long (Int64.ofNat uc)), .second, .val (.long (Int64.ofNat ud)), .second, .val (.ref w1), .unset, .unset, .unset, .unset] [(.ref bu1)])) (fun _ k => stu1 _ k) ?_
    refine own_stepW (T' := Tu1) (g' := (mkF m 149 #[.val (.int x0), .val (.int x1), .val (.long x2), .second, .val (.long x4), .second, .val (.long x6), .second, .val (.long x8), .second, .val (.int (Int32.ofNat 2)), .val (.int (Int32.ofNat ut)), .val (.int (Int32.ofNat ug)), .val (.long (Int64.ofNat ua)), .second, .val (.long (Int64.ofNat ub)), .second, .val (.long (Int64.ofNat uc)), .second, .val (.long (Int64.ofNat ud)), .second, .val (.ref w1), .unset, .unset, .unset, .unset] [(.ref bu1), (.ref bu1)])) (fun _ k => XS.dup Xu1.here hx rfl (hb hby at_148) rfl rfl k) ?_
    refine own_stepW (T' := Tu1) (g' := (mkF m 151 #[.val (.int x0), .val (.int x1), .val (.long x2), .second, .val (.long x4), .second, .val (.long x6), .second, .val (.long x8), .second, .val (.int (Int32.ofNat 2)), .val (.int (Int32.ofNat ut)), .val (.int (Int32.ofNat ug)), .val (.long (Int64.ofNat ua)), .second, .val (.long (Int64.ofNat ub)), .second, .val (.long (Int64.ofNat uc)), .second, .val (.long (Int64.ofNat ud)), .second, .val (.ref w1), .unset, .unset, .unset, .unset] [(.ref w1), (.ref bu1), (.ref bu1)])) (fun _ k => XS.aload Xu1.here hx rfl (hb hby at_149) rfl rfl k) ?_
    obtain ⟨cqu9, kqu9, qu9a, qu9b, qu9c⟩ := isOf hZs eu1 qu4
    obtain ⟨_, _, ⟨Tu9, Lu9, ku9, nu9⟩, -, Xu9, ⟨Lcu9, hQu9, lu9, yu9, zu9⟩, stu9⟩ := Xu1.virtualBack hx (y := (⟨"com/example/impatiens/impatiens/statespace/StateWriter", "buffer", "()[B"⟩ : MethodName)) (z := (⟨"com/example/impatiens/impatiens/statespace/StateWriter", "buffer", "()[B"⟩ : MethodName)) howns (mvT hZs (hw _ (List.mem_of_getElem? (i := 29) rfl))) (mvT hZs (hw _ (List.mem_of_getElem? (i := 30) rfl))) (notFace_of_selects (args := #[]) (mvT hZs (hw _ (List.mem_of_getElem? (i := 32) rfl)))) (mvT hZs (hw _ (List.mem_of_getElem? (i := 32) rfl))) (mvT hZs (hw _ (List.mem_of_getElem? (i := 31) rfl))) (by decide) (backOf (W := 2) (rm5 l Z a0 hw [] w1 b1 k1 (own_enc 8 2 ++ own_encs ([(ut, ua, uc), (ug, ub, ud)] : List (Nat × Nat × Nat))) hu1 n0 Zu1 ⟨qu4, qu2, qu3, qu5, qu6, gww, gbw⟩) hZs (hw _ (List.mem_of_getElem? (i := 33) rfl)) (hw _ (List.mem_of_getElem? (i := 8) rfl)) (by decide) (by decide)) qu9a qu9c (g := (mkF m 151 #[.val (.int x0), .val (.int x1), .val (.long x2), .second, .val (.long x4), .second, .val (.long x6), .second, .val (.long x8), .second, .val (.int (Int32.ofNat 2)), .val (.int (Int32.ofNat ut)), .val (.int (Int32.ofNat ug)), .val (.long (Int64.ofNat ua)), .second, .val (.long (Int64.ofNat ub)), .second, .val (.long (Int64.ofNat uc)), .second, .val (.long (Int64.ofNat ud)), .second, .val (.ref w1), .unset, .unset, .unset, .unset] [(.ref w1), (.ref bu1), (.ref bu1)])) rfl (by rw [hml]; rfl) (Steps.refl _) (argsL := []) (rest := [(.ref bu1), (.ref bu1)]) (lenOf pd_9 rfl) rfl (by show 2 * 0 + _ ≤ _; exact Nat.le_of_eq rfl) (hb hby at_151) (fun _ _ => ⟨rfl, eu1, (by decide : 3 + 0 ≤ _), (by decide : 68 + 0 ≤ _)⟩)
    dsimp only [Pt.U, Pt.locs, Pt.cells, Pt.slots] at Xu9 lu9 yu9 zu9 stu9 hQu9
    subst lu9 yu9 zu9
    obtain ⟨rfl, Nu9q, eu9⟩ := hQu9
    have Nu9 := Fr.app N0 Nu9q
    refine own_stepW (T' := Tu9) (g' := (mkF m 154 #[.val (.int x0), .val (.int x1), .val (.long x2), .second, .val (.long x4), .second, .val (.long x6), .second, .val (.long x8), .second, .val (.int (Int32.ofNat 2)), .val (.int (Int32.ofNat ut)), .val (.int (Int32.ofNat ug)), .val (.long (Int64.ofNat ua)), .second, .val (.long (Int64.ofNat ub)), .second, .val (.long (Int64.ofNat uc)), .second, .val (.long (Int64.ofNat ud)), .second, .val (.ref w1), .unset, .unset, .unset, .unset] [(.ref b1), (.ref bu1), (.ref bu1)])) (fun _ k => stu9.trans k) ?_
    obtain ⟨_, _, ⟨Tu10, Lu10, ku10, nu10⟩, -, Xu10, hSu10, hgru10, ⟨Lcu10, hQu10, lu10, yu10, zu10⟩, stu10⟩ := Xu9.specialBackS hx (y := (⟨"com/example/impatiens/impatiens/statespace/StateReader", "<init>", "([B)V"⟩ : MethodName)) rfl howns (mvT hZs (hw _ (List.mem_of_getElem? (i := 34) rfl))) (mvT hZs (hw _ (List.mem_of_getElem? (i := 35) rfl))) (mvT hZs (hw _ (List.mem_of_getElem? (i := 36) rfl))) (by decide) (backOfS (W := 1) (rm6 l Z a0 hw [] bu1 b1 k1 (own_enc 8 2 ++ own_encs ([(ut, ua, uc), (ug, ub, ud)] : List (Nat × Nat × Nat))) .null hu1 n0 Zu1 Au1 g_bu1 qu7 qu8 qu5 qu6) hZs (hw _ (List.mem_of_getElem? (i := 36) rfl)) (hw _ (List.mem_of_getElem? (i := 28) rfl)) (by decide) (by decide)) (g := (mkF m 154 #[.val (.int x0), .val (.int x1), .val (.long x2), .second, .val (.long x4), .second, .val (.long x6), .second, .val (.long x8), .second, .val (.int (Int32.ofNat 2)), .val (.int (Int32.ofNat ut)), .val (.int (Int32.ofNat ug)), .val (.long (Int64.ofNat ua)), .second, .val (.long (Int64.ofNat ub)), .second, .val (.long (Int64.ofNat uc)), .second, .val (.long (Int64.ofNat ud)), .second, .val (.ref w1), .unset, .unset, .unset, .unset] [(.ref b1), (.ref bu1), (.ref bu1)])) rfl (by rw [hml]; rfl) (Steps.refl _) (a := bu1) (argsL := [(.ref b1)]) (rest := [(.ref bu1)]) (lenOf pd_10 rfl) rfl (by show 2 * 0 + _ ≤ _; exact Nat.le_of_eq rfl) (hb hby at_154) (fun _ _ => ⟨rfl, eu9, (by decide : 3 + 2 ≤ _), (by decide : 68 + 92 ≤ _)⟩)
    dsimp only [Pt.U, Pt.locs, Pt.cells, Pt.slots] at Xu10 lu10 yu10 zu10 stu10 hQu10 hSu10 hgru10
    subst lu10 yu10 zu10
    generalize eu10 : Tu10.heap = hu10 at hQu10 hSu10 hgru10
    obtain ⟨rfl, Nu10q, Ku10, rdu10⟩ := hQu10
    have Zu10 : n0 ≤ hu10.size := Nat.le_trans Zu1 Ku10.1
    obtain ⟨Xu10r, hSu10r, hZu10, hownu10⟩ := rebS hS0 (Nat.le_trans hku1 (Nat.le_of_eq (congrArg Array.size eu9.symm))) Xu10 hSu10 hgru10 hZs howns
    have qu11 : Fld Z hu10 w1 "com/example/impatiens/impatiens/statespace/StateWriter" "bytes" "[B" (.ref b1) := qu2.keep Ku10 (ninS neu1_w1 nin0)
    have qu12 : Fld Z hu10 w1 "com/example/impatiens/impatiens/statespace/StateWriter" "length" "I" (.int (Int32.ofNat (own_enc 8 2 ++ own_encs ([(ut, ua, uc), (ug, ub, ud)] : List (Nat × Nat × Nat))).length)) := qu3.keep Ku10 (ninS neu1_w1 nin0)
    have qu13 : Exa Z hu10 w1 "com/example/impatiens/impatiens/statespace/StateWriter" := qu4.keep Ku10
    have qu14 : Exa Z hu10 b1 "[B" := qu5.keep Ku10
    have qu15 : Exa Z hu10 bu1 "com/example/impatiens/impatiens/statespace/StateReader" := Au1.keep Ku10
    have qu16 : Arv Z hu10 b1 k1 .byte (64 : Int32) ((own_enc 8 2 ++ own_encs ([(ut, ua, uc), (ug, ub, ud)] : List (Nat × Nat × Nat))).map Value.int) (.int (0 : Int32)) := qu6.keep Ku10 (ninS neu1_b1 nin0)
    have Nu10 := Fr.app Nu9 Nu10q
    obtain ⟨EDu10, FbDu10, FpDu10, VbDu10, grDu10⟩ := rdu10
    refine own_stepW (T' := Tu10) (g' := (mkF m 157 #[.val (.int x0), .val (.int x1), .val (.long x2), .second, .val (.long x4), .second, .val (.long x6), .second, .val (.long x8), .second, .val (.int (Int32.ofNat 2)), .val (.int (Int32.ofNat ut)), .val (.int (Int32.ofNat ug)), .val (.long (Int64.ofNat ua)), .second, .val (.long (Int64.ofNat ub)), .second, .val (.long (Int64.ofNat uc)), .second, .val (.long (Int64.ofNat ud)), .second, .val (.ref w1), .unset, .unset, .unset, .unset] [(.ref bu1)])) (fun _ k => stu10.trans k) ?_
    obtain ⟨_, _, ⟨Tu17, Lu17, ku17, nu17⟩, -, Xu17, ⟨Lcu17, hQu17, lu17, yu17, zu17⟩, stu17⟩ := Jvm.LawKit.callS Xu10r hx (y := (⟨"com/example/impatiens/impatiens/itpn/Instances", "read", "(Lcom/example/impatiens/impatiens/statespace/StateReader;)Lcom/example/impatiens/impatiens/itpn/Instances;"⟩ : MethodName)) hownu10 (mvT hZu10 (hw _ (List.mem_of_getElem? (i := 53) rfl))) (mvT hZu10 (hw _ (List.mem_of_getElem? (i := 54) rfl))) (mvT hZu10 (hw _ (List.mem_of_getElem? (i := 55) rfl))) (mvT hZu10 (hw _ (List.mem_of_getElem? (i := 56) rfl))) (by decide) (backOf (W := 0) (rm8 l Z a0 hw [] bu1 b1 k1 (own_enc 8 2 ++ own_encs ([(ut, ua, uc), (ug, ub, ud)] : List (Nat × Nat × Nat))) [] 0 ([(ut, ua, uc), (ug, ub, ud)] : List (Nat × Nat × Nat)) hu10 n0 Zu10 hV1 (by simp) hG1 hA1 ⟨EDu10, FbDu10, FpDu10, qu16, grDu10⟩) hZu10 (hw _ (List.mem_of_getElem? (i := 56) rfl)) (hw _ (List.mem_of_getElem? (i := 55) rfl)) (by decide) (by decide)) (g := (mkF m 157 #[.val (.int x0), .val (.int x1), .val (.long x2), .second, .val (.long x4), .second, .val (.long x6), .second, .val (.long x8), .second, .val (.int (Int32.ofNat 2)), .val (.int (Int32.ofNat ut)), .val (.int (Int32.ofNat ug)), .val (.long (Int64.ofNat ua)), .second, .val (.long (Int64.ofNat ub)), .second, .val (.long (Int64.ofNat uc)), .second, .val (.long (Int64.ofNat ud)), .second, .val (.ref w1), .unset, .unset, .unset, .unset] [(.ref bu1)])) rfl (by rw [hml]; rfl) (argsL := [(.ref bu1)]) (rest := []) (lenOf pd_11 rfl) rfl (by show 2 * 0 + _ ≤ _; exact Nat.le_of_eq rfl) (hb hby at_157) (fun _ _ => ⟨rfl, eu10, (by decide : 5 + 4 ≤ _), (by decide : 160 + 10 ≤ _)⟩)
    dsimp only [Pt.U, Pt.locs, Pt.cells, Pt.slots] at Xu17 lu17 yu17 zu17 stu17 hQu17
    subst lu17 yu17 zu17
    generalize eu17 : Tu17.heap = hu17 at hQu17
    obtain ⟨iu17, tau17, aau17, cau17, ktu17, kau17, kcu17, rfl, Nu17q, Ku17, isu17⟩ := hQu17
    have Zu17 : n0 ≤ hu17.size := Nat.le_trans Zu10 Ku17.1
    have hku17 := Nat.le_trans (Nat.le_refl hu10.size) Ku17.1
    have qu18 : Fld Z hu17 w1 "com/example/impatiens/impatiens/statespace/StateWriter" "bytes" "[B" (.ref b1) := qu11.keep Ku17 (ninS neu1_w1 nin0)
    have qu19 : Fld Z hu17 w1 "com/example/impatiens/impatiens/statespace/StateWriter" "length" "I" (.int (Int32.ofNat (own_enc 8 2 ++ own_encs ([(ut, ua, uc), (ug, ub, ud)] : List (Nat × Nat × Nat))).length)) := qu12.keep Ku17 (ninS neu1_w1 nin0)
    have qu20 : Exa Z hu17 w1 "com/example/impatiens/impatiens/statespace/StateWriter" := qu13.keep Ku17
    have qu21 : Exa Z hu17 b1 "[B" := qu14.keep Ku17
    have qu22 : Exa Z hu17 bu1 "com/example/impatiens/impatiens/statespace/StateReader" := EDu10.keep Ku17
    have qu23 : Arv Z hu17 b1 k1 .byte (64 : Int32) ((own_enc 8 2 ++ own_encs ([(ut, ua, uc), (ug, ub, ud)] : List (Nat × Nat × Nat))).map Value.int) (.int (0 : Int32)) := qu16.keep Ku17 (ninS neu1_b1 nin0)
    have Nu17 := Fr.app Nu10 Nu17q
    refine own_stepW (T' := Tu17) (g' := (mkF m 160 #[.val (.int x0), .val (.int x1), .val (.long x2), .second, .val (.long x4), .second, .val (.long x6), .second, .val (.long x8), .second, .val (.int (Int32.ofNat 2)), .val (.int (Int32.ofNat ut)), .val (.int (Int32.ofNat ug)), .val (.long (Int64.ofNat ua)), .second, .val (.long (Int64.ofNat ub)), .second, .val (.long (Int64.ofNat uc)), .second, .val (.long (Int64.ofNat ud)), .second, .val (.ref w1), .unset, .unset, .unset, .unset] [(.ref iu17)])) (fun _ k => stu17 _ k) ?_
    have isT := isu17
    have oqT := isT
    obtain ⟨ET, FtT, FaT, FcT, FnT, VtT, VaT, VcT, ⟨ntaT, ntcT, nacT⟩, giT, gtT, gaT, gcT⟩ := oqT
    have ni_tau17T : iu17 ≠ tau17 := ET.neArv VtT (hw _ (List.mem_of_getElem? (i := 68) rfl))
    have ni_aau17T : iu17 ≠ aau17 := ET.neArv VaT (hw _ (List.mem_of_getElem? (i := 68) rfl))
    have ni_cau17T : iu17 ≠ cau17 := ET.neArv VcT (hw _ (List.mem_of_getElem? (i := 68) rfl))
    refine own_stepW (T' := Tu17) (g' := (mkF m 162 #[.val (.int x0), .val (.int x1), .val (.long x2), .second, .val (.long x4), .second, .val (.long x6), .second, .val (.long x8), .second, .val (.int (Int32.ofNat 2)), .val (.int (Int32.ofNat ut)), .val (.int (Int32.ofNat ug)), .val (.long (Int64.ofNat ua)), .second, .val (.long (Int64.ofNat ub)), .second, .val (.long (Int64.ofNat uc)), .second, .val (.long (Int64.ofNat ud)), .second, .val (.ref w1), .val (.ref iu17), .unset, .unset, .unset] [])) (fun _ k => XS.astore Xu17.here hx rfl (hb hby at_160) rfl rfl (l' := #[.val (.int x0), .val (.int x1), .val (.long x2), .second, .val (.long x4), .second, .val (.long x6), .second, .val (.long x8), .second, .val (.int (Int32.ofNat 2)), .val (.int (Int32.ofNat ut)), .val (.int (Int32.ofNat ug)), .val (.long (Int64.ofNat ua)), .second, .val (.long (Int64.ofNat ub)), .second, .val (.long (Int64.ofNat uc)), .second, .val (.long (Int64.ofNat ud)), .second, .val (.ref w1), .val (.ref iu17), .unset, .unset, .unset]) rfl k) ?_
    refine own_stepW (T' := Tu17) (g' := (mkF m 164 #[.val (.int x0), .val (.int x1), .val (.long x2), .second, .val (.long x4), .second, .val (.long x6), .second, .val (.long x8), .second, .val (.int (Int32.ofNat 2)), .val (.int (Int32.ofNat ut)), .val (.int (Int32.ofNat ug)), .val (.long (Int64.ofNat ua)), .second, .val (.long (Int64.ofNat ub)), .second, .val (.long (Int64.ofNat uc)), .second, .val (.long (Int64.ofNat ud)), .second, .val (.ref w1), .val (.ref iu17), .unset, .unset, .unset] [(.ref iu17)])) (fun _ k => XS.aload Xu17.here hx rfl (hb hby at_162) rfl rfl k) ?_
    obtain ⟨cqu24, kqu24, qu24a, qu24b, qu24c⟩ := isOf hZu10 eu17 ET
    obtain ⟨_, _, ⟨Tu24, Lu24, ku24, nu24⟩, -, Xu24, ⟨Lcu24, hQu24, lu24, yu24, zu24⟩, stu24⟩ := Xu17.virtualBack hx (y := (⟨"com/example/impatiens/impatiens/itpn/Instances", "tick", "()V"⟩ : MethodName)) (z := (⟨"com/example/impatiens/impatiens/itpn/Instances", "tick", "()V"⟩ : MethodName)) hownu10 (mvT hZu10 (hw _ (List.mem_of_getElem? (i := 83) rfl))) (mvT hZu10 (hw _ (List.mem_of_getElem? (i := 84) rfl))) (notFace_of_selects (args := #[]) (mvT hZu10 (hw _ (List.mem_of_getElem? (i := 86) rfl)))) (mvT hZu10 (hw _ (List.mem_of_getElem? (i := 86) rfl))) (mvT hZu10 (hw _ (List.mem_of_getElem? (i := 85) rfl))) (by decide) (backOf (W := 0) (rm12 l Z a0 hw [] iu17 tau17 aau17 cau17 ktu17 kau17 kcu17 ([(ut, ua, uc), (ug, ub, ud)] : List (Nat × Nat × Nat)).length ((own_ts 0 ([(ut, ua, uc), (ug, ub, ud)] : List (Nat × Nat × Nat))).map Int32.ofNat) (([(ut, ua, uc), (ug, ub, ud)] : List (Nat × Nat × Nat)).map (fun g => Int64.ofNat g.2.1)) (([(ut, ua, uc), (ug, ub, ud)] : List (Nat × Nat × Nat)).map (fun g => Int64.ofNat g.2.2)) hu17 n0 Zu17 (by simp) (by simp) ⟨ET, FtT, FaT, FcT, FnT, VtT, VaT, VcT, ⟨ntaT, ntcT, nacT⟩, giT, gtT, gaT, gcT⟩) hZu10 (hw _ (List.mem_of_getElem? (i := 87) rfl)) (hw _ (List.mem_of_getElem? (i := 55) rfl)) (by decide) (by decide)) qu24a qu24c (g := (mkF m 164 #[.val (.int x0), .val (.int x1), .val (.long x2), .second, .val (.long x4), .second, .val (.long x6), .second, .val (.long x8), .second, .val (.int (Int32.ofNat 2)), .val (.int (Int32.ofNat ut)), .val (.int (Int32.ofNat ug)), .val (.long (Int64.ofNat ua)), .second, .val (.long (Int64.ofNat ub)), .second, .val (.long (Int64.ofNat uc)), .second, .val (.long (Int64.ofNat ud)), .second, .val (.ref w1), .val (.ref iu17), .unset, .unset, .unset] [(.ref iu17)])) rfl (by rw [hml]; rfl) (Steps.refl _) (argsL := []) (rest := []) (lenOf pd_7 rfl) rfl (by show 2 * 0 + _ ≤ _; exact Nat.le_of_eq rfl) (hb hby at_164) (fun _ _ => ⟨rfl, eu17, (by decide : 9 + 0 ≤ _), (by decide : 170 + 0 ≤ _)⟩)
    dsimp only [Pt.U, Pt.locs, Pt.cells, Pt.slots] at Xu24 lu24 yu24 zu24 stu24 hQu24
    subst lu24 yu24 zu24
    generalize eu24 : Tu24.heap = hu24 at hQu24
    obtain ⟨rfl, Nu24q, Ku24, isu24⟩ := hQu24
    have Zu24 : n0 ≤ hu24.size := Nat.le_trans Zu17 Ku24.1
    have hku24 := Nat.le_trans hku17 Ku24.1
    have qu25 : Fld Z hu24 iu17 "com/example/impatiens/impatiens/itpn/Instances" "transitions" "[I" (.ref tau17) := FtT.keep Ku24 (ninS ni_aau17T nin0)
    have qu26 : Fld Z hu24 iu17 "com/example/impatiens/impatiens/itpn/Instances" "ages" "[J" (.ref aau17) := FaT.keep Ku24 (ninS ni_aau17T nin0)
    have qu27 : Fld Z hu24 iu17 "com/example/impatiens/impatiens/itpn/Instances" "counts" "[J" (.ref cau17) := FcT.keep Ku24 (ninS ni_aau17T nin0)
    have qu28 : Fld Z hu24 iu17 "com/example/impatiens/impatiens/itpn/Instances" "size" "I" (.int (Int32.ofNat ([(ut, ua, uc), (ug, ub, ud)] : List (Nat × Nat × Nat)).length)) := FnT.keep Ku24 (ninS ni_aau17T nin0)
    have qu29 : Exa Z hu24 iu17 "com/example/impatiens/impatiens/itpn/Instances" := ET.keep Ku24
    have qu30 : Arv Z hu24 tau17 ktu17 .int (Int32.ofNat ([(ut, ua, uc), (ug, ub, ud)] : List (Nat × Nat × Nat)).length) (((own_ts 0 ([(ut, ua, uc), (ug, ub, ud)] : List (Nat × Nat × Nat))).map Int32.ofNat).map Value.int) (.int (0 : Int32)) := VtT.keep Ku24 (ninS ntaT nin0)
    have qu31 : Arv Z hu24 cau17 kcu17 .long (Int32.ofNat ([(ut, ua, uc), (ug, ub, ud)] : List (Nat × Nat × Nat)).length) ((([(ut, ua, uc), (ug, ub, ud)] : List (Nat × Nat × Nat)).map (fun g => Int64.ofNat g.2.2)).map Value.long) (.long (0 : Int64)) := VcT.keep Ku24 (ninS (Ne.symm nacT) nin0)
    have Nu24 := Fr.app Nu17 Nu24q
    have hagree : (([(ut, ua + 1, uc), (ug, ub + 1, ud)] : List (Nat × Nat × Nat)).map (fun g => Int64.ofNat g.2.1)) = ((([(ut, ua, uc), (ug, ub, ud)] : List (Nat × Nat × Nat)).map (fun g => Int64.ofNat g.2.1))).map (· + 1) := by simp only [List.map_cons, List.map_nil, own_succ64]
    have isU : own_IS Z n0 hu24 iu17 tau17 aau17 cau17 ktu17 kau17 kcu17 ([(ut, ua + 1, uc), (ug, ub + 1, ud)] : List (Nat × Nat × Nat)).length ((own_ts 0 ([(ut, ua + 1, uc), (ug, ub + 1, ud)] : List (Nat × Nat × Nat))).map Int32.ofNat) (([(ut, ua + 1, uc), (ug, ub + 1, ud)] : List (Nat × Nat × Nat)).map (fun g => Int64.ofNat g.2.1)) (([(ut, ua + 1, uc), (ug, ub + 1, ud)] : List (Nat × Nat × Nat)).map (fun g => Int64.ofNat g.2.2)) := by rw [hagree]; exact isu24
    refine own_stepW (T' := Tu24) (g' := (mkF m 167 #[.val (.int x0), .val (.int x1), .val (.long x2), .second, .val (.long x4), .second, .val (.long x6), .second, .val (.long x8), .second, .val (.int (Int32.ofNat 2)), .val (.int (Int32.ofNat ut)), .val (.int (Int32.ofNat ug)), .val (.long (Int64.ofNat ua)), .second, .val (.long (Int64.ofNat ub)), .second, .val (.long (Int64.ofNat uc)), .second, .val (.long (Int64.ofNat ud)), .second, .val (.ref w1), .val (.ref iu17), .unset, .unset, .unset] [])) (fun _ k => stu24.trans k) ?_
    exact B167_2 Tu24 _ hu24 w1 iu17 tau17 aau17 cau17 ktu17 kau17 kcu17 Zu24 isU _ _ hSu10r hku24 hZu10 hownu10 Xu24 eu24 Nu24
  have B72_2 : ∀ (T0 : State) (locs : List Loc) (hh : Heap), n0 ≤ hh.size → Stand p l e room_1 (s.setVm s.vm) m #[(.int x0), (.int x1), (.long x2), (.long x4), (.long x6), (.long x8)] below meth c T0 locs 0 0 → T0.heap = hh → Fr n0 locs → own_GoesW p e below s (own_Law n0) 32 1408 T0 (mkF m 72 #[.val (.int x0), .val (.int x1), .val (.long x2), .second, .val (.long x4), .second, .val (.long x6), .second, .val (.long x8), .second, .val (.int (Int32.ofNat 2)), .val (.int (Int32.ofNat ut)), .val (.int (Int32.ofNat ug)), .val (.long (Int64.ofNat ua)), .second, .val (.long (Int64.ofNat ub)), .second, .val (.long (Int64.ofNat uc)), .second, .val (.long (Int64.ofNat ud)), .second, .unset, .unset, .unset, .unset, .unset] []) := by
    intro T0 locs hh  Zh  X0 e0 N0
    have hlen0 : (([] : List Int32) ++ own_enc 8 2).length + 10 ≤ 64 := by simp only [List.length_append, List.length_nil]; omega
    have hlen1 : ((([] : List Int32) ++ own_enc 8 2) ++ own_enc 8 ut).length + 10 ≤ 64 := by simp only [List.length_append, List.length_nil]; omega
    have hlen2 : (((([] : List Int32) ++ own_enc 8 2) ++ own_enc 8 ut) ++ own_enc 8 ua).length + 10 ≤ 64 := by simp only [List.length_append, List.length_nil]; omega
    have hlen3 : ((((([] : List Int32) ++ own_enc 8 2) ++ own_enc 8 ut) ++ own_enc 8 ua) ++ own_enc 8 uc).length + 10 ≤ 64 := by simp only [List.length_append, List.length_nil]; omega
    have hlen4 : (((((([] : List Int32) ++ own_enc 8 2) ++ own_enc 8 ut) ++ own_enc 8 ua) ++ own_enc 8 uc) ++ own_enc 8 ug).length + 10 ≤ 64 := by simp only [List.length_append, List.length_nil]; omega
    have hlen5 : ((((((([] : List Int32) ++ own_enc 8 2) ++ own_enc 8 ut) ++ own_enc 8 ua) ++ own_enc 8 uc) ++ own_enc 8 ug) ++ own_enc 8 ub).length + 10 ≤ 64 := by simp only [List.length_append, List.length_nil]; omega
    obtain ⟨Tu1, hu1, Xu1, eu1, Eu1, Au1, Du1, -, stu1⟩ := newO X0 hx hZs howns (hw _ (List.mem_of_getElem? (i := 6) rfl)) (hw _ (List.mem_of_getElem? (i := 7) rfl)) (hw _ (List.mem_of_getElem? (i := 8) rfl)) e0 (g := (mkF m 72 #[.val (.int x0), .val (.int x1), .val (.long x2), .second, .val (.long x4), .second, .val (.long x6), .second, .val (.long x8), .second, .val (.int (Int32.ofNat 2)), .val (.int (Int32.ofNat ut)), .val (.int (Int32.ofNat ug)), .val (.long (Int64.ofNat ua)), .second, .val (.long (Int64.ofNat ub)), .second, .val (.long (Int64.ofNat uc)), .second, .val (.long (Int64.ofNat ud)), .second, .unset, .unset, .unset, .unset, .unset] [])) rfl (hb hby at_72) (by decide) (by decide)
    obtain ⟨bu1, gu1⟩ : ∃ z, z = hh.size := ⟨_, rfl⟩
    rw [← gu1] at Au1 Du1 stu1
    have qu2 : Fld Z hu1 bu1 "com/example/impatiens/impatiens/statespace/StateWriter" "bytes" "[B" .null := Du1 (Or.inl (hw _ (List.mem_of_getElem? (i := 17) rfl))) (ty := (.array .byte)) (by decide)
    have qu3 : Fld Z hu1 bu1 "com/example/impatiens/impatiens/statespace/StateWriter" "length" "I" (.int (0 : Int32)) := Du1 (Or.inl (hw _ (List.mem_of_getElem? (i := 24) rfl))) (ty := .int) (by decide)
    have g_bu1 : n0 ≤ bu1 := Nat.le_trans Zh (Nat.le_of_eq gu1.symm)
    have Zu1 : n0 ≤ hu1.size := Nat.le_trans Zh Eu1.1
    have hku1 := Nat.le_trans (Nat.zero_le _) Eu1.1
    refine own_stepW (T' := Tu1) (g' := (mkF m 75 #[.val (.int x0), .val (.int x1), .val (.long x2), .second, .val (.long x4), .second, .val (.long x6), .second, .val (.long x8), .second, .val (.int (Int32.ofNat 2)), .val (.int (Int32.ofNat ut)), .val (.int (Int32.ofNat ug)), .val (.long (Int64.ofNat ua)), .second, .val (.long (Int64.ofNat ub)), .second, .val (.long (Int64.ofNat uc)), .second, .val (.long (Int64.ofNat ud)), .second, .unset, .unset, .unset, .unset, .unset] [(.ref bu1)])) (fun _ k => stu1 _ k) ?_
    refine own_stepW (T' := Tu1) (g' := (mkF m 76 #[.val (.int x0), .val (.int x1), .val (.long x2), .second, .val (.long x4), .second, .val (.long x6), .second, .val (.long x8), .second, .val (.int (Int32.ofNat 2)), .val (.int (Int32.ofNat ut)), .val (.int (Int32.ofNat ug)), .val (.long (Int64.ofNat ua)), .second, .val (.long (Int64.ofNat ub)), .second, .val (.long (Int64.ofNat uc)), .second, .val (.long (Int64.ofNat ud)), .second, .unset, .unset, .unset, .unset, .unset] [(.ref bu1), (.ref bu1)])) (fun _ k => XS.dup Xu1.here hx rfl (hb hby at_75) rfl rfl k) ?_
    obtain ⟨_, _, ⟨Tu4, Lu4, ku4, nu4⟩, -, Xu4, ⟨Lcu4, hQu4, lu4, yu4, zu4⟩, stu4⟩ := Xu1.specialBack hx (y := (⟨"com/example/impatiens/impatiens/statespace/StateWriter", "<init>", "()V"⟩ : MethodName)) rfl howns (mvT hZs (hw _ (List.mem_of_getElem? (i := 9) rfl))) (mvT hZs (hw _ (List.mem_of_getElem? (i := 10) rfl))) (mvT hZs (hw _ (List.mem_of_getElem? (i := 11) rfl))) (by decide) (backOf (W := 1) (rm2 l Z a0 hw [] bu1 .null hu1 n0 Zu1 Au1 g_bu1 qu2 qu3) hZs (hw _ (List.mem_of_getElem? (i := 11) rfl)) (hw _ (List.mem_of_getElem? (i := 8) rfl)) (by decide) (by decide)) (g := (mkF m 76 #[.val (.int x0), .val (.int x1), .val (.long x2), .second, .val (.long x4), .second, .val (.long x6), .second, .val (.long x8), .second, .val (.int (Int32.ofNat 2)), .val (.int (Int32.ofNat ut)), .val (.int (Int32.ofNat ug)), .val (.long (Int64.ofNat ua)), .second, .val (.long (Int64.ofNat ub)), .second, .val (.long (Int64.ofNat uc)), .second, .val (.long (Int64.ofNat ud)), .second, .unset, .unset, .unset, .unset, .unset] [(.ref bu1), (.ref bu1)])) rfl (by rw [hml]; rfl) (Steps.refl _) (a := bu1) (argsL := []) (rest := [(.ref bu1)]) (lenOf pd_7 rfl) rfl (by show 2 * 0 + _ ≤ _; exact Nat.le_of_eq rfl) (hb hby at_76) (fun _ _ => ⟨rfl, eu1, (by decide : 1 + 1 ≤ _), (by decide : 2 + 64 ≤ _)⟩)
    dsimp only [Pt.U, Pt.locs, Pt.cells, Pt.slots] at Xu4 lu4 yu4 zu4 stu4 hQu4
    subst lu4 yu4 zu4
    generalize eu4 : Tu4.heap = hu4 at hQu4
    obtain ⟨rfl, Nu4q, Ku4, bbu4, kbu4, szbu4, wru4⟩ := hQu4
    have Zu4 : n0 ≤ hu4.size := Nat.le_trans Zu1 Ku4.1
    have hku4 := Nat.le_trans hku1 Ku4.1
    have qu5 : Exa Z hu4 bu1 "com/example/impatiens/impatiens/statespace/StateWriter" := Au1.keep Ku4
    have Nu4 := Fr.app N0 Nu4q
    have nbu4_bu1 : bu1 ≠ bbu4 := Nat.ne_of_lt (Nat.lt_of_lt_of_le qu2.lt szbu4)
    obtain ⟨EIu4, FbIu4, FlIu4, EbIu4, VbIu4, gwIu4, gbIu4⟩ := wru4
    refine own_stepW (T' := Tu4) (g' := (mkF m 79 #[.val (.int x0), .val (.int x1), .val (.long x2), .second, .val (.long x4), .second, .val (.long x6), .second, .val (.long x8), .second, .val (.int (Int32.ofNat 2)), .val (.int (Int32.ofNat ut)), .val (.int (Int32.ofNat ug)), .val (.long (Int64.ofNat ua)), .second, .val (.long (Int64.ofNat ub)), .second, .val (.long (Int64.ofNat uc)), .second, .val (.long (Int64.ofNat ud)), .second, .unset, .unset, .unset, .unset, .unset] [(.ref bu1)])) (fun _ k => stu4.trans k) ?_
    refine own_stepW (T' := Tu4) (g' := (mkF m 81 #[.val (.int x0), .val (.int x1), .val (.long x2), .second, .val (.long x4), .second, .val (.long x6), .second, .val (.long x8), .second, .val (.int (Int32.ofNat 2)), .val (.int (Int32.ofNat ut)), .val (.int (Int32.ofNat ug)), .val (.long (Int64.ofNat ua)), .second, .val (.long (Int64.ofNat ub)), .second, .val (.long (Int64.ofNat uc)), .second, .val (.long (Int64.ofNat ud)), .second, .val (.ref bu1), .unset, .unset, .unset, .unset] [])) (fun _ k => XS.astore Xu4.here hx rfl (hb hby at_79) rfl rfl (l' := #[.val (.int x0), .val (.int x1), .val (.long x2), .second, .val (.long x4), .second, .val (.long x6), .second, .val (.long x8), .second, .val (.int (Int32.ofNat 2)), .val (.int (Int32.ofNat ut)), .val (.int (Int32.ofNat ug)), .val (.long (Int64.ofNat ua)), .second, .val (.long (Int64.ofNat ub)), .second, .val (.long (Int64.ofNat uc)), .second, .val (.long (Int64.ofNat ud)), .second, .val (.ref bu1), .unset, .unset, .unset, .unset]) rfl k) ?_
    refine own_stepW (T' := Tu4) (g' := (mkF m 83 #[.val (.int x0), .val (.int x1), .val (.long x2), .second, .val (.long x4), .second, .val (.long x6), .second, .val (.long x8), .second, .val (.int (Int32.ofNat 2)), .val (.int (Int32.ofNat ut)), .val (.int (Int32.ofNat ug)), .val (.long (Int64.ofNat ua)), .second, .val (.long (Int64.ofNat ub)), .second, .val (.long (Int64.ofNat uc)), .second, .val (.long (Int64.ofNat ud)), .second, .val (.ref bu1), .unset, .unset, .unset, .unset] [(.ref bu1)])) (fun _ k => XS.aload Xu4.here hx rfl (hb hby at_81) rfl rfl k) ?_
    refine own_stepW (T' := Tu4) (g' := (mkF m 85 #[.val (.int x0), .val (.int x1), .val (.long x2), .second, .val (.long x4), .second, .val (.long x6), .second, .val (.long x8), .second, .val (.int (Int32.ofNat 2)), .val (.int (Int32.ofNat ut)), .val (.int (Int32.ofNat ug)), .val (.long (Int64.ofNat ua)), .second, .val (.long (Int64.ofNat ub)), .second, .val (.long (Int64.ofNat uc)), .second, .val (.long (Int64.ofNat ud)), .second, .val (.ref bu1), .unset, .unset, .unset, .unset] [(.int (Int32.ofNat 2)), (.ref bu1)])) (fun _ k => XS.iload Xu4.here hx rfl (hb hby at_83) rfl k) ?_
    refine own_stepW (T' := Tu4) (g' := (mkF m 86 #[.val (.int x0), .val (.int x1), .val (.long x2), .second, .val (.long x4), .second, .val (.long x6), .second, .val (.long x8), .second, .val (.int (Int32.ofNat 2)), .val (.int (Int32.ofNat ut)), .val (.int (Int32.ofNat ug)), .val (.long (Int64.ofNat ua)), .second, .val (.long (Int64.ofNat ub)), .second, .val (.long (Int64.ofNat uc)), .second, .val (.long (Int64.ofNat ud)), .second, .val (.ref bu1), .unset, .unset, .unset, .unset] [(.long ((Int32.ofNat 2).toInt64)), (.ref bu1)])) (fun _ k => XS.i2l Xu4.here hx rfl (hb hby at_85) rfl k) ?_
    obtain ⟨cqu6, kqu6, qu6a, qu6b, qu6c⟩ := isOf hZs eu4 EIu4
    obtain ⟨_, _, ⟨Tu6, Lu6, ku6, nu6⟩, -, Xu6, ⟨Lcu6, hQu6, lu6, yu6, zu6⟩, stu6⟩ := Xu4.virtualBack hx (y := (⟨"com/example/impatiens/impatiens/statespace/StateWriter", "writeLong", "(J)V"⟩ : MethodName)) (z := (⟨"com/example/impatiens/impatiens/statespace/StateWriter", "writeLong", "(J)V"⟩ : MethodName)) howns (mvT hZs (hw _ (List.mem_of_getElem? (i := 18) rfl))) (mvT hZs (hw _ (List.mem_of_getElem? (i := 19) rfl))) (notFace_of_selects (args := #[]) (mvT hZs (hw _ (List.mem_of_getElem? (i := 21) rfl)))) (mvT hZs (hw _ (List.mem_of_getElem? (i := 21) rfl))) (mvT hZs (hw _ (List.mem_of_getElem? (i := 20) rfl))) (by decide) (backOf (W := 0) (rm4 l Z a0 hw [] bu1 ((Int32.ofNat 2).toInt64) bbu4 kbu4 ([] : List Int32) 2 hu4 n0 Zu4 (own_i2l 2 (by decide)) (by decide) (by decide) ⟨EIu4, FbIu4, FlIu4, EbIu4, VbIu4, gwIu4, gbIu4⟩) hZs (hw _ (List.mem_of_getElem? (i := 22) rfl)) (hw _ (List.mem_of_getElem? (i := 8) rfl)) (by decide) (by decide)) qu6a qu6c (g := (mkF m 86 #[.val (.int x0), .val (.int x1), .val (.long x2), .second, .val (.long x4), .second, .val (.long x6), .second, .val (.long x8), .second, .val (.int (Int32.ofNat 2)), .val (.int (Int32.ofNat ut)), .val (.int (Int32.ofNat ug)), .val (.long (Int64.ofNat ua)), .second, .val (.long (Int64.ofNat ub)), .second, .val (.long (Int64.ofNat uc)), .second, .val (.long (Int64.ofNat ud)), .second, .val (.ref bu1), .unset, .unset, .unset, .unset] [(.long ((Int32.ofNat 2).toInt64)), (.ref bu1)])) rfl (by rw [hml]; rfl) (Steps.refl _) (argsL := [(.long ((Int32.ofNat 2).toInt64))]) (rest := []) (lenOf pd_4 rfl) rfl (by show 2 * 0 + _ ≤ _; exact Nat.le_of_eq rfl) (hb hby at_86) (fun _ _ => ⟨rfl, eu4, (by decide : 2 + 0 ≤ _), (by decide : 66 + 0 ≤ _)⟩)
    dsimp only [Pt.U, Pt.locs, Pt.cells, Pt.slots] at Xu6 lu6 yu6 zu6 stu6 hQu6
    subst lu6 yu6 zu6
    generalize eu6 : Tu6.heap = hu6 at hQu6
    obtain ⟨rfl, Nu6q, Ku6, wru6⟩ := hQu6
    have Zu6 : n0 ≤ hu6.size := Nat.le_trans Zu4 Ku6.1
    have hku6 := Nat.le_trans hku4 Ku6.1
    have qu7 : Exa Z hu6 bu1 "com/example/impatiens/impatiens/statespace/StateWriter" := EIu4.keep Ku6
    have qu8 : Exa Z hu6 bbu4 "[B" := EbIu4.keep Ku6
    have Nu6 := Fr.app Nu4 Nu6q
    obtain ⟨EWu6, FbWu6, FlWu6, EbWu6, VbWu6, gwWu6, gbWu6⟩ := wru6
    refine own_stepW (T' := Tu6) (g' := (mkF m 89 #[.val (.int x0), .val (.int x1), .val (.long x2), .second, .val (.long x4), .second, .val (.long x6), .second, .val (.long x8), .second, .val (.int (Int32.ofNat 2)), .val (.int (Int32.ofNat ut)), .val (.int (Int32.ofNat ug)), .val (.long (Int64.ofNat ua)), .second, .val (.long (Int64.ofNat ub)), .second, .val (.long (Int64.ofNat uc)), .second, .val (.long (Int64.ofNat ud)), .second, .val (.ref bu1), .unset, .unset, .unset, .unset] [])) (fun _ k => stu6.trans k) ?_
    refine own_stepW (T' := Tu6) (g' := (mkF m 91 #[.val (.int x0), .val (.int x1), .val (.long x2), .second, .val (.long x4), .second, .val (.long x6), .second, .val (.long x8), .second, .val (.int (Int32.ofNat 2)), .val (.int (Int32.ofNat ut)), .val (.int (Int32.ofNat ug)), .val (.long (Int64.ofNat ua)), .second, .val (.long (Int64.ofNat ub)), .second, .val (.long (Int64.ofNat uc)), .second, .val (.long (Int64.ofNat ud)), .second, .val (.ref bu1), .unset, .unset, .unset, .unset] [(.int (Int32.ofNat 2))])) (fun _ k => XS.iload Xu6.here hx rfl (hb hby at_89) rfl k) ?_
    refine own_stepW (T' := Tu6) (g' := (mkF m 92 #[.val (.int x0), .val (.int x1), .val (.long x2), .second, .val (.long x4), .second, .val (.long x6), .second, .val (.long x8), .second, .val (.int (Int32.ofNat 2)), .val (.int (Int32.ofNat ut)), .val (.int (Int32.ofNat ug)), .val (.long (Int64.ofNat ua)), .second, .val (.long (Int64.ofNat ub)), .second, .val (.long (Int64.ofNat uc)), .second, .val (.long (Int64.ofNat ud)), .second, .val (.ref bu1), .unset, .unset, .unset, .unset] [(.int (1 : Int32)), (.int (Int32.ofNat 2))])) (fun _ k => XS.iconst Xu6.here hx rfl (hb hby at_91) k) ?_
    have hcu9 : ¬ ((Int32.ofNat 2) < (1 : Int32)) := by decide
    refine own_stepW (T' := Tu6) (g' := (mkF m 95 #[.val (.int x0), .val (.int x1), .val (.long x2), .second, .val (.long x4), .second, .val (.long x6), .second, .val (.long x8), .second, .val (.int (Int32.ofNat 2)), .val (.int (Int32.ofNat ut)), .val (.int (Int32.ofNat ug)), .val (.long (Int64.ofNat ua)), .second, .val (.long (Int64.ofNat ub)), .second, .val (.long (Int64.ofNat uc)), .second, .val (.long (Int64.ofNat ud)), .second, .val (.ref bu1), .unset, .unset, .unset, .unset] [])) (fun _ k => XS.icmpNo Xu6.here hx rfl (hb hby at_92) rfl (flt hcu9).1 k) ?_
    refine own_stepW (T' := Tu6) (g' := (mkF m 97 #[.val (.int x0), .val (.int x1), .val (.long x2), .second, .val (.long x4), .second, .val (.long x6), .second, .val (.long x8), .second, .val (.int (Int32.ofNat 2)), .val (.int (Int32.ofNat ut)), .val (.int (Int32.ofNat ug)), .val (.long (Int64.ofNat ua)), .second, .val (.long (Int64.ofNat ub)), .second, .val (.long (Int64.ofNat uc)), .second, .val (.long (Int64.ofNat ud)), .second, .val (.ref bu1), .unset, .unset, .unset, .unset] [(.ref bu1)])) (fun _ k => XS.aload Xu6.here hx rfl (hb hby at_95) rfl rfl k) ?_
    refine own_stepW (T' := Tu6) (g' := (mkF m 99 #[.val (.int x0), .val (.int x1), .val (.long x2), .second, .val (.long x4), .second, .val (.long x6), .second, .val (.long x8), .second, .val (.int (Int32.ofNat 2)), .val (.int (Int32.ofNat ut)), .val (.int (Int32.ofNat ug)), .val (.long (Int64.ofNat ua)), .second, .val (.long (Int64.ofNat ub)), .second, .val (.long (Int64.ofNat uc)), .second, .val (.long (Int64.ofNat ud)), .second, .val (.ref bu1), .unset, .unset, .unset, .unset] [(.int (Int32.ofNat ut)), (.ref bu1)])) (fun _ k => XS.iload Xu6.here hx rfl (hb hby at_97) rfl k) ?_
    refine own_stepW (T' := Tu6) (g' := (mkF m 100 #[.val (.int x0), .val (.int x1), .val (.long x2), .second, .val (.long x4), .second, .val (.long x6), .second, .val (.long x8), .second, .val (.int (Int32.ofNat 2)), .val (.int (Int32.ofNat ut)), .val (.int (Int32.ofNat ug)), .val (.long (Int64.ofNat ua)), .second, .val (.long (Int64.ofNat ub)), .second, .val (.long (Int64.ofNat uc)), .second, .val (.long (Int64.ofNat ud)), .second, .val (.ref bu1), .unset, .unset, .unset, .unset] [(.long ((Int32.ofNat ut).toInt64)), (.ref bu1)])) (fun _ k => XS.i2l Xu6.here hx rfl (hb hby at_99) rfl k) ?_
    obtain ⟨cqu10, kqu10, qu10a, qu10b, qu10c⟩ := isOf hZs eu6 EWu6
    obtain ⟨_, _, ⟨Tu10, Lu10, ku10, nu10⟩, -, Xu10, ⟨Lcu10, hQu10, lu10, yu10, zu10⟩, stu10⟩ := Xu6.virtualBack hx (y := (⟨"com/example/impatiens/impatiens/statespace/StateWriter", "writeLong", "(J)V"⟩ : MethodName)) (z := (⟨"com/example/impatiens/impatiens/statespace/StateWriter", "writeLong", "(J)V"⟩ : MethodName)) howns (mvT hZs (hw _ (List.mem_of_getElem? (i := 18) rfl))) (mvT hZs (hw _ (List.mem_of_getElem? (i := 19) rfl))) (notFace_of_selects (args := #[]) (mvT hZs (hw _ (List.mem_of_getElem? (i := 21) rfl)))) (mvT hZs (hw _ (List.mem_of_getElem? (i := 21) rfl))) (mvT hZs (hw _ (List.mem_of_getElem? (i := 20) rfl))) (by decide) (backOf (W := 0) (rm4 l Z a0 hw [] bu1 ((Int32.ofNat ut).toInt64) bbu4 kbu4 (([] : List Int32) ++ own_enc 8 2) ut hu6 n0 Zu6 (own_i2l ut hut31) hut hlen0 ⟨EWu6, FbWu6, FlWu6, EbWu6, VbWu6, gwIu4, gbIu4⟩) hZs (hw _ (List.mem_of_getElem? (i := 22) rfl)) (hw _ (List.mem_of_getElem? (i := 8) rfl)) (by decide) (by decide)) qu10a qu10c (g := (mkF m 100 #[.val (.int x0), .val (.int x1), .val (.long x2), .second, .val (.long x4), .second, .val (.long x6), .second, .val (.long x8), .second, .val (.int (Int32.ofNat 2)), .val (.int (Int32.ofNat ut)), .val (.int (Int32.ofNat ug)), .val (.long (Int64.ofNat ua)), .second, .val (.long (Int64.ofNat ub)), .second, .val (.long (Int64.ofNat uc)), .second, .val (.long (Int64.ofNat ud)), .second, .val (.ref bu1), .unset, .unset, .unset, .unset] [(.long ((Int32.ofNat ut).toInt64)), (.ref bu1)])) rfl (by rw [hml]; rfl) (Steps.refl _) (argsL := [(.long ((Int32.ofNat ut).toInt64))]) (rest := []) (lenOf pd_4 rfl) rfl (by show 2 * 0 + _ ≤ _; exact Nat.le_of_eq rfl) (hb hby at_100) (fun _ _ => ⟨rfl, eu6, (by decide : 2 + 0 ≤ _), (by decide : 66 + 0 ≤ _)⟩)
    dsimp only [Pt.U, Pt.locs, Pt.cells, Pt.slots] at Xu10 lu10 yu10 zu10 stu10 hQu10
    subst lu10 yu10 zu10
    generalize eu10 : Tu10.heap = hu10 at hQu10
    obtain ⟨rfl, Nu10q, Ku10, wru10⟩ := hQu10
    have Zu10 : n0 ≤ hu10.size := Nat.le_trans Zu6 Ku10.1
    have hku10 := Nat.le_trans hku6 Ku10.1
    have qu11 : Exa Z hu10 bu1 "com/example/impatiens/impatiens/statespace/StateWriter" := EWu6.keep Ku10
    have qu12 : Exa Z hu10 bbu4 "[B" := EbWu6.keep Ku10
    have Nu10 := Fr.app Nu6 Nu10q
    obtain ⟨EWu10, FbWu10, FlWu10, EbWu10, VbWu10, gwWu10, gbWu10⟩ := wru10
    refine own_stepW (T' := Tu10) (g' := (mkF m 103 #[.val (.int x0), .val (.int x1), .val (.long x2), .second, .val (.long x4), .second, .val (.long x6), .second, .val (.long x8), .second, .val (.int (Int32.ofNat 2)), .val (.int (Int32.ofNat ut)), .val (.int (Int32.ofNat ug)), .val (.long (Int64.ofNat ua)), .second, .val (.long (Int64.ofNat ub)), .second, .val (.long (Int64.ofNat uc)), .second, .val (.long (Int64.ofNat ud)), .second, .val (.ref bu1), .unset, .unset, .unset, .unset] [])) (fun _ k => stu10.trans k) ?_
    refine own_stepW (T' := Tu10) (g' := (mkF m 105 #[.val (.int x0), .val (.int x1), .val (.long x2), .second, .val (.long x4), .second, .val (.long x6), .second, .val (.long x8), .second, .val (.int (Int32.ofNat 2)), .val (.int (Int32.ofNat ut)), .val (.int (Int32.ofNat ug)), .val (.long (Int64.ofNat ua)), .second, .val (.long (Int64.ofNat ub)), .second, .val (.long (Int64.ofNat uc)), .second, .val (.long (Int64.ofNat ud)), .second, .val (.ref bu1), .unset, .unset, .unset, .unset] [(.ref bu1)])) (fun _ k => XS.aload Xu10.here hx rfl (hb hby at_103) rfl rfl k) ?_
    refine own_stepW (T' := Tu10) (g' := (mkF m 107 #[.val (.int x0), .val (.int x1), .val (.long x2), .second, .val (.long x4), .second, .val (.long x6), .second, .val (.long x8), .second, .val (.int (Int32.ofNat 2)), .val (.int (Int32.ofNat ut)), .val (.int (Int32.ofNat ug)), .val (.long (Int64.ofNat ua)), .second, .val (.long (Int64.ofNat ub)), .second, .val (.long (Int64.ofNat uc)), .second, .val (.long (Int64.ofNat ud)), .second, .val (.ref bu1), .unset, .unset, .unset, .unset] [(.long (Int64.ofNat ua)), (.ref bu1)])) (fun _ k => XS.lload Xu10.here hx rfl (hb hby at_105) rfl k) ?_
    obtain ⟨cqu13, kqu13, qu13a, qu13b, qu13c⟩ := isOf hZs eu10 EWu10
    obtain ⟨_, _, ⟨Tu13, Lu13, ku13, nu13⟩, -, Xu13, ⟨Lcu13, hQu13, lu13, yu13, zu13⟩, stu13⟩ := Xu10.virtualBack hx (y := (⟨"com/example/impatiens/impatiens/statespace/StateWriter", "writeLong", "(J)V"⟩ : MethodName)) (z := (⟨"com/example/impatiens/impatiens/statespace/StateWriter", "writeLong", "(J)V"⟩ : MethodName)) howns (mvT hZs (hw _ (List.mem_of_getElem? (i := 18) rfl))) (mvT hZs (hw _ (List.mem_of_getElem? (i := 19) rfl))) (notFace_of_selects (args := #[]) (mvT hZs (hw _ (List.mem_of_getElem? (i := 21) rfl)))) (mvT hZs (hw _ (List.mem_of_getElem? (i := 21) rfl))) (mvT hZs (hw _ (List.mem_of_getElem? (i := 20) rfl))) (by decide) (backOf (W := 0) (rm4 l Z a0 hw [] bu1 (Int64.ofNat ua) bbu4 kbu4 ((([] : List Int32) ++ own_enc 8 2) ++ own_enc 8 ut) ua hu10 n0 Zu10 rfl hua hlen1 ⟨EWu10, FbWu10, FlWu10, EbWu10, VbWu10, gwIu4, gbIu4⟩) hZs (hw _ (List.mem_of_getElem? (i := 22) rfl)) (hw _ (List.mem_of_getElem? (i := 8) rfl)) (by decide) (by decide)) qu13a qu13c (g := (mkF m 107 #[.val (.int x0), .val (.int x1), .val (.long x2), .second, .val (.long x4), .second, .val (.long x6), .second, .val (.long x8), .second, .val (.int (Int32.ofNat 2)), .val (.int (Int32.ofNat ut)), .val (.int (Int32.ofNat ug)), .val (.long (Int64.ofNat ua)), .second, .val (.long (Int64.ofNat ub)), .second, .val (.long (Int64.ofNat uc)), .second, .val (.long (Int64.ofNat ud)), .second, .val (.ref bu1), .unset, .unset, .unset, .unset] [(.long (Int64.ofNat ua)), (.ref bu1)])) rfl (by rw [hml]; rfl) (Steps.refl _) (argsL := [(.long (Int64.ofNat ua))]) (rest := []) (lenOf pd_4 rfl) rfl (by show 2 * 0 + _ ≤ _; exact Nat.le_of_eq rfl) (hb hby at_107) (fun _ _ => ⟨rfl, eu10, (by decide : 2 + 0 ≤ _), (by decide : 66 + 0 ≤ _)⟩)
    dsimp only [Pt.U, Pt.locs, Pt.cells, Pt.slots] at Xu13 lu13 yu13 zu13 stu13 hQu13
    subst lu13 yu13 zu13
    generalize eu13 : Tu13.heap = hu13 at hQu13
    obtain ⟨rfl, Nu13q, Ku13, wru13⟩ := hQu13
    have Zu13 : n0 ≤ hu13.size := Nat.le_trans Zu10 Ku13.1
    have hku13 := Nat.le_trans hku10 Ku13.1
    have qu14 : Exa Z hu13 bu1 "com/example/impatiens/impatiens/statespace/StateWriter" := EWu10.keep Ku13
    have qu15 : Exa Z hu13 bbu4 "[B" := EbWu10.keep Ku13
    have Nu13 := Fr.app Nu10 Nu13q
    obtain ⟨EWu13, FbWu13, FlWu13, EbWu13, VbWu13, gwWu13, gbWu13⟩ := wru13
    refine own_stepW (T' := Tu13) (g' := (mkF m 110 #[.val (.int x0), .val (.int x1), .val (.long x2), .second, .val (.long x4), .second, .val (.long x6), .second, .val (.long x8), .second, .val (.int (Int32.ofNat 2)), .val (.int (Int32.ofNat ut)), .val (.int (Int32.ofNat ug)), .val (.long (Int64.ofNat ua)), .second, .val (.long (Int64.ofNat ub)), .second, .val (.long (Int64.ofNat uc)), .second, .val (.long (Int64.ofNat ud)), .second, .val (.ref bu1), .unset, .unset, .unset, .unset] [])) (fun _ k => stu13.trans k) ?_
    refine own_stepW (T' := Tu13) (g' := (mkF m 112 #[.val (.int x0), .val (.int x1), .val (.long x2), .second, .val (.long x4), .second, .val (.long x6), .second, .val (.long x8), .second, .val (.int (Int32.ofNat 2)), .val (.int (Int32.ofNat ut)), .val (.int (Int32.ofNat ug)), .val (.long (Int64.ofNat ua)), .second, .val (.long (Int64.ofNat ub)), .second, .val (.long (Int64.ofNat uc)), .second, .val (.long (Int64.ofNat ud)), .second, .val (.ref bu1), .unset, .unset, .unset, .unset] [(.ref bu1)])) (fun _ k => XS.aload Xu13.here hx rfl (hb hby at_110) rfl rfl k) ?_
    refine own_stepW (T' := Tu13) (g' := (mkF m 114 #[.val (.int x0), .val (.int x1), .val (.long x2), .second, .val (.long x4), .second, .val (.long x6), .second, .val (.long x8), .second, .val (.int (Int32.ofNat 2)), .val (.int (Int32.ofNat ut)), .val (.int (Int32.ofNat ug)), .val (.long (Int64.ofNat ua)), .second, .val (.long (Int64.ofNat ub)), .second, .val (.long (Int64.ofNat uc)), .second, .val (.long (Int64.ofNat ud)), .second, .val (.ref bu1), .unset, .unset, .unset, .unset] [(.long (Int64.ofNat uc)), (.ref bu1)])) (fun _ k => XS.lload Xu13.here hx rfl (hb hby at_112) rfl k) ?_
    obtain ⟨cqu16, kqu16, qu16a, qu16b, qu16c⟩ := isOf hZs eu13 EWu13
    obtain ⟨_, _, ⟨Tu16, Lu16, ku16, nu16⟩, -, Xu16, ⟨Lcu16, hQu16, lu16, yu16, zu16⟩, stu16⟩ := Xu13.virtualBack hx (y := (⟨"com/example/impatiens/impatiens/statespace/StateWriter", "writeLong", "(J)V"⟩ : MethodName)) (z := (⟨"com/example/impatiens/impatiens/statespace/StateWriter", "writeLong", "(J)V"⟩ : MethodName)) howns (mvT hZs (hw _ (List.mem_of_getElem? (i := 18) rfl))) (mvT hZs (hw _ (List.mem_of_getElem? (i := 19) rfl))) (notFace_of_selects (args := #[]) (mvT hZs (hw _ (List.mem_of_getElem? (i := 21) rfl)))) (mvT hZs (hw _ (List.mem_of_getElem? (i := 21) rfl))) (mvT hZs (hw _ (List.mem_of_getElem? (i := 20) rfl))) (by decide) (backOf (W := 0) (rm4 l Z a0 hw [] bu1 (Int64.ofNat uc) bbu4 kbu4 (((([] : List Int32) ++ own_enc 8 2) ++ own_enc 8 ut) ++ own_enc 8 ua) uc hu13 n0 Zu13 rfl hC hlen2 ⟨EWu13, FbWu13, FlWu13, EbWu13, VbWu13, gwIu4, gbIu4⟩) hZs (hw _ (List.mem_of_getElem? (i := 22) rfl)) (hw _ (List.mem_of_getElem? (i := 8) rfl)) (by decide) (by decide)) qu16a qu16c (g := (mkF m 114 #[.val (.int x0), .val (.int x1), .val (.long x2), .second, .val (.long x4), .second, .val (.long x6), .second, .val (.long x8), .second, .val (.int (Int32.ofNat 2)), .val (.int (Int32.ofNat ut)), .val (.int (Int32.ofNat ug)), .val (.long (Int64.ofNat ua)), .second, .val (.long (Int64.ofNat ub)), .second, .val (.long (Int64.ofNat uc)), .second, .val (.long (Int64.ofNat ud)), .second, .val (.ref bu1), .unset, .unset, .unset, .unset] [(.long (Int64.ofNat uc)), (.ref bu1)])) rfl (by rw [hml]; rfl) (Steps.refl _) (argsL := [(.long (Int64.ofNat uc))]) (rest := []) (lenOf pd_4 rfl) rfl (by show 2 * 0 + _ ≤ _; exact Nat.le_of_eq rfl) (hb hby at_114) (fun _ _ => ⟨rfl, eu13, (by decide : 2 + 0 ≤ _), (by decide : 66 + 0 ≤ _)⟩)
    dsimp only [Pt.U, Pt.locs, Pt.cells, Pt.slots] at Xu16 lu16 yu16 zu16 stu16 hQu16
    subst lu16 yu16 zu16
    generalize eu16 : Tu16.heap = hu16 at hQu16
    obtain ⟨rfl, Nu16q, Ku16, wru16⟩ := hQu16
    have Zu16 : n0 ≤ hu16.size := Nat.le_trans Zu13 Ku16.1
    have hku16 := Nat.le_trans hku13 Ku16.1
    have qu17 : Exa Z hu16 bu1 "com/example/impatiens/impatiens/statespace/StateWriter" := EWu13.keep Ku16
    have qu18 : Exa Z hu16 bbu4 "[B" := EbWu13.keep Ku16
    have Nu16 := Fr.app Nu13 Nu16q
    obtain ⟨EWu16, FbWu16, FlWu16, EbWu16, VbWu16, gwWu16, gbWu16⟩ := wru16
    refine own_stepW (T' := Tu16) (g' := (mkF m 117 #[.val (.int x0), .val (.int x1), .val (.long x2), .second, .val (.long x4), .second, .val (.long x6), .second, .val (.long x8), .second, .val (.int (Int32.ofNat 2)), .val (.int (Int32.ofNat ut)), .val (.int (Int32.ofNat ug)), .val (.long (Int64.ofNat ua)), .second, .val (.long (Int64.ofNat ub)), .second, .val (.long (Int64.ofNat uc)), .second, .val (.long (Int64.ofNat ud)), .second, .val (.ref bu1), .unset, .unset, .unset, .unset] [])) (fun _ k => stu16.trans k) ?_
    refine own_stepW (T' := Tu16) (g' := (mkF m 119 #[.val (.int x0), .val (.int x1), .val (.long x2), .second, .val (.long x4), .second, .val (.long x6), .second, .val (.long x8), .second, .val (.int (Int32.ofNat 2)), .val (.int (Int32.ofNat ut)), .val (.int (Int32.ofNat ug)), .val (.long (Int64.ofNat ua)), .second, .val (.long (Int64.ofNat ub)), .second, .val (.long (Int64.ofNat uc)), .second, .val (.long (Int64.ofNat ud)), .second, .val (.ref bu1), .unset, .unset, .unset, .unset] [(.int (Int32.ofNat 2))])) (fun _ k => XS.iload Xu16.here hx rfl (hb hby at_117) rfl k) ?_
    refine own_stepW (T' := Tu16) (g' := (mkF m 120 #[.val (.int x0), .val (.int x1), .val (.long x2), .second, .val (.long x4), .second, .val (.long x6), .second, .val (.long x8), .second, .val (.int (Int32.ofNat 2)), .val (.int (Int32.ofNat ut)), .val (.int (Int32.ofNat ug)), .val (.long (Int64.ofNat ua)), .second, .val (.long (Int64.ofNat ub)), .second, .val (.long (Int64.ofNat uc)), .second, .val (.long (Int64.ofNat ud)), .second, .val (.ref bu1), .unset, .unset, .unset, .unset] [(.int (2 : Int32)), (.int (Int32.ofNat 2))])) (fun _ k => XS.iconst Xu16.here hx rfl (hb hby at_119) k) ?_
    have hcu19 : ¬ ((Int32.ofNat 2) < (2 : Int32)) := by decide
    refine own_stepW (T' := Tu16) (g' := (mkF m 123 #[.val (.int x0), .val (.int x1), .val (.long x2), .second, .val (.long x4), .second, .val (.long x6), .second, .val (.long x8), .second, .val (.int (Int32.ofNat 2)), .val (.int (Int32.ofNat ut)), .val (.int (Int32.ofNat ug)), .val (.long (Int64.ofNat ua)), .second, .val (.long (Int64.ofNat ub)), .second, .val (.long (Int64.ofNat uc)), .second, .val (.long (Int64.ofNat ud)), .second, .val (.ref bu1), .unset, .unset, .unset, .unset] [])) (fun _ k => XS.icmpNo Xu16.here hx rfl (hb hby at_120) rfl (flt hcu19).1 k) ?_
    refine own_stepW (T' := Tu16) (g' := (mkF m 125 #[.val (.int x0), .val (.int x1), .val (.long x2), .second, .val (.long x4), .second, .val (.long x6), .second, .val (.long x8), .second, .val (.int (Int32.ofNat 2)), .val (.int (Int32.ofNat ut)), .val (.int (Int32.ofNat ug)), .val (.long (Int64.ofNat ua)), .second, .val (.long (Int64.ofNat ub)), .second, .val (.long (Int64.ofNat uc)), .second, .val (.long (Int64.ofNat ud)), .second, .val (.ref bu1), .unset, .unset, .unset, .unset] [(.ref bu1)])) (fun _ k => XS.aload Xu16.here hx rfl (hb hby at_123) rfl rfl k) ?_
    refine own_stepW (T' := Tu16) (g' := (mkF m 127 #[.val (.int x0), .val (.int x1), .val (.long x2), .second, .val (.long x4), .second, .val (.long x6), .second, .val (.long x8), .second, .val (.int (Int32.ofNat 2)), .val (.int (Int32.ofNat ut)), .val (.int (Int32.ofNat ug)), .val (.long (Int64.ofNat ua)), .second, .val (.long (Int64.ofNat ub)), .second, .val (.long (Int64.ofNat uc)), .second, .val (.long (Int64.ofNat ud)), .second, .val (.ref bu1), .unset, .unset, .unset, .unset] [(.int (Int32.ofNat ug)), (.ref bu1)])) (fun _ k => XS.iload Xu16.here hx rfl (hb hby at_125) rfl k) ?_
    refine own_stepW (T' := Tu16) (g' := (mkF m 128 #[.val (.int x0), .val (.int x1), .val (.long x2), .second, .val (.long x4), .second, .val (.long x6), .second, .val (.long x8), .second, .val (.int (Int32.ofNat 2)), .val (.int (Int32.ofNat ut)), .val (.int (Int32.ofNat ug)), .val (.long (Int64.ofNat ua)), .second, .val (.long (Int64.ofNat ub)), .second, .val (.long (Int64.ofNat uc)), .second, .val (.long (Int64.ofNat ud)), .second, .val (.ref bu1), .unset, .unset, .unset, .unset] [(.long ((Int32.ofNat ug).toInt64)), (.ref bu1)])) (fun _ k => XS.i2l Xu16.here hx rfl (hb hby at_127) rfl k) ?_
    obtain ⟨cqu20, kqu20, qu20a, qu20b, qu20c⟩ := isOf hZs eu16 EWu16
    obtain ⟨_, _, ⟨Tu20, Lu20, ku20, nu20⟩, -, Xu20, ⟨Lcu20, hQu20, lu20, yu20, zu20⟩, stu20⟩ := Xu16.virtualBack hx (y := (⟨"com/example/impatiens/impatiens/statespace/StateWriter", "writeLong", "(J)V"⟩ : MethodName)) (z := (⟨"com/example/impatiens/impatiens/statespace/StateWriter", "writeLong", "(J)V"⟩ : MethodName)) howns (mvT hZs (hw _ (List.mem_of_getElem? (i := 18) rfl))) (mvT hZs (hw _ (List.mem_of_getElem? (i := 19) rfl))) (notFace_of_selects (args := #[]) (mvT hZs (hw _ (List.mem_of_getElem? (i := 21) rfl)))) (mvT hZs (hw _ (List.mem_of_getElem? (i := 21) rfl))) (mvT hZs (hw _ (List.mem_of_getElem? (i := 20) rfl))) (by decide) (backOf (W := 0) (rm4 l Z a0 hw [] bu1 ((Int32.ofNat ug).toInt64) bbu4 kbu4 ((((([] : List Int32) ++ own_enc 8 2) ++ own_enc 8 ut) ++ own_enc 8 ua) ++ own_enc 8 uc) ug hu16 n0 Zu16 (own_i2l ug hug31) hug hlen3 ⟨EWu16, FbWu16, FlWu16, EbWu16, VbWu16, gwIu4, gbIu4⟩) hZs (hw _ (List.mem_of_getElem? (i := 22) rfl)) (hw _ (List.mem_of_getElem? (i := 8) rfl)) (by decide) (by decide)) qu20a qu20c (g := (mkF m 128 #[.val (.int x0), .val (.int x1), .val (.long x2), .second, .val (.long x4), .second, .val (.long x6), .second, .val (.long x8), .second, .val (.int (Int32.ofNat 2)), .val (.int (Int32.ofNat ut)), .val (.int (Int32.ofNat ug)), .val (.long (Int64.ofNat ua)), .second, .val (.long (Int64.ofNat ub)), .second, .val (.long (Int64.ofNat uc)), .second, .val (.long (Int64.ofNat ud)), .second, .val (.ref bu1), .unset, .unset, .unset, .unset] [(.long ((Int32.ofNat ug).toInt64)), (.ref bu1)])) rfl (by rw [hml]; rfl) (Steps.refl _) (argsL := [(.long ((Int32.ofNat ug).toInt64))]) (rest := []) (lenOf pd_4 rfl) rfl (by show 2 * 0 + _ ≤ _; exact Nat.le_of_eq rfl) (hb hby at_128) (fun _ _ => ⟨rfl, eu16, (by decide : 2 + 0 ≤ _), (by decide : 66 + 0 ≤ _)⟩)
    dsimp only [Pt.U, Pt.locs, Pt.cells, Pt.slots] at Xu20 lu20 yu20 zu20 stu20 hQu20
    subst lu20 yu20 zu20
    generalize eu20 : Tu20.heap = hu20 at hQu20
    obtain ⟨rfl, Nu20q, Ku20, wru20⟩ := hQu20
    have Zu20 : n0 ≤ hu20.size := Nat.le_trans Zu16 Ku20.1
    have hku20 := Nat.le_trans hku16 Ku20.1
    have qu21 : Exa Z hu20 bu1 "com/example/impatiens/impatiens/statespace/StateWriter" := EWu16.keep Ku20
    have qu22 : Exa Z hu20 bbu4 "[B" := EbWu16.keep Ku20
    have Nu20 := Fr.app Nu16 Nu20q
    obtain ⟨EWu20, FbWu20, FlWu20, EbWu20, VbWu20, gwWu20, gbWu20⟩ := wru20
    refine own_stepW (T' := Tu20) (g' := (mkF m 131 #[.val (.int x0), .val (.int x1), .val (.long x2), .second, .val (.long x4), .second, .val (.long x6), .second, .val (.long x8), .second, .val (.int (Int32.ofNat 2)), .val (.int (Int32.ofNat ut)), .val (.int (Int32.ofNat ug)), .val (.long (Int64.ofNat ua)), .second, .val (.long (Int64.ofNat ub)), .second, .val (.long (Int64.ofNat uc)), .second, .val (.long (Int64.ofNat ud)), .second, .val (.ref bu1), .unset, .unset, .unset, .unset] [])) (fun _ k => stu20.trans k) ?_
    refine own_stepW (T' := Tu20) (g' := (mkF m 133 #[.val (.int x0), .val (.int x1), .val (.long x2), .second, .val (.long x4), .second, .val (.long x6), .second, .val (.long x8), .second, .val (.int (Int32.ofNat 2)), .val (.int (Int32.ofNat ut)), .val (.int (Int32.ofNat ug)), .val (.long (Int64.ofNat ua)), .second, .val (.long (Int64.ofNat ub)), .second, .val (.long (Int64.ofNat uc)), .second, .val (.long (Int64.ofNat ud)), .second, .val (.ref bu1), .unset, .unset, .unset, .unset] [(.ref bu1)])) (fun _ k => XS.aload Xu20.here hx rfl (hb hby at_131) rfl rfl k) ?_
    refine own_stepW (T' := Tu20) (g' := (mkF m 135 #[.val (.int x0), .val (.int x1), .val (.long x2), .second, .val (.long x4), .second, .val (.long x6), .second, .val (.long x8), .second, .val (.int (Int32.ofNat 2)), .val (.int (Int32.ofNat ut)), .val (.int (Int32.ofNat ug)), .val (.long (Int64.ofNat ua)), .second, .val (.long (Int64.ofNat ub)), .second, .val (.long (Int64.ofNat uc)), .second, .val (.long (Int64.ofNat ud)), .second, .val (.ref bu1), .unset, .unset, .unset, .unset] [(.long (Int64.ofNat ub)), (.ref bu1)])) (fun _ k => XS.lload Xu20.here hx rfl (hb hby at_133) rfl k) ?_
    obtain ⟨cqu23, kqu23, qu23a, qu23b, qu23c⟩ := isOf hZs eu20 EWu20
    obtain ⟨_, _, ⟨Tu23, Lu23, ku23, nu23⟩, -, Xu23, ⟨Lcu23, hQu23, lu23, yu23, zu23⟩, stu23⟩ := Xu20.virtualBack hx (y := (⟨"com/example/impatiens/impatiens/statespace/StateWriter", "writeLong", "(J)V"⟩ : MethodName)) (z := (⟨"com/example/impatiens/impatiens/statespace/StateWriter", "writeLong", "(J)V"⟩ : MethodName)) howns (mvT hZs (hw _ (List.mem_of_getElem? (i := 18) rfl))) (mvT hZs (hw _ (List.mem_of_getElem? (i := 19) rfl))) (notFace_of_selects (args := #[]) (mvT hZs (hw _ (List.mem_of_getElem? (i := 21) rfl)))) (mvT hZs (hw _ (List.mem_of_getElem? (i := 21) rfl))) (mvT hZs (hw _ (List.mem_of_getElem? (i := 20) rfl))) (by decide) (backOf (W := 0) (rm4 l Z a0 hw [] bu1 (Int64.ofNat ub) bbu4 kbu4 (((((([] : List Int32) ++ own_enc 8 2) ++ own_enc 8 ut) ++ own_enc 8 ua) ++ own_enc 8 uc) ++ own_enc 8 ug) ub hu20 n0 Zu20 rfl hub hlen4 ⟨EWu20, FbWu20, FlWu20, EbWu20, VbWu20, gwIu4, gbIu4⟩) hZs (hw _ (List.mem_of_getElem? (i := 22) rfl)) (hw _ (List.mem_of_getElem? (i := 8) rfl)) (by decide) (by decide)) qu23a qu23c (g := (mkF m 135 #[.val (.int x0), .val (.int x1), .val (.long x2), .second, .val (.long x4), .second, .val (.long x6), .second, .val (.long x8), .second, .val (.int (Int32.ofNat 2)), .val (.int (Int32.ofNat ut)), .val (.int (Int32.ofNat ug)), .val (.long (Int64.ofNat ua)), .second, .val (.long (Int64.ofNat ub)), .second, .val (.long (Int64.ofNat uc)), .second, .val (.long (Int64.ofNat ud)), .second, .val (.ref bu1), .unset, .unset, .unset, .unset] [(.long (Int64.ofNat ub)), (.ref bu1)])) rfl (by rw [hml]; rfl) (Steps.refl _) (argsL := [(.long (Int64.ofNat ub))]) (rest := []) (lenOf pd_4 rfl) rfl (by show 2 * 0 + _ ≤ _; exact Nat.le_of_eq rfl) (hb hby at_135) (fun _ _ => ⟨rfl, eu20, (by decide : 2 + 0 ≤ _), (by decide : 66 + 0 ≤ _)⟩)
    dsimp only [Pt.U, Pt.locs, Pt.cells, Pt.slots] at Xu23 lu23 yu23 zu23 stu23 hQu23
    subst lu23 yu23 zu23
    generalize eu23 : Tu23.heap = hu23 at hQu23
    obtain ⟨rfl, Nu23q, Ku23, wru23⟩ := hQu23
    have Zu23 : n0 ≤ hu23.size := Nat.le_trans Zu20 Ku23.1
    have hku23 := Nat.le_trans hku20 Ku23.1
    have qu24 : Exa Z hu23 bu1 "com/example/impatiens/impatiens/statespace/StateWriter" := EWu20.keep Ku23
    have qu25 : Exa Z hu23 bbu4 "[B" := EbWu20.keep Ku23
    have Nu23 := Fr.app Nu20 Nu23q
    obtain ⟨EWu23, FbWu23, FlWu23, EbWu23, VbWu23, gwWu23, gbWu23⟩ := wru23
    refine own_stepW (T' := Tu23) (g' := (mkF m 138 #[.val (.int x0), .val (.int x1), .val (.long x2), .second, .val (.long x4), .second, .val (.long x6), .second, .val (.long x8), .second, .val (.int (Int32.ofNat 2)), .val (.int (Int32.ofNat ut)), .val (.int (Int32.ofNat ug)), .val (.long (Int64.ofNat ua)), .second, .val (.long (Int64.ofNat ub)), .second, .val (.long (Int64.ofNat uc)), .second, .val (.long (Int64.ofNat ud)), .second, .val (.ref bu1), .unset, .unset, .unset, .unset] [])) (fun _ k => stu23.trans k) ?_
    refine own_stepW (T' := Tu23) (g' := (mkF m 140 #[.val (.int x0), .val (.int x1), .val (.long x2), .second, .val (.long x4), .second, .val (.long x6), .second, .val (.long x8), .second, .val (.int (Int32.ofNat 2)), .val (.int (Int32.ofNat ut)), .val (.int (Int32.ofNat ug)), .val (.long (Int64.ofNat ua)), .second, .val (.long (Int64.ofNat ub)), .second, .val (.long (Int64.ofNat uc)), .second, .val (.long (Int64.ofNat ud)), .second, .val (.ref bu1), .unset, .unset, .unset, .unset] [(.ref bu1)])) (fun _ k => XS.aload Xu23.here hx rfl (hb hby at_138) rfl rfl k) ?_
    refine own_stepW (T' := Tu23) (g' := (mkF m 142 #[.val (.int x0), .val (.int x1), .val (.long x2), .second, .val (.long x4), .second, .val (.long x6), .second, .val (.long x8), .second, .val (.int (Int32.ofNat 2)), .val (.int (Int32.ofNat ut)), .val (.int (Int32.ofNat ug)), .val (.long (Int64.ofNat ua)), .second, .val (.long (Int64.ofNat ub)), .second, .val (.long (Int64.ofNat uc)), .second, .val (.long (Int64.ofNat ud)), .second, .val (.ref bu1), .unset, .unset, .unset, .unset] [(.long (Int64.ofNat ud)), (.ref bu1)])) (fun _ k => XS.lload Xu23.here hx rfl (hb hby at_140) rfl k) ?_
    obtain ⟨cqu26, kqu26, qu26a, qu26b, qu26c⟩ := isOf hZs eu23 EWu23
    obtain ⟨_, _, ⟨Tu26, Lu26, ku26, nu26⟩, -, Xu26, ⟨Lcu26, hQu26, lu26, yu26, zu26⟩, stu26⟩ := Xu23.virtualBack hx (y := (⟨"com/example/impatiens/impatiens/statespace/StateWriter", "writeLong", "(J)V"⟩ : MethodName)) (z := (⟨"com/example/impatiens/impatiens/statespace/StateWriter", "writeLong", "(J)V"⟩ : MethodName)) howns (mvT hZs (hw _ (List.mem_of_getElem? (i := 18) rfl))) (mvT hZs (hw _ (List.mem_of_getElem? (i := 19) rfl))) (notFace_of_selects (args := #[]) (mvT hZs (hw _ (List.mem_of_getElem? (i := 21) rfl)))) (mvT hZs (hw _ (List.mem_of_getElem? (i := 21) rfl))) (mvT hZs (hw _ (List.mem_of_getElem? (i := 20) rfl))) (by decide) (backOf (W := 0) (rm4 l Z a0 hw [] bu1 (Int64.ofNat ud) bbu4 kbu4 ((((((([] : List Int32) ++ own_enc 8 2) ++ own_enc 8 ut) ++ own_enc 8 ua) ++ own_enc 8 uc) ++ own_enc 8 ug) ++ own_enc 8 ub) ud hu23 n0 Zu23 rfl hD hlen5 ⟨EWu23, FbWu23, FlWu23, EbWu23, VbWu23, gwIu4, gbIu4⟩) hZs (hw _ (List.mem_of_getElem? (i := 22) rfl)) (hw _ (List.mem_of_getElem? (i := 8) rfl)) (by decide) (by decide)) qu26a qu26c (g := (mkF m 142 #[.val (.int x0), .val (.int x1), .val (.long x2), .second, .val (.long x4), .second, .val (.long x6), .second, .val (.long x8), .second, .val (.int (Int32.ofNat 2)), .val (.int (Int32.ofNat ut)), .val (.int (Int32.ofNat ug)), .val (.long (Int64.ofNat ua)), .second, .val (.long (Int64.ofNat ub)), .second, .val (.long (Int64.ofNat uc)), .second, .val (.long (Int64.ofNat ud)), .second, .val (.ref bu1), .unset, .unset, .unset, .unset] [(.long (Int64.ofNat ud)), (.ref bu1)])) rfl (by rw [hml]; rfl) (Steps.refl _) (argsL := [(.long (Int64.ofNat ud))]) (rest := []) (lenOf pd_4 rfl) rfl (by show 2 * 0 + _ ≤ _; exact Nat.le_of_eq rfl) (hb hby at_142) (fun _ _ => ⟨rfl, eu23, (by decide : 2 + 0 ≤ _), (by decide : 66 + 0 ≤ _)⟩)
    dsimp only [Pt.U, Pt.locs, Pt.cells, Pt.slots] at Xu26 lu26 yu26 zu26 stu26 hQu26
    subst lu26 yu26 zu26
    generalize eu26 : Tu26.heap = hu26 at hQu26
    obtain ⟨rfl, Nu26q, Ku26, wru26⟩ := hQu26
    have Zu26 : n0 ≤ hu26.size := Nat.le_trans Zu23 Ku26.1
    have hku26 := Nat.le_trans hku23 Ku26.1
    have qu27 : Exa Z hu26 bu1 "com/example/impatiens/impatiens/statespace/StateWriter" := EWu23.keep Ku26
    have qu28 : Exa Z hu26 bbu4 "[B" := EbWu23.keep Ku26
    have Nu26 := Fr.app Nu23 Nu26q
    obtain ⟨EWu26, FbWu26, FlWu26, EbWu26, VbWu26, gwWu26, gbWu26⟩ := wru26
    refine own_stepW (T' := Tu26) (g' := (mkF m 145 #[.val (.int x0), .val (.int x1), .val (.long x2), .second, .val (.long x4), .second, .val (.long x6), .second, .val (.long x8), .second, .val (.int (Int32.ofNat 2)), .val (.int (Int32.ofNat ut)), .val (.int (Int32.ofNat ug)), .val (.long (Int64.ofNat ua)), .second, .val (.long (Int64.ofNat ub)), .second, .val (.long (Int64.ofNat uc)), .second, .val (.long (Int64.ofNat ud)), .second, .val (.ref bu1), .unset, .unset, .unset, .unset] [])) (fun _ k => stu26.trans k) ?_
    exact B145_2 Tu26 _ hu26 bu1 bbu4 kbu4 Zu26 (own_wrc (vs := (((((((([] : List Int32) ++ own_enc 8 2) ++ own_enc 8 ut) ++ own_enc 8 ua) ++ own_enc 8 uc) ++ own_enc 8 ug) ++ own_enc 8 ub) ++ own_enc 8 ud)) ⟨EWu26, FbWu26, FlWu26, EbWu26, VbWu26, gwIu4, gbIu4⟩ (by simp [own_encs])) Xu26 eu26 Nu26
  exact B72_2
set_option maxRecDepth 65536 in
set_option maxHeartbeats 40000000 in
theorem rm0 (l : Launch) (Z : State) (a0 : Array Value) (hw : ∀ d ∈ tables_1, d.before a0 Z = true) (ws : List Jvm.Cond) (x0 : Int32) (x1 : Int32) (x2 : Int64) (x4 : Int64) (x6 : Int64) (x8 : Int64) (h0 : Heap) (n0 : Nat) (Z0 : n0 ≤ h0.size) :
    MetFree l x (head1 (Jvm.Cond.code x code maxLocals ret :: ws) room_1) (fun a U => a = #[(.int x0), (.int x1), (.long x2), (.long x4), (.long x6), (.long x8)] ∧ Z.Warmed39 U.vm ∧ U.heap = h0) (fun _ _ _ _ _ => True) (fun _ U o U' => ∃ v L, o = .returned v ∧ own_Law n0 v U'.heap L ∧ ReturnedEndW U o U' L 32 1408) := by
  refine MetFree.of_bodySF (plainFor_of_name pn_0) hisR ?_
  intro p e s m args below meth c s₁ Bd hml0 hP hK
  obtain ⟨rfl, hZ, hh0⟩ := hP
  have hx := Bd.exec
  have hby := Bd.bytes
  have hml : c.maxLocals = 26 := hml0
  have hown : s.vm.findClass "com/example/impatiens/impatiens/itpn/InstancesTickPinLaw" = some m.cls := findClass_of_methodNamed Bd.named
  have hnm := (name_of_methodNamed Bd.named Bd.method).1
  have X00 : Stand p l e room_1 s m #[(.int x0), (.int x1), (.long x2), (.long x4), (.long x6), (.long x8)] below meth c s₁ [] 0 0 := Stand.of_body Bd
  have e00 : s₁.heap = h0 := by rw [← hh0, Bd.state]; rfl
  have N00 := Fr.nil n0
  have hS0 : s.Since s.vm 0 := (State.WarmedH.refl s).since _
  have hZs : Z.Warmed39 (s.setVm s.vm).vm := hZ
  have howns : (s.setVm s.vm).vm.findClass "com/example/impatiens/impatiens/itpn/InstancesTickPinLaw" = some m.cls := hown
  have X0s : Stand p l e room_1 (s.setVm s.vm) m #[(.int x0), (.int x1), (.long x2), (.long x4), (.long x6), (.long x8)] below meth c s₁ [] 0 0 := X00
  obtain ⟨uN, hN, eN'⟩ := own_three x0
  have eN : ((x0 &&& (2147483647 : Int32)) % (3 : Int32)) = Int32.ofNat uN := eN'
  obtain ⟨ut, hT, eT'⟩ := own_and32 x1 32767 (by decide)
  have eT : (x1 &&& (32767 : Int32)) = Int32.ofNat ut := eT'
  obtain ⟨ug, hG, eG'⟩ := own_and32 ((x1.toUInt32 >>> ((16 : Int32) &&& 31).toUInt32).toInt32) 32767 (by decide)
  have eG : (((x1.toUInt32 >>> ((16 : Int32) &&& 31).toUInt32).toInt32) &&& (32767 : Int32)) = Int32.ofNat ug := eG'
  obtain ⟨ua, hA, eA'⟩ := own_rem x2
  have eA : ((x2 &&& (9223372036854775807 : Int64)) - ((x2 &&& (9223372036854775807 : Int64)) / (9223372036854775807 : Int64)) * (9223372036854775807 : Int64)) = Int64.ofNat ua := eA'
  obtain ⟨ub, hB, eB'⟩ := own_rem x4
  have eB : ((x4 &&& (9223372036854775807 : Int64)) - ((x4 &&& (9223372036854775807 : Int64)) / (9223372036854775807 : Int64)) * (9223372036854775807 : Int64)) = Int64.ofNat ub := eB'
  obtain ⟨uc, hC, eC'⟩ := own_max x6
  have eC : (f1_0 (1 : Int64) (x6 &&& (9223372036854775807 : Int64))) = Int64.ofNat uc := eC'
  obtain ⟨ud, hD, eD'⟩ := own_max x8
  have eD : (f1_0 (1 : Int64) (x8 &&& (9223372036854775807 : Int64))) = Int64.ofNat ud := eD'
  have hB : own_GoesW p e below s (own_Law n0) 32 1408 s₁ (mkF m 0 #[.val (.int x0), .val (.int x1), .val (.long x2), .second, .val (.long x4), .second, .val (.long x6), .second, .val (.long x8), .second, .unset, .unset, .unset, .unset, .unset, .unset, .unset, .unset, .unset, .unset, .unset, .unset, .unset, .unset, .unset, .unset] []) := by
    refine own_stepW (T' := s₁) (g' := (mkF m 1 #[.val (.int x0), .val (.int x1), .val (.long x2), .second, .val (.long x4), .second, .val (.long x6), .second, .val (.long x8), .second, .unset, .unset, .unset, .unset, .unset, .unset, .unset, .unset, .unset, .unset, .unset, .unset, .unset, .unset, .unset, .unset] [(.int x0)])) (fun _ k => XS.iloadN X0s.here hx rfl (hb hby at_0) rfl k) ?_
    refine own_stepW (T' := s₁) (g' := (mkF m 3 #[.val (.int x0), .val (.int x1), .val (.long x2), .second, .val (.long x4), .second, .val (.long x6), .second, .val (.long x8), .second, .unset, .unset, .unset, .unset, .unset, .unset, .unset, .unset, .unset, .unset, .unset, .unset, .unset, .unset, .unset, .unset] [(.int (2147483647 : Int32)), (.int x0)])) (fun _ k => X0s.ldcInt hx howns (mvT hZs (hw _ (List.mem_of_getElem? (i := 0) rfl))) (g := (mkF m 1 #[.val (.int x0), .val (.int x1), .val (.long x2), .second, .val (.long x4), .second, .val (.long x6), .second, .val (.long x8), .second, .unset, .unset, .unset, .unset, .unset, .unset, .unset, .unset, .unset, .unset, .unset, .unset, .unset, .unset, .unset, .unset] [(.int x0)])) rfl (hb hby at_1) _ k) ?_
    refine own_stepW (T' := s₁) (g' := (mkF m 4 #[.val (.int x0), .val (.int x1), .val (.long x2), .second, .val (.long x4), .second, .val (.long x6), .second, .val (.long x8), .second, .unset, .unset, .unset, .unset, .unset, .unset, .unset, .unset, .unset, .unset, .unset, .unset, .unset, .unset, .unset, .unset] [(.int (x0 &&& (2147483647 : Int32)))])) (fun _ k => XS.iand X0s.here hx rfl (hb hby at_3) rfl k) ?_
    refine own_stepW (T' := s₁) (g' := (mkF m 5 #[.val (.int x0), .val (.int x1), .val (.long x2), .second, .val (.long x4), .second, .val (.long x6), .second, .val (.long x8), .second, .unset, .unset, .unset, .unset, .unset, .unset, .unset, .unset, .unset, .unset, .unset, .unset, .unset, .unset, .unset, .unset] [(.int (3 : Int32)), (.int (x0 &&& (2147483647 : Int32)))])) (fun _ k => XS.iconst X0s.here hx rfl (hb hby at_4) k) ?_
    refine own_stepW (T' := s₁) (g' := (mkF m 6 #[.val (.int x0), .val (.int x1), .val (.long x2), .second, .val (.long x4), .second, .val (.long x6), .second, .val (.long x8), .second, .unset, .unset, .unset, .unset, .unset, .unset, .unset, .unset, .unset, .unset, .unset, .unset, .unset, .unset, .unset, .unset] [(.int ((x0 &&& (2147483647 : Int32)) % (3 : Int32)))])) (fun _ k => iremM X0s hx rfl (hb hby at_5) rfl (by decide) k) ?_
    refine own_stepW (T' := s₁) (g' := (mkF m 8 #[.val (.int x0), .val (.int x1), .val (.long x2), .second, .val (.long x4), .second, .val (.long x6), .second, .val (.long x8), .second, .val (.int ((x0 &&& (2147483647 : Int32)) % (3 : Int32))), .unset, .unset, .unset, .unset, .unset, .unset, .unset, .unset, .unset, .unset, .unset, .unset, .unset, .unset, .unset] [])) (fun _ k => XS.istore X0s.here hx rfl (hb hby at_6) rfl (l' := #[.val (.int x0), .val (.int x1), .val (.long x2), .second, .val (.long x4), .second, .val (.long x6), .second, .val (.long x8), .second, .val (.int ((x0 &&& (2147483647 : Int32)) % (3 : Int32))), .unset, .unset, .unset, .unset, .unset, .unset, .unset, .unset, .unset, .unset, .unset, .unset, .unset, .unset, .unset]) rfl k) ?_
    refine own_stepW (T' := s₁) (g' := (mkF m 9 #[.val (.int x0), .val (.int x1), .val (.long x2), .second, .val (.long x4), .second, .val (.long x6), .second, .val (.long x8), .second, .val (.int ((x0 &&& (2147483647 : Int32)) % (3 : Int32))), .unset, .unset, .unset, .unset, .unset, .unset, .unset, .unset, .unset, .unset, .unset, .unset, .unset, .unset, .unset] [(.int x1)])) (fun _ k => XS.iloadN X0s.here hx rfl (hb hby at_8) rfl k) ?_
    refine own_stepW (T' := s₁) (g' := (mkF m 12 #[.val (.int x0), .val (.int x1), .val (.long x2), .second, .val (.long x4), .second, .val (.long x6), .second, .val (.long x8), .second, .val (.int ((x0 &&& (2147483647 : Int32)) % (3 : Int32))), .unset, .unset, .unset, .unset, .unset, .unset, .unset, .unset, .unset, .unset, .unset, .unset, .unset, .unset, .unset] [(.int (32767 : Int32)), (.int x1)])) (fun _ k => XS.sipush X0s.here hx rfl (hb hby at_9) k) ?_
    refine own_stepW (T' := s₁) (g' := (mkF m 13 #[.val (.int x0), .val (.int x1), .val (.long x2), .second, .val (.long x4), .second, .val (.long x6), .second, .val (.long x8), .second, .val (.int ((x0 &&& (2147483647 : Int32)) % (3 : Int32))), .unset, .unset, .unset, .unset, .unset, .unset, .unset, .unset, .unset, .unset, .unset, .unset, .unset, .unset, .unset] [(.int (x1 &&& (32767 : Int32)))])) (fun _ k => XS.iand X0s.here hx rfl (hb hby at_12) rfl k) ?_
    refine own_stepW (T' := s₁) (g' := (mkF m 15 #[.val (.int x0), .val (.int x1), .val (.long x2), .second, .val (.long x4), .second, .val (.long x6), .second, .val (.long x8), .second, .val (.int ((x0 &&& (2147483647 : Int32)) % (3 : Int32))), .val (.int (x1 &&& (32767 : Int32))), .unset, .unset, .unset, .unset, .unset, .unset, .unset, .unset, .unset, .unset, .unset, .unset, .unset, .unset] [])) (fun _ k => XS.istore X0s.here hx rfl (hb hby at_13) rfl (l' := #[.val (.int x0), .val (.int x1), .val (.long x2), .second, .val (.long x4), .second, .val (.long x6), .second, .val (.long x8), .second, .val (.int ((x0 &&& (2147483647 : Int32)) % (3 : Int32))), .val (.int (x1 &&& (32767 : Int32))), .unset, .unset, .unset, .unset, .unset, .unset, .unset, .unset, .unset, .unset, .unset, .unset, .unset, .unset]) rfl k) ?_
    refine own_stepW (T' := s₁) (g' := (mkF m 16 #[.val (.int x0), .val (.int x1), .val (.long x2), .second, .val (.long x4), .second, .val (.long x6), .second, .val (.long x8), .second, .val (.int ((x0 &&& (2147483647 : Int32)) % (3 : Int32))), .val (.int (x1 &&& (32767 : Int32))), .unset, .unset, .unset, .unset, .unset, .unset, .unset, .unset, .unset, .unset, .unset, .unset, .unset, .unset] [(.int x1)])) (fun _ k => XS.iloadN X0s.here hx rfl (hb hby at_15) rfl k) ?_
    refine own_stepW (T' := s₁) (g' := (mkF m 18 #[.val (.int x0), .val (.int x1), .val (.long x2), .second, .val (.long x4), .second, .val (.long x6), .second, .val (.long x8), .second, .val (.int ((x0 &&& (2147483647 : Int32)) % (3 : Int32))), .val (.int (x1 &&& (32767 : Int32))), .unset, .unset, .unset, .unset, .unset, .unset, .unset, .unset, .unset, .unset, .unset, .unset, .unset, .unset] [(.int (16 : Int32)), (.int x1)])) (fun _ k => XS.bipush X0s.here hx rfl (hb hby at_16) k) ?_
    refine own_stepW (T' := s₁) (g' := (mkF m 19 #[.val (.int x0), .val (.int x1), .val (.long x2), .second, .val (.long x4), .second, .val (.long x6), .second, .val (.long x8), .second, .val (.int ((x0 &&& (2147483647 : Int32)) % (3 : Int32))), .val (.int (x1 &&& (32767 : Int32))), .unset, .unset, .unset, .unset, .unset, .unset, .unset, .unset, .unset, .unset, .unset, .unset, .unset, .unset] [(.int ((x1.toUInt32 >>> ((16 : Int32) &&& 31).toUInt32).toInt32))])) (fun _ k => XS.iushr X0s.here hx rfl (hb hby at_18) rfl k) ?_
    refine own_stepW (T' := s₁) (g' := (mkF m 22 #[.val (.int x0), .val (.int x1), .val (.long x2), .second, .val (.long x4), .second, .val (.long x6), .second, .val (.long x8), .second, .val (.int ((x0 &&& (2147483647 : Int32)) % (3 : Int32))), .val (.int (x1 &&& (32767 : Int32))), .unset, .unset, .unset, .unset, .unset, .unset, .unset, .unset, .unset, .unset, .unset, .unset, .unset, .unset] [(.int (32767 : Int32)), (.int ((x1.toUInt32 >>> ((16 : Int32) &&& 31).toUInt32).toInt32))])) (fun _ k => XS.sipush X0s.here hx rfl (hb hby at_19) k) ?_
    refine own_stepW (T' := s₁) (g' := (mkF m 23 #[.val (.int x0), .val (.int x1), .val (.long x2), .second, .val (.long x4), .second, .val (.long x6), .second, .val (.long x8), .second, .val (.int ((x0 &&& (2147483647 : Int32)) % (3 : Int32))), .val (.int (x1 &&& (32767 : Int32))), .unset, .unset, .unset, .unset, .unset, .unset, .unset, .unset, .unset, .unset, .unset, .unset, .unset, .unset] [(.int (((x1.toUInt32 >>> ((16 : Int32) &&& 31).toUInt32).toInt32) &&& (32767 : Int32)))])) (fun _ k => XS.iand X0s.here hx rfl (hb hby at_22) rfl k) ?_
    refine own_stepW (T' := s₁) (g' := (mkF m 25 #[.val (.int x0), .val (.int x1), .val (.long x2), .second, .val (.long x4), .second, .val (.long x6), .second, .val (.long x8), .second, .val (.int ((x0 &&& (2147483647 : Int32)) % (3 : Int32))), .val (.int (x1 &&& (32767 : Int32))), .val (.int (((x1.toUInt32 >>> ((16 : Int32) &&& 31).toUInt32).toInt32) &&& (32767 : Int32))), .unset, .unset, .unset, .unset, .unset, .unset, .unset, .unset, .unset, .unset, .unset, .unset, .unset] [])) (fun _ k => XS.istore X0s.here hx rfl (hb hby at_23) rfl (l' := #[.val (.int x0), .val (.int x1), .val (.long x2), .second, .val (.long x4), .second, .val (.long x6), .second, .val (.long x8), .second, .val (.int ((x0 &&& (2147483647 : Int32)) % (3 : Int32))), .val (.int (x1 &&& (32767 : Int32))), .val (.int (((x1.toUInt32 >>> ((16 : Int32) &&& 31).toUInt32).toInt32) &&& (32767 : Int32))), .unset, .unset, .unset, .unset, .unset, .unset, .unset, .unset, .unset, .unset, .unset, .unset, .unset]) rfl k) ?_
    refine own_stepW (T' := s₁) (g' := (mkF m 26 #[.val (.int x0), .val (.int x1), .val (.long x2), .second, .val (.long x4), .second, .val (.long x6), .second, .val (.long x8), .second, .val (.int ((x0 &&& (2147483647 : Int32)) % (3 : Int32))), .val (.int (x1 &&& (32767 : Int32))), .val (.int (((x1.toUInt32 >>> ((16 : Int32) &&& 31).toUInt32).toInt32) &&& (32767 : Int32))), .unset, .unset, .unset, .unset, .unset, .unset, .unset, .unset, .unset, .unset, .unset, .unset, .unset] [(.long x2)])) (fun _ k => XS.lloadN X0s.here hx rfl (hb hby at_25) rfl k) ?_
    refine own_stepW (T' := s₁) (g' := (mkF m 29 #[.val (.int x0), .val (.int x1), .val (.long x2), .second, .val (.long x4), .second, .val (.long x6), .second, .val (.long x8), .second, .val (.int ((x0 &&& (2147483647 : Int32)) % (3 : Int32))), .val (.int (x1 &&& (32767 : Int32))), .val (.int (((x1.toUInt32 >>> ((16 : Int32) &&& 31).toUInt32).toInt32) &&& (32767 : Int32))), .unset, .unset, .unset, .unset, .unset, .unset, .unset, .unset, .unset, .unset, .unset, .unset, .unset] [(.long (9223372036854775807 : Int64)), (.long x2)])) (fun _ k => X0s.ldc2Long hx howns (mvT hZs (hw _ (List.mem_of_getElem? (i := 1) rfl))) (g := (mkF m 26 #[.val (.int x0), .val (.int x1), .val (.long x2), .second, .val (.long x4), .second, .val (.long x6), .second, .val (.long x8), .second, .val (.int ((x0 &&& (2147483647 : Int32)) % (3 : Int32))), .val (.int (x1 &&& (32767 : Int32))), .val (.int (((x1.toUInt32 >>> ((16 : Int32) &&& 31).toUInt32).toInt32) &&& (32767 : Int32))), .unset, .unset, .unset, .unset, .unset, .unset, .unset, .unset, .unset, .unset, .unset, .unset, .unset] [(.long x2)])) rfl (hb hby at_26) _ k) ?_
    refine own_stepW (T' := s₁) (g' := (mkF m 30 #[.val (.int x0), .val (.int x1), .val (.long x2), .second, .val (.long x4), .second, .val (.long x6), .second, .val (.long x8), .second, .val (.int ((x0 &&& (2147483647 : Int32)) % (3 : Int32))), .val (.int (x1 &&& (32767 : Int32))), .val (.int (((x1.toUInt32 >>> ((16 : Int32) &&& 31).toUInt32).toInt32) &&& (32767 : Int32))), .unset, .unset, .unset, .unset, .unset, .unset, .unset, .unset, .unset, .unset, .unset, .unset, .unset] [(.long (x2 &&& (9223372036854775807 : Int64)))])) (fun _ k => XS.land X0s.here hx rfl (hb hby at_29) rfl k) ?_
    refine own_stepW (T' := s₁) (g' := (mkF m 33 #[.val (.int x0), .val (.int x1), .val (.long x2), .second, .val (.long x4), .second, .val (.long x6), .second, .val (.long x8), .second, .val (.int ((x0 &&& (2147483647 : Int32)) % (3 : Int32))), .val (.int (x1 &&& (32767 : Int32))), .val (.int (((x1.toUInt32 >>> ((16 : Int32) &&& 31).toUInt32).toInt32) &&& (32767 : Int32))), .unset, .unset, .unset, .unset, .unset, .unset, .unset, .unset, .unset, .unset, .unset, .unset, .unset] [(.long (9223372036854775807 : Int64)), (.long (x2 &&& (9223372036854775807 : Int64)))])) (fun _ k => X0s.ldc2Long hx howns (mvT hZs (hw _ (List.mem_of_getElem? (i := 1) rfl))) (g := (mkF m 30 #[.val (.int x0), .val (.int x1), .val (.long x2), .second, .val (.long x4), .second, .val (.long x6), .second, .val (.long x8), .second, .val (.int ((x0 &&& (2147483647 : Int32)) % (3 : Int32))), .val (.int (x1 &&& (32767 : Int32))), .val (.int (((x1.toUInt32 >>> ((16 : Int32) &&& 31).toUInt32).toInt32) &&& (32767 : Int32))), .unset, .unset, .unset, .unset, .unset, .unset, .unset, .unset, .unset, .unset, .unset, .unset, .unset] [(.long (x2 &&& (9223372036854775807 : Int64)))])) rfl (hb hby at_30) _ k) ?_
    refine own_stepW (T' := s₁) (g' := (mkF m 34 #[.val (.int x0), .val (.int x1), .val (.long x2), .second, .val (.long x4), .second, .val (.long x6), .second, .val (.long x8), .second, .val (.int ((x0 &&& (2147483647 : Int32)) % (3 : Int32))), .val (.int (x1 &&& (32767 : Int32))), .val (.int (((x1.toUInt32 >>> ((16 : Int32) &&& 31).toUInt32).toInt32) &&& (32767 : Int32))), .unset, .unset, .unset, .unset, .unset, .unset, .unset, .unset, .unset, .unset, .unset, .unset, .unset] [(.long ((x2 &&& (9223372036854775807 : Int64)) - ((x2 &&& (9223372036854775807 : Int64)) / (9223372036854775807 : Int64)) * (9223372036854775807 : Int64)))])) (fun _ k => XS.lrem X0s.here hx rfl (hb hby at_33) rfl (by decide) k) ?_
    refine own_stepW (T' := s₁) (g' := (mkF m 36 #[.val (.int x0), .val (.int x1), .val (.long x2), .second, .val (.long x4), .second, .val (.long x6), .second, .val (.long x8), .second, .val (.int ((x0 &&& (2147483647 : Int32)) % (3 : Int32))), .val (.int (x1 &&& (32767 : Int32))), .val (.int (((x1.toUInt32 >>> ((16 : Int32) &&& 31).toUInt32).toInt32) &&& (32767 : Int32))), .val (.long ((x2 &&& (9223372036854775807 : Int64)) - ((x2 &&& (9223372036854775807 : Int64)) / (9223372036854775807 : Int64)) * (9223372036854775807 : Int64))), .second, .unset, .unset, .unset, .unset, .unset, .unset, .unset, .unset, .unset, .unset, .unset] [])) (fun _ k => XS.lstore X0s.here hx rfl (hb hby at_34) rfl (l' := #[.val (.int x0), .val (.int x1), .val (.long x2), .second, .val (.long x4), .second, .val (.long x6), .second, .val (.long x8), .second, .val (.int ((x0 &&& (2147483647 : Int32)) % (3 : Int32))), .val (.int (x1 &&& (32767 : Int32))), .val (.int (((x1.toUInt32 >>> ((16 : Int32) &&& 31).toUInt32).toInt32) &&& (32767 : Int32))), .val (.long ((x2 &&& (9223372036854775807 : Int64)) - ((x2 &&& (9223372036854775807 : Int64)) / (9223372036854775807 : Int64)) * (9223372036854775807 : Int64))), .second, .unset, .unset, .unset, .unset, .unset, .unset, .unset, .unset, .unset, .unset, .unset]) rfl k) ?_
    refine own_stepW (T' := s₁) (g' := (mkF m 38 #[.val (.int x0), .val (.int x1), .val (.long x2), .second, .val (.long x4), .second, .val (.long x6), .second, .val (.long x8), .second, .val (.int ((x0 &&& (2147483647 : Int32)) % (3 : Int32))), .val (.int (x1 &&& (32767 : Int32))), .val (.int (((x1.toUInt32 >>> ((16 : Int32) &&& 31).toUInt32).toInt32) &&& (32767 : Int32))), .val (.long ((x2 &&& (9223372036854775807 : Int64)) - ((x2 &&& (9223372036854775807 : Int64)) / (9223372036854775807 : Int64)) * (9223372036854775807 : Int64))), .second, .unset, .unset, .unset, .unset, .unset, .unset, .unset, .unset, .unset, .unset, .unset] [(.long x4)])) (fun _ k => XS.lload X0s.here hx rfl (hb hby at_36) rfl k) ?_
    refine own_stepW (T' := s₁) (g' := (mkF m 41 #[.val (.int x0), .val (.int x1), .val (.long x2), .second, .val (.long x4), .second, .val (.long x6), .second, .val (.long x8), .second, .val (.int ((x0 &&& (2147483647 : Int32)) % (3 : Int32))), .val (.int (x1 &&& (32767 : Int32))), .val (.int (((x1.toUInt32 >>> ((16 : Int32) &&& 31).toUInt32).toInt32) &&& (32767 : Int32))), .val (.long ((x2 &&& (9223372036854775807 : Int64)) - ((x2 &&& (9223372036854775807 : Int64)) / (9223372036854775807 : Int64)) * (9223372036854775807 : Int64))), .second, .unset, .unset, .unset, .unset, .unset, .unset, .unset, .unset, .unset, .unset, .unset] [(.long (9223372036854775807 : Int64)), (.long x4)])) (fun _ k => X0s.ldc2Long hx howns (mvT hZs (hw _ (List.mem_of_getElem? (i := 1) rfl))) (g := (mkF m 38 #[.val (.int x0), .val (.int x1), .val (.long x2), .second, .val (.long x4), .second, .val (.long x6), .second, .val (.long x8), .second, .val (.int ((x0 &&& (2147483647 : Int32)) % (3 : Int32))), .val (.int (x1 &&& (32767 : Int32))), .val (.int (((x1.toUInt32 >>> ((16 : Int32) &&& 31).toUInt32).toInt32) &&& (32767 : Int32))), .val (.long ((x2 &&& (9223372036854775807 : Int64)) - ((x2 &&& (9223372036854775807 : Int64)) / (9223372036854775807 : Int64)) * (9223372036854775807 : Int64))), .second, .unset, .unset, .unset, .unset, .unset, .unset, .unset, .unset, .unset, .unset, .unset] [(.long x4)])) rfl (hb hby at_38) _ k) ?_
    refine own_stepW (T' := s₁) (g' := (mkF m 42 #[.val (.int x0), .val (.int x1), .val (.long x2), .second, .val (.long x4), .second, .val (.long x6), .second, .val (.long x8), .second, .val (.int ((x0 &&& (2147483647 : Int32)) % (3 : Int32))), .val (.int (x1 &&& (32767 : Int32))), .val (.int (((x1.toUInt32 >>> ((16 : Int32) &&& 31).toUInt32).toInt32) &&& (32767 : Int32))), .val (.long ((x2 &&& (9223372036854775807 : Int64)) - ((x2 &&& (9223372036854775807 : Int64)) / (9223372036854775807 : Int64)) * (9223372036854775807 : Int64))), .second, .unset, .unset, .unset, .unset, .unset, .unset, .unset, .unset, .unset, .unset, .unset] [(.long (x4 &&& (9223372036854775807 : Int64)))])) (fun _ k => XS.land X0s.here hx rfl (hb hby at_41) rfl k) ?_
    refine own_stepW (T' := s₁) (g' := (mkF m 45 #[.val (.int x0), .val (.int x1), .val (.long x2), .second, .val (.long x4), .second, .val (.long x6), .second, .val (.long x8), .second, .val (.int ((x0 &&& (2147483647 : Int32)) % (3 : Int32))), .val (.int (x1 &&& (32767 : Int32))), .val (.int (((x1.toUInt32 >>> ((16 : Int32) &&& 31).toUInt32).toInt32) &&& (32767 : Int32))), .val (.long ((x2 &&& (9223372036854775807 : Int64)) - ((x2 &&& (9223372036854775807 : Int64)) / (9223372036854775807 : Int64)) * (9223372036854775807 : Int64))), .second, .unset, .unset, .unset, .unset, .unset, .unset, .unset, .unset, .unset, .unset, .unset] [(.long (9223372036854775807 : Int64)), (.long (x4 &&& (9223372036854775807 : Int64)))])) (fun _ k => X0s.ldc2Long hx howns (mvT hZs (hw _ (List.mem_of_getElem? (i := 1) rfl))) (g := (mkF m 42 #[.val (.int x0), .val (.int x1), .val (.long x2), .second, .val (.long x4), .second, .val (.long x6), .second, .val (.long x8), .second, .val (.int ((x0 &&& (2147483647 : Int32)) % (3 : Int32))), .val (.int (x1 &&& (32767 : Int32))), .val (.int (((x1.toUInt32 >>> ((16 : Int32) &&& 31).toUInt32).toInt32) &&& (32767 : Int32))), .val (.long ((x2 &&& (9223372036854775807 : Int64)) - ((x2 &&& (9223372036854775807 : Int64)) / (9223372036854775807 : Int64)) * (9223372036854775807 : Int64))), .second, .unset, .unset, .unset, .unset, .unset, .unset, .unset, .unset, .unset, .unset, .unset] [(.long (x4 &&& (9223372036854775807 : Int64)))])) rfl (hb hby at_42) _ k) ?_
    refine own_stepW (T' := s₁) (g' := (mkF m 46 #[.val (.int x0), .val (.int x1), .val (.long x2), .second, .val (.long x4), .second, .val (.long x6), .second, .val (.long x8), .second, .val (.int ((x0 &&& (2147483647 : Int32)) % (3 : Int32))), .val (.int (x1 &&& (32767 : Int32))), .val (.int (((x1.toUInt32 >>> ((16 : Int32) &&& 31).toUInt32).toInt32) &&& (32767 : Int32))), .val (.long ((x2 &&& (9223372036854775807 : Int64)) - ((x2 &&& (9223372036854775807 : Int64)) / (9223372036854775807 : Int64)) * (9223372036854775807 : Int64))), .second, .unset, .unset, .unset, .unset, .unset, .unset, .unset, .unset, .unset, .unset, .unset] [(.long ((x4 &&& (9223372036854775807 : Int64)) - ((x4 &&& (9223372036854775807 : Int64)) / (9223372036854775807 : Int64)) * (9223372036854775807 : Int64)))])) (fun _ k => XS.lrem X0s.here hx rfl (hb hby at_45) rfl (by decide) k) ?_
    refine own_stepW (T' := s₁) (g' := (mkF m 48 #[.val (.int x0), .val (.int x1), .val (.long x2), .second, .val (.long x4), .second, .val (.long x6), .second, .val (.long x8), .second, .val (.int ((x0 &&& (2147483647 : Int32)) % (3 : Int32))), .val (.int (x1 &&& (32767 : Int32))), .val (.int (((x1.toUInt32 >>> ((16 : Int32) &&& 31).toUInt32).toInt32) &&& (32767 : Int32))), .val (.long ((x2 &&& (9223372036854775807 : Int64)) - ((x2 &&& (9223372036854775807 : Int64)) / (9223372036854775807 : Int64)) * (9223372036854775807 : Int64))), .second, .val (.long ((x4 &&& (9223372036854775807 : Int64)) - ((x4 &&& (9223372036854775807 : Int64)) / (9223372036854775807 : Int64)) * (9223372036854775807 : Int64))), .second, .unset, .unset, .unset, .unset, .unset, .unset, .unset, .unset, .unset] [])) (fun _ k => XS.lstore X0s.here hx rfl (hb hby at_46) rfl (l' := #[.val (.int x0), .val (.int x1), .val (.long x2), .second, .val (.long x4), .second, .val (.long x6), .second, .val (.long x8), .second, .val (.int ((x0 &&& (2147483647 : Int32)) % (3 : Int32))), .val (.int (x1 &&& (32767 : Int32))), .val (.int (((x1.toUInt32 >>> ((16 : Int32) &&& 31).toUInt32).toInt32) &&& (32767 : Int32))), .val (.long ((x2 &&& (9223372036854775807 : Int64)) - ((x2 &&& (9223372036854775807 : Int64)) / (9223372036854775807 : Int64)) * (9223372036854775807 : Int64))), .second, .val (.long ((x4 &&& (9223372036854775807 : Int64)) - ((x4 &&& (9223372036854775807 : Int64)) / (9223372036854775807 : Int64)) * (9223372036854775807 : Int64))), .second, .unset, .unset, .unset, .unset, .unset, .unset, .unset, .unset, .unset]) rfl k) ?_
    refine own_stepW (T' := s₁) (g' := (mkF m 49 #[.val (.int x0), .val (.int x1), .val (.long x2), .second, .val (.long x4), .second, .val (.long x6), .second, .val (.long x8), .second, .val (.int ((x0 &&& (2147483647 : Int32)) % (3 : Int32))), .val (.int (x1 &&& (32767 : Int32))), .val (.int (((x1.toUInt32 >>> ((16 : Int32) &&& 31).toUInt32).toInt32) &&& (32767 : Int32))), .val (.long ((x2 &&& (9223372036854775807 : Int64)) - ((x2 &&& (9223372036854775807 : Int64)) / (9223372036854775807 : Int64)) * (9223372036854775807 : Int64))), .second, .val (.long ((x4 &&& (9223372036854775807 : Int64)) - ((x4 &&& (9223372036854775807 : Int64)) / (9223372036854775807 : Int64)) * (9223372036854775807 : Int64))), .second, .unset, .unset, .unset, .unset, .unset, .unset, .unset, .unset, .unset] [(.long (1 : Int64))])) (fun _ k => XS.lconst X0s.here hx rfl (hb hby at_48) k) ?_
    refine own_stepW (T' := s₁) (g' := (mkF m 51 #[.val (.int x0), .val (.int x1), .val (.long x2), .second, .val (.long x4), .second, .val (.long x6), .second, .val (.long x8), .second, .val (.int ((x0 &&& (2147483647 : Int32)) % (3 : Int32))), .val (.int (x1 &&& (32767 : Int32))), .val (.int (((x1.toUInt32 >>> ((16 : Int32) &&& 31).toUInt32).toInt32) &&& (32767 : Int32))), .val (.long ((x2 &&& (9223372036854775807 : Int64)) - ((x2 &&& (9223372036854775807 : Int64)) / (9223372036854775807 : Int64)) * (9223372036854775807 : Int64))), .second, .val (.long ((x4 &&& (9223372036854775807 : Int64)) - ((x4 &&& (9223372036854775807 : Int64)) / (9223372036854775807 : Int64)) * (9223372036854775807 : Int64))), .second, .unset, .unset, .unset, .unset, .unset, .unset, .unset, .unset, .unset] [(.long x6), (.long (1 : Int64))])) (fun _ k => XS.lload X0s.here hx rfl (hb hby at_49) rfl k) ?_
    refine own_stepW (T' := s₁) (g' := (mkF m 54 #[.val (.int x0), .val (.int x1), .val (.long x2), .second, .val (.long x4), .second, .val (.long x6), .second, .val (.long x8), .second, .val (.int ((x0 &&& (2147483647 : Int32)) % (3 : Int32))), .val (.int (x1 &&& (32767 : Int32))), .val (.int (((x1.toUInt32 >>> ((16 : Int32) &&& 31).toUInt32).toInt32) &&& (32767 : Int32))), .val (.long ((x2 &&& (9223372036854775807 : Int64)) - ((x2 &&& (9223372036854775807 : Int64)) / (9223372036854775807 : Int64)) * (9223372036854775807 : Int64))), .second, .val (.long ((x4 &&& (9223372036854775807 : Int64)) - ((x4 &&& (9223372036854775807 : Int64)) / (9223372036854775807 : Int64)) * (9223372036854775807 : Int64))), .second, .unset, .unset, .unset, .unset, .unset, .unset, .unset, .unset, .unset] [(.long (9223372036854775807 : Int64)), (.long x6), (.long (1 : Int64))])) (fun _ k => X0s.ldc2Long hx howns (mvT hZs (hw _ (List.mem_of_getElem? (i := 1) rfl))) (g := (mkF m 51 #[.val (.int x0), .val (.int x1), .val (.long x2), .second, .val (.long x4), .second, .val (.long x6), .second, .val (.long x8), .second, .val (.int ((x0 &&& (2147483647 : Int32)) % (3 : Int32))), .val (.int (x1 &&& (32767 : Int32))), .val (.int (((x1.toUInt32 >>> ((16 : Int32) &&& 31).toUInt32).toInt32) &&& (32767 : Int32))), .val (.long ((x2 &&& (9223372036854775807 : Int64)) - ((x2 &&& (9223372036854775807 : Int64)) / (9223372036854775807 : Int64)) * (9223372036854775807 : Int64))), .second, .val (.long ((x4 &&& (9223372036854775807 : Int64)) - ((x4 &&& (9223372036854775807 : Int64)) / (9223372036854775807 : Int64)) * (9223372036854775807 : Int64))), .second, .unset, .unset, .unset, .unset, .unset, .unset, .unset, .unset, .unset] [(.long x6), (.long (1 : Int64))])) rfl (hb hby at_51) _ k) ?_
    refine own_stepW (T' := s₁) (g' := (mkF m 55 #[.val (.int x0), .val (.int x1), .val (.long x2), .second, .val (.long x4), .second, .val (.long x6), .second, .val (.long x8), .second, .val (.int ((x0 &&& (2147483647 : Int32)) % (3 : Int32))), .val (.int (x1 &&& (32767 : Int32))), .val (.int (((x1.toUInt32 >>> ((16 : Int32) &&& 31).toUInt32).toInt32) &&& (32767 : Int32))), .val (.long ((x2 &&& (9223372036854775807 : Int64)) - ((x2 &&& (9223372036854775807 : Int64)) / (9223372036854775807 : Int64)) * (9223372036854775807 : Int64))), .second, .val (.long ((x4 &&& (9223372036854775807 : Int64)) - ((x4 &&& (9223372036854775807 : Int64)) / (9223372036854775807 : Int64)) * (9223372036854775807 : Int64))), .second, .unset, .unset, .unset, .unset, .unset, .unset, .unset, .unset, .unset] [(.long (x6 &&& (9223372036854775807 : Int64))), (.long (1 : Int64))])) (fun _ k => XS.land X0s.here hx rfl (hb hby at_54) rfl k) ?_
    obtain ⟨_, _, ⟨T1, L1, k1, n1⟩, -, X1, ⟨Lc1, hQ1, l1, y1, z1⟩, st1⟩ := Jvm.LawKit.callS X0s hx (y := (⟨"java/lang/Math", "max", "(JJ)J"⟩ : MethodName)) howns (mvT hZs (hw _ (List.mem_of_getElem? (i := 2) rfl))) (mvT hZs (hw _ (List.mem_of_getElem? (i := 3) rfl))) (mvT hZs (hw _ (List.mem_of_getElem? (i := 4) rfl))) (mvT hZs (hw _ (List.mem_of_getElem? (i := 5) rfl))) (by decide) (backOf (W := 0) (rm1 l Z a0 hw [] (1 : Int64) (x6 &&& (9223372036854775807 : Int64)) h0 n0 Z0) hZs (hw _ (List.mem_of_getElem? (i := 5) rfl)) (hw _ (List.mem_of_getElem? (i := 4) rfl)) (by decide) (by decide)) (g := (mkF m 55 #[.val (.int x0), .val (.int x1), .val (.long x2), .second, .val (.long x4), .second, .val (.long x6), .second, .val (.long x8), .second, .val (.int ((x0 &&& (2147483647 : Int32)) % (3 : Int32))), .val (.int (x1 &&& (32767 : Int32))), .val (.int (((x1.toUInt32 >>> ((16 : Int32) &&& 31).toUInt32).toInt32) &&& (32767 : Int32))), .val (.long ((x2 &&& (9223372036854775807 : Int64)) - ((x2 &&& (9223372036854775807 : Int64)) / (9223372036854775807 : Int64)) * (9223372036854775807 : Int64))), .second, .val (.long ((x4 &&& (9223372036854775807 : Int64)) - ((x4 &&& (9223372036854775807 : Int64)) / (9223372036854775807 : Int64)) * (9223372036854775807 : Int64))), .second, .unset, .unset, .unset, .unset, .unset, .unset, .unset, .unset, .unset] [(.long (x6 &&& (9223372036854775807 : Int64))), (.long (1 : Int64))])) rfl (by rw [hml]; rfl) (argsL := [(.long (1 : Int64)), (.long (x6 &&& (9223372036854775807 : Int64)))]) (rest := []) (lenOf pd_5 rfl) rfl (by show 2 * 0 + _ ≤ _; exact Nat.le_of_eq rfl) (hb hby at_55) (fun _ _ => ⟨rfl, e00, (by decide : 0 + 0 ≤ _), (by decide : 0 + 0 ≤ _)⟩)
    dsimp only [Pt.U, Pt.locs, Pt.cells, Pt.slots] at X1 l1 y1 z1 st1 hQ1
    subst l1 y1 z1
    obtain ⟨rfl, N1q, e1⟩ := hQ1
    have N1 := Fr.app N00 N1q
    refine own_stepW (T' := T1) (g' := (mkF m 58 #[.val (.int x0), .val (.int x1), .val (.long x2), .second, .val (.long x4), .second, .val (.long x6), .second, .val (.long x8), .second, .val (.int ((x0 &&& (2147483647 : Int32)) % (3 : Int32))), .val (.int (x1 &&& (32767 : Int32))), .val (.int (((x1.toUInt32 >>> ((16 : Int32) &&& 31).toUInt32).toInt32) &&& (32767 : Int32))), .val (.long ((x2 &&& (9223372036854775807 : Int64)) - ((x2 &&& (9223372036854775807 : Int64)) / (9223372036854775807 : Int64)) * (9223372036854775807 : Int64))), .second, .val (.long ((x4 &&& (9223372036854775807 : Int64)) - ((x4 &&& (9223372036854775807 : Int64)) / (9223372036854775807 : Int64)) * (9223372036854775807 : Int64))), .second, .unset, .unset, .unset, .unset, .unset, .unset, .unset, .unset, .unset] [(.long (f1_0 (1 : Int64) (x6 &&& (9223372036854775807 : Int64))))])) (fun _ k => st1 _ k) ?_
    refine own_stepW (T' := T1) (g' := (mkF m 60 #[.val (.int x0), .val (.int x1), .val (.long x2), .second, .val (.long x4), .second, .val (.long x6), .second, .val (.long x8), .second, .val (.int ((x0 &&& (2147483647 : Int32)) % (3 : Int32))), .val (.int (x1 &&& (32767 : Int32))), .val (.int (((x1.toUInt32 >>> ((16 : Int32) &&& 31).toUInt32).toInt32) &&& (32767 : Int32))), .val (.long ((x2 &&& (9223372036854775807 : Int64)) - ((x2 &&& (9223372036854775807 : Int64)) / (9223372036854775807 : Int64)) * (9223372036854775807 : Int64))), .second, .val (.long ((x4 &&& (9223372036854775807 : Int64)) - ((x4 &&& (9223372036854775807 : Int64)) / (9223372036854775807 : Int64)) * (9223372036854775807 : Int64))), .second, .val (.long (f1_0 (1 : Int64) (x6 &&& (9223372036854775807 : Int64)))), .second, .unset, .unset, .unset, .unset, .unset, .unset, .unset] [])) (fun _ k => XS.lstore X1.here hx rfl (hb hby at_58) rfl (l' := #[.val (.int x0), .val (.int x1), .val (.long x2), .second, .val (.long x4), .second, .val (.long x6), .second, .val (.long x8), .second, .val (.int ((x0 &&& (2147483647 : Int32)) % (3 : Int32))), .val (.int (x1 &&& (32767 : Int32))), .val (.int (((x1.toUInt32 >>> ((16 : Int32) &&& 31).toUInt32).toInt32) &&& (32767 : Int32))), .val (.long ((x2 &&& (9223372036854775807 : Int64)) - ((x2 &&& (9223372036854775807 : Int64)) / (9223372036854775807 : Int64)) * (9223372036854775807 : Int64))), .second, .val (.long ((x4 &&& (9223372036854775807 : Int64)) - ((x4 &&& (9223372036854775807 : Int64)) / (9223372036854775807 : Int64)) * (9223372036854775807 : Int64))), .second, .val (.long (f1_0 (1 : Int64) (x6 &&& (9223372036854775807 : Int64)))), .second, .unset, .unset, .unset, .unset, .unset, .unset, .unset]) rfl k) ?_
    refine own_stepW (T' := T1) (g' := (mkF m 61 #[.val (.int x0), .val (.int x1), .val (.long x2), .second, .val (.long x4), .second, .val (.long x6), .second, .val (.long x8), .second, .val (.int ((x0 &&& (2147483647 : Int32)) % (3 : Int32))), .val (.int (x1 &&& (32767 : Int32))), .val (.int (((x1.toUInt32 >>> ((16 : Int32) &&& 31).toUInt32).toInt32) &&& (32767 : Int32))), .val (.long ((x2 &&& (9223372036854775807 : Int64)) - ((x2 &&& (9223372036854775807 : Int64)) / (9223372036854775807 : Int64)) * (9223372036854775807 : Int64))), .second, .val (.long ((x4 &&& (9223372036854775807 : Int64)) - ((x4 &&& (9223372036854775807 : Int64)) / (9223372036854775807 : Int64)) * (9223372036854775807 : Int64))), .second, .val (.long (f1_0 (1 : Int64) (x6 &&& (9223372036854775807 : Int64)))), .second, .unset, .unset, .unset, .unset, .unset, .unset, .unset] [(.long (1 : Int64))])) (fun _ k => XS.lconst X1.here hx rfl (hb hby at_60) k) ?_
    refine own_stepW (T' := T1) (g' := (mkF m 63 #[.val (.int x0), .val (.int x1), .val (.long x2), .second, .val (.long x4), .second, .val (.long x6), .second, .val (.long x8), .second, .val (.int ((x0 &&& (2147483647 : Int32)) % (3 : Int32))), .val (.int (x1 &&& (32767 : Int32))), .val (.int (((x1.toUInt32 >>> ((16 : Int32) &&& 31).toUInt32).toInt32) &&& (32767 : Int32))), .val (.long ((x2 &&& (9223372036854775807 : Int64)) - ((x2 &&& (9223372036854775807 : Int64)) / (9223372036854775807 : Int64)) * (9223372036854775807 : Int64))), .second, .val (.long ((x4 &&& (9223372036854775807 : Int64)) - ((x4 &&& (9223372036854775807 : Int64)) / (9223372036854775807 : Int64)) * (9223372036854775807 : Int64))), .second, .val (.long (f1_0 (1 : Int64) (x6 &&& (9223372036854775807 : Int64)))), .second, .unset, .unset, .unset, .unset, .unset, .unset, .unset] [(.long x8), (.long (1 : Int64))])) (fun _ k => XS.lload X1.here hx rfl (hb hby at_61) rfl k) ?_
    refine own_stepW (T' := T1) (g' := (mkF m 66 #[.val (.int x0), .val (.int x1), .val (.long x2), .second, .val (.long x4), .second, .val (.long x6), .second, .val (.long x8), .second, .val (.int ((x0 &&& (2147483647 : Int32)) % (3 : Int32))), .val (.int (x1 &&& (32767 : Int32))), .val (.int (((x1.toUInt32 >>> ((16 : Int32) &&& 31).toUInt32).toInt32) &&& (32767 : Int32))), .val (.long ((x2 &&& (9223372036854775807 : Int64)) - ((x2 &&& (9223372036854775807 : Int64)) / (9223372036854775807 : Int64)) * (9223372036854775807 : Int64))), .second, .val (.long ((x4 &&& (9223372036854775807 : Int64)) - ((x4 &&& (9223372036854775807 : Int64)) / (9223372036854775807 : Int64)) * (9223372036854775807 : Int64))), .second, .val (.long (f1_0 (1 : Int64) (x6 &&& (9223372036854775807 : Int64)))), .second, .unset, .unset, .unset, .unset, .unset, .unset, .unset] [(.long (9223372036854775807 : Int64)), (.long x8), (.long (1 : Int64))])) (fun _ k => X1.ldc2Long hx howns (mvT hZs (hw _ (List.mem_of_getElem? (i := 1) rfl))) (g := (mkF m 63 #[.val (.int x0), .val (.int x1), .val (.long x2), .second, .val (.long x4), .second, .val (.long x6), .second, .val (.long x8), .second, .val (.int ((x0 &&& (2147483647 : Int32)) % (3 : Int32))), .val (.int (x1 &&& (32767 : Int32))), .val (.int (((x1.toUInt32 >>> ((16 : Int32) &&& 31).toUInt32).toInt32) &&& (32767 : Int32))), .val (.long ((x2 &&& (9223372036854775807 : Int64)) - ((x2 &&& (9223372036854775807 : Int64)) / (9223372036854775807 : Int64)) * (9223372036854775807 : Int64))), .second, .val (.long ((x4 &&& (9223372036854775807 : Int64)) - ((x4 &&& (9223372036854775807 : Int64)) / (9223372036854775807 : Int64)) * (9223372036854775807 : Int64))), .second, .val (.long (f1_0 (1 : Int64) (x6 &&& (9223372036854775807 : Int64)))), .second, .unset, .unset, .unset, .unset, .unset, .unset, .unset] [(.long x8), (.long (1 : Int64))])) rfl (hb hby at_63) _ k) ?_
    refine own_stepW (T' := T1) (g' := (mkF m 67 #[.val (.int x0), .val (.int x1), .val (.long x2), .second, .val (.long x4), .second, .val (.long x6), .second, .val (.long x8), .second, .val (.int ((x0 &&& (2147483647 : Int32)) % (3 : Int32))), .val (.int (x1 &&& (32767 : Int32))), .val (.int (((x1.toUInt32 >>> ((16 : Int32) &&& 31).toUInt32).toInt32) &&& (32767 : Int32))), .val (.long ((x2 &&& (9223372036854775807 : Int64)) - ((x2 &&& (9223372036854775807 : Int64)) / (9223372036854775807 : Int64)) * (9223372036854775807 : Int64))), .second, .val (.long ((x4 &&& (9223372036854775807 : Int64)) - ((x4 &&& (9223372036854775807 : Int64)) / (9223372036854775807 : Int64)) * (9223372036854775807 : Int64))), .second, .val (.long (f1_0 (1 : Int64) (x6 &&& (9223372036854775807 : Int64)))), .second, .unset, .unset, .unset, .unset, .unset, .unset, .unset] [(.long (x8 &&& (9223372036854775807 : Int64))), (.long (1 : Int64))])) (fun _ k => XS.land X1.here hx rfl (hb hby at_66) rfl k) ?_
    obtain ⟨_, _, ⟨T2, L2, k2, n2⟩, -, X2, ⟨Lc2, hQ2, l2, y2, z2⟩, st2⟩ := Jvm.LawKit.callS X1 hx (y := (⟨"java/lang/Math", "max", "(JJ)J"⟩ : MethodName)) howns (mvT hZs (hw _ (List.mem_of_getElem? (i := 2) rfl))) (mvT hZs (hw _ (List.mem_of_getElem? (i := 3) rfl))) (mvT hZs (hw _ (List.mem_of_getElem? (i := 4) rfl))) (mvT hZs (hw _ (List.mem_of_getElem? (i := 5) rfl))) (by decide) (backOf (W := 0) (rm1 l Z a0 hw [] (1 : Int64) (x8 &&& (9223372036854775807 : Int64)) h0 n0 Z0) hZs (hw _ (List.mem_of_getElem? (i := 5) rfl)) (hw _ (List.mem_of_getElem? (i := 4) rfl)) (by decide) (by decide)) (g := (mkF m 67 #[.val (.int x0), .val (.int x1), .val (.long x2), .second, .val (.long x4), .second, .val (.long x6), .second, .val (.long x8), .second, .val (.int ((x0 &&& (2147483647 : Int32)) % (3 : Int32))), .val (.int (x1 &&& (32767 : Int32))), .val (.int (((x1.toUInt32 >>> ((16 : Int32) &&& 31).toUInt32).toInt32) &&& (32767 : Int32))), .val (.long ((x2 &&& (9223372036854775807 : Int64)) - ((x2 &&& (9223372036854775807 : Int64)) / (9223372036854775807 : Int64)) * (9223372036854775807 : Int64))), .second, .val (.long ((x4 &&& (9223372036854775807 : Int64)) - ((x4 &&& (9223372036854775807 : Int64)) / (9223372036854775807 : Int64)) * (9223372036854775807 : Int64))), .second, .val (.long (f1_0 (1 : Int64) (x6 &&& (9223372036854775807 : Int64)))), .second, .unset, .unset, .unset, .unset, .unset, .unset, .unset] [(.long (x8 &&& (9223372036854775807 : Int64))), (.long (1 : Int64))])) rfl (by rw [hml]; rfl) (argsL := [(.long (1 : Int64)), (.long (x8 &&& (9223372036854775807 : Int64)))]) (rest := []) (lenOf pd_5 rfl) rfl (by show 2 * 0 + _ ≤ _; exact Nat.le_of_eq rfl) (hb hby at_67) (fun _ _ => ⟨rfl, e1, (by decide : 0 + 0 ≤ _), (by decide : 0 + 0 ≤ _)⟩)
    dsimp only [Pt.U, Pt.locs, Pt.cells, Pt.slots] at X2 l2 y2 z2 st2 hQ2
    subst l2 y2 z2
    obtain ⟨rfl, N2q, e2⟩ := hQ2
    have N2 := Fr.app N1 N2q
    refine own_stepW (T' := T2) (g' := (mkF m 70 #[.val (.int x0), .val (.int x1), .val (.long x2), .second, .val (.long x4), .second, .val (.long x6), .second, .val (.long x8), .second, .val (.int ((x0 &&& (2147483647 : Int32)) % (3 : Int32))), .val (.int (x1 &&& (32767 : Int32))), .val (.int (((x1.toUInt32 >>> ((16 : Int32) &&& 31).toUInt32).toInt32) &&& (32767 : Int32))), .val (.long ((x2 &&& (9223372036854775807 : Int64)) - ((x2 &&& (9223372036854775807 : Int64)) / (9223372036854775807 : Int64)) * (9223372036854775807 : Int64))), .second, .val (.long ((x4 &&& (9223372036854775807 : Int64)) - ((x4 &&& (9223372036854775807 : Int64)) / (9223372036854775807 : Int64)) * (9223372036854775807 : Int64))), .second, .val (.long (f1_0 (1 : Int64) (x6 &&& (9223372036854775807 : Int64)))), .second, .unset, .unset, .unset, .unset, .unset, .unset, .unset] [(.long (f1_0 (1 : Int64) (x8 &&& (9223372036854775807 : Int64))))])) (fun _ k => st2 _ k) ?_
    refine own_stepW (T' := T2) (g' := (mkF m 72 #[.val (.int x0), .val (.int x1), .val (.long x2), .second, .val (.long x4), .second, .val (.long x6), .second, .val (.long x8), .second, .val (.int ((x0 &&& (2147483647 : Int32)) % (3 : Int32))), .val (.int (x1 &&& (32767 : Int32))), .val (.int (((x1.toUInt32 >>> ((16 : Int32) &&& 31).toUInt32).toInt32) &&& (32767 : Int32))), .val (.long ((x2 &&& (9223372036854775807 : Int64)) - ((x2 &&& (9223372036854775807 : Int64)) / (9223372036854775807 : Int64)) * (9223372036854775807 : Int64))), .second, .val (.long ((x4 &&& (9223372036854775807 : Int64)) - ((x4 &&& (9223372036854775807 : Int64)) / (9223372036854775807 : Int64)) * (9223372036854775807 : Int64))), .second, .val (.long (f1_0 (1 : Int64) (x6 &&& (9223372036854775807 : Int64)))), .second, .val (.long (f1_0 (1 : Int64) (x8 &&& (9223372036854775807 : Int64)))), .second, .unset, .unset, .unset, .unset, .unset] [])) (fun _ k => XS.lstore X2.here hx rfl (hb hby at_70) rfl (l' := #[.val (.int x0), .val (.int x1), .val (.long x2), .second, .val (.long x4), .second, .val (.long x6), .second, .val (.long x8), .second, .val (.int ((x0 &&& (2147483647 : Int32)) % (3 : Int32))), .val (.int (x1 &&& (32767 : Int32))), .val (.int (((x1.toUInt32 >>> ((16 : Int32) &&& 31).toUInt32).toInt32) &&& (32767 : Int32))), .val (.long ((x2 &&& (9223372036854775807 : Int64)) - ((x2 &&& (9223372036854775807 : Int64)) / (9223372036854775807 : Int64)) * (9223372036854775807 : Int64))), .second, .val (.long ((x4 &&& (9223372036854775807 : Int64)) - ((x4 &&& (9223372036854775807 : Int64)) / (9223372036854775807 : Int64)) * (9223372036854775807 : Int64))), .second, .val (.long (f1_0 (1 : Int64) (x6 &&& (9223372036854775807 : Int64)))), .second, .val (.long (f1_0 (1 : Int64) (x8 &&& (9223372036854775807 : Int64)))), .second, .unset, .unset, .unset, .unset, .unset]) rfl k) ?_
    rw [eN, eT, eG, eA, eB, eC, eD]
    have hN3 : uN = 0 ∨ uN = 1 ∨ uN = 2 := by omega
    rcases hN3 with rfl | rfl | rfl
    · exact own_road0 l Z a0 hw ws x0 x1 x2 x4 x6 x8 n0 Bd hml hZ ut ug ua ub uc ud hT hG hA hB hC hD T2 _ h0 Z0 X2 e2 N2
    · exact own_road1 l Z a0 hw ws x0 x1 x2 x4 x6 x8 n0 Bd hml hZ ut ug ua ub uc ud hT hG hA hB hC hD T2 _ h0 Z0 X2 e2 N2
    · exact own_road2 l Z a0 hw ws x0 x1 x2 x4 x6 x8 n0 Bd hml hZ ut ug ua ub uc ud hT hG hA hB hC hD T2 _ h0 Z0 X2 e2 N2
  obtain ⟨s₂, o, q1, q2, q3, v, L, q4, q5, q6⟩ := hB
  exact ⟨s₂, o, castTop (ef_0 m x0 x1 x2 x4 x6 x8) q1, q2, q3, v, L, q4, q5, q6⟩
set_option maxRecDepth 65536 in
set_option maxHeartbeats 40000000 in
theorem comes_1 {Post : Tables → Env → Array Value → State → Outcome → State → Prop} (hpost : ∀ tb e args s v u, (limb_1_1.after args s (.returned v) u = true ∧ limb_1_2.after args s (.returned v) u = true ∧ True) → ReturnedEndW s (.returned v) u (Jvm.fieldLocs frame_1_writes args s ++ Jvm.arrayLocs frame_1_arrays args s ++ Jvm.staticLocs frame_1_statics s) 32 1408 → Post tb e args s (.returned v) u) :
    ArmFor flags0 classFile x code maxLocals ret World_1 tables_1 room_1 Calls_1 rest_1 Pre_1 Post := by
  intro l hfl _ _ p e ha hc hk s m args below hf hA hF happ hP
  obtain ⟨hcalls, hrest, hpre⟩ := hP
  obtain ⟨-, -, -, hnamed, -, -, -, hat⟩ := (Spec.applies_iff hf).mp happ
  obtain ⟨hg, hn⟩ := and_e (Cond.before_iff.mp (show (Jvm.Cond.and given_1 narrow_1).before args s = true from hpre))
  obtain ⟨hcnt, g0⟩ := and_e hg
  obtain ⟨a0, g1⟩ := and_e g0
  obtain ⟨a1, g2⟩ := and_e g1
  obtain ⟨a2, g3⟩ := and_e g2
  obtain ⟨a3, g4⟩ := and_e g3
  obtain ⟨a4, g5⟩ := and_e g4
  obtain ⟨w0, w1, w2, w3, w4, w5, rfl⟩ : ∃ w0 w1 w2 w3 w4 w5 : Value, args = #[w0, w1, w2, w3, w4, w5] := by
    have hs : args.size = 6 := by simpa [Cond.value, given_1] using hcnt
    obtain ⟨L⟩ := args
    match L, hs with
    | [w0, w1, w2, w3, w4, w5], _ => exact ⟨w0, w1, w2, w3, w4, w5, rfl⟩
  have hw := fun d (hd : d ∈ tables_1) => atoms_spec (ws := Jvm.Cond.code x code maxLocals ret :: tables_1) hat d (List.mem_cons_of_mem _ hd)
  obtain ⟨i0, ei0⟩ := is_v a0
  obtain rfl : w0 = (.int i0) := Option.some.inj ei0
  obtain ⟨i1, ei1⟩ := is_v a1
  obtain rfl : w1 = (.int i1) := Option.some.inj ei1
  obtain ⟨i2, ei2⟩ := isL_v a2
  obtain rfl : w2 = (.long i2) := Option.some.inj ei2
  obtain ⟨i3, ei3⟩ := isL_v a3
  obtain rfl : w3 = (.long i3) := Option.some.inj ei3
  obtain ⟨i4, ei4⟩ := isL_v a4
  obtain rfl : w4 = (.long i4) := Option.some.inj ei4
  obtain ⟨i5, ei5⟩ := isL_v g5
  obtain rfl : w5 = (.long i5) := Option.some.inj ei5
  obtain ⟨n, o, h1, h2, h3, _, L, rfl, ⟨rfl, N⟩, hq⟩ := rm0 l s _ hw tables_1 i0 i1 i2 i3 i4 i5 s.heap s.heap.size (Nat.le_refl _) p e ha hc hk s m _ below hf ((Spec.applies_iff_loose hf).mp happ).1 ⟨rfl, State.Warmed39.refl s, rfl⟩ trivial
  refine ⟨n, _, h1, h2, h3, hpost _ _ _ _ _ _ ⟨Cond.after_iff.mpr rfl, Cond.after_iff.mpr (eq_i res_at (Term.int_eval (1)) rfl), trivial⟩ ⟨hq.1, hq.2.1, hq.2.2.1, (hq.2.2.2.sift fun y hy => Or.inr (N y hy)).mono (by decide) (by decide)⟩⟩
theorem main_1_1 : Claimed_1_1 := comes_1 fun _ _ _ _ _ _ h hF => ⟨h.1, hF⟩
theorem main_1_2 : Claimed_1_2 := comes_1 fun _ _ _ _ _ _ h hF => ⟨h.2.1, hF⟩
end Jvm.Pilot.@@N@@
namespace Jvm.Pilot.@@N@@
open Jvm Jvm.ClassFile Sem Op Lib Jvm.Free Jvm.Stand Jvm.Pilot.@@N@@.Jvm.D
/-! MADE BY PROGRAM (witnessworld.py) out of the Statement's table words and the real class files: 20 classes; the members and pool entries that the words name. The judged class is class 1, her method 1. -/
namespace start1
open Jvm.ClassFile
def u (s : String) : CpInfo := .utf8 (stringToUtf16 s)
/-- a pool by its gaps: so many unusable entries, then the entry; so many at the end -/
def gap : Nat → List CpInfo → List CpInfo
  | 0, r => r
  | n + 1, r => .unusable :: gap n r
def poolList (es : List (Nat × CpInfo)) (last : Nat) : List CpInfo := es.foldr (fun e r => gap e.1 (e.2 :: r)) (gap last [])
def pool (es : List (Nat × CpInfo)) (last : Nat) : Array CpInfo := ⟨poolList es last⟩
def fileOf (pool : Array CpInfo) (this : Nat) (attrs : Array Attribute := #[]) (ms : Array MethodInfo := #[]) (fl : Nat := 33) (sup : Nat := 0) (ifs : Array Nat := #[]) (fds : Array FieldInfo := #[]) : ClassFile where
  minorVersion := 0
  majorVersion := 65
  constantPool := pool
  accessFlags := fl
  thisClass := this
  superClass := sup
  interfaces := ifs
  fields := fds
  methods := ms
  attributes := attrs
def plain (name : String) (sup : Option ClassId) : Class where
  name := name
  kind := .ordinary
  loader := none
  accessFlags := 33
  super := sup
  interfaces := #[]
  cf := none
  fields := #[]
  methods := #[]
  instanceTypes := #[]
  staticTypes := #[]
  resolved := #[]
  callSites := []
  init := .initialized
  statics := none
  mirror := none

def pool0 : Array CpInfo := pool [(5, u "<init>"), (0, u "()V"), (1, .class_ 10), (1, u "java/lang/Object")] 113

def k0c0 : Code := { maxStack := 0, maxLocals := 1, code := object_method_1_code, exceptionTable := #[], attributes := #[] }
def k0m0 : Method := { name := "<init>", desc := "()V", sig := { parameters := [], returnType := none }, accessFlags := 1, code := some k0c0 }
/-- java/lang/Object -/
def k0 : Class := { plain "java/lang/Object" none with
  accessFlags := 33
  interfaces := #[]
  cf := some (fileOf pool0 8 #[] #[{ accessFlags := 1, nameIndex := 5, descriptorIndex := 6, attributes := #[] }] 33 0 #[] #[])
  fields := #[]
  methods := #[k0m0]
  instanceTypes := #[]
  staticTypes := #[]
  resolved := Array.replicate 124 none
  statics := none }

def pool1 : Array CpInfo := pool [(2, .class_ 4), (0, .nameAndType 5 6), (0, u "java/lang/Object"), (0, u "<init>"), (0, u "()V"), (0, .integer 2147483647), (2, .long 9223372036854775807), (1, .methodref 13 14), (0, .class_ 15), (0, .nameAndType 16 17), (0, u "java/lang/Math"), (0, u "max"), (0, u "(JJ)J"), (0, .class_ 19), (0, u "com/example/impatiens/impatiens/statespace/StateWriter"), (0, .methodref 18 3), (0, .methodref 18 22), (0, .nameAndType 23 24), (0, u "writeLong"), (0, u "(J)V"), (0, .class_ 26), (0, u "com/example/impatiens/impatiens/statespace/StateReader"), (0, .methodref 18 28), (0, .nameAndType 29 30), (0, u "buffer"), (0, u "()[B"), (0, .methodref 25 32), (0, .nameAndType 5 33), (0, u "([B)V"), (0, .methodref 35 36), (0, .class_ 37), (0, .nameAndType 38 39), (0, u "com/example/impatiens/impatiens/itpn/Instances"), (0, u "read"), (0, u "(Lcom/example/impatiens/impatiens/statespace/StateReader;)Lcom/example/impatiens/impatiens/itpn/Instances;"), (0, .methodref 35 41), (0, .nameAndType 42 6), (0, u "tick"), (0, .methodref 35 44), (0, .nameAndType 45 46), (0, u "write"), (0, u "(Lcom/example/impatiens/impatiens/statespace/StateWriter;)V"), (0, .methodref 25 48), (0, .nameAndType 49 50), (0, u "readLong"), (0, u "()J"), (0, .methodref 25 52), (0, .nameAndType 53 54), (0, u "position"), (0, u "()I"), (0, .methodref 18 56), (0, .nameAndType 57 54), (0, u "length"), (0, .class_ 59), (0, u "com/example/impatiens/impatiens/itpn/InstancesTickPinLaw"), (2, u "law"), (0, u "(IIJJJJ)Z")] 3

def k1m0 : Method := { name := "<init>", desc := "()V", sig := { parameters := [], returnType := none }, accessFlags := 1, code := none }
def k1c1 : Code := { maxStack := 6, maxLocals := 26, code := code, exceptionTable := #[], attributes := #[] }
def k1m1 : Method := { name := "law", desc := "(IIJJJJ)Z", sig := { parameters := [.int, .int, .long, .long, .long, .long], returnType := some .boolean }, accessFlags := 9, code := some k1c1 }
/-- com/example/impatiens/impatiens/itpn/InstancesTickPinLaw -/
def k1 : Class := { plain "com/example/impatiens/impatiens/itpn/InstancesTickPinLaw" (some 0) with
  accessFlags := 49
  interfaces := #[]
  cf := some (fileOf pool1 58 #[] #[{ accessFlags := 1, nameIndex := 5, descriptorIndex := 6, attributes := #[] }, { accessFlags := 9, nameIndex := 62, descriptorIndex := 63, attributes := #[] }] 49 2 #[] #[])
  fields := #[]
  methods := #[k1m0, k1m1]
  instanceTypes := #[]
  staticTypes := #[]
  resolved := Array.replicate 67 none
  statics := none }

def pool2 : Array CpInfo := pool [(1, .class_ 2), (0, u "java/lang/Math"), (1, .class_ 6), (1, u "java/lang/Object"), (0, u "<init>"), (0, u "()V"), (89, .class_ 100), (1, u "java/lang/Math$RandomNumberGeneratorHolder"), (20, u "(JJ)J"), (50, u "negativeZeroFloatBits"), (0, u "J"), (2, u "negativeZeroDoubleBits"), (21, u "max"), (46, u "$assertionsDisabled"), (0, u "Z"), (91, u "twoToTheDoubleScaleDown"), (0, u "D"), (4, u "twoToTheDoubleScaleUp"), (9, u "E"), (3, u "PI"), (2, u "TAU"), (2, u "DEGREES_TO_RADIANS"), (0, u "RADIANS_TO_DEGREES"), (39, u "toIntExact"), (0, u "(J)I")] 53

def k2m0 : Method := { name := "<init>", desc := "()V", sig := { parameters := [], returnType := none }, accessFlags := 2, code := none }
def k2c1 : Code := { maxStack := 4, maxLocals := 2, code := jdk_29_method_43_code, exceptionTable := #[], attributes := #[] }
def k2m1 : Method := { name := "toIntExact", desc := "(J)I", sig := { parameters := [.long], returnType := some .int }, accessFlags := 9, code := some k2c1 }
def k2c2 : Code := { maxStack := 4, maxLocals := 4, code := jdk_29_method_66_code, exceptionTable := #[], attributes := #[] }
def k2m2 : Method := { name := "max", desc := "(JJ)J", sig := { parameters := [.long, .long], returnType := some .long }, accessFlags := 9, code := some k2c2 }
/-- java/lang/Math -/
def k2 : Class := { plain "java/lang/Math" (some 0) with
  accessFlags := 49
  interfaces := #[]
  cf := some (fileOf pool2 1 #[.nestMembers #[98]] #[{ accessFlags := 2, nameIndex := 7, descriptorIndex := 8, attributes := #[] }, { accessFlags := 9, nameIndex := 405, descriptorIndex := 406, attributes := #[] }, { accessFlags := 9, nameIndex := 198, descriptorIndex := 121, attributes := #[] }] 49 4 #[] #[{ accessFlags := 25, nameIndex := 354, descriptorIndex := 339, attributes := #[] }, { accessFlags := 25, nameIndex := 358, descriptorIndex := 339, attributes := #[] }, { accessFlags := 25, nameIndex := 361, descriptorIndex := 339, attributes := #[] }, { accessFlags := 26, nameIndex := 364, descriptorIndex := 339, attributes := #[] }, { accessFlags := 26, nameIndex := 365, descriptorIndex := 339, attributes := #[] }, { accessFlags := 26, nameIndex := 172, descriptorIndex := 173, attributes := #[] }, { accessFlags := 26, nameIndex := 176, descriptorIndex := 173, attributes := #[] }, { accessFlags := 8, nameIndex := 344, descriptorIndex := 339, attributes := #[] }, { accessFlags := 8, nameIndex := 338, descriptorIndex := 339, attributes := #[] }, { accessFlags := 4120, nameIndex := 245, descriptorIndex := 246, attributes := #[] }])
  fields := #[{ name := "E", type := .double, accessFlags := 25, slot := 0, constantValue := 0 }, { name := "PI", type := .double, accessFlags := 25, slot := 1, constantValue := 0 }, { name := "TAU", type := .double, accessFlags := 25, slot := 2, constantValue := 0 }, { name := "DEGREES_TO_RADIANS", type := .double, accessFlags := 26, slot := 3, constantValue := 0 }, { name := "RADIANS_TO_DEGREES", type := .double, accessFlags := 26, slot := 4, constantValue := 0 }, { name := "negativeZeroFloatBits", type := .long, accessFlags := 26, slot := 5, constantValue := 0 }, { name := "negativeZeroDoubleBits", type := .long, accessFlags := 26, slot := 6, constantValue := 0 }, { name := "twoToTheDoubleScaleUp", type := .double, accessFlags := 8, slot := 7, constantValue := 0 }, { name := "twoToTheDoubleScaleDown", type := .double, accessFlags := 8, slot := 8, constantValue := 0 }, { name := "$assertionsDisabled", type := .boolean, accessFlags := 4120, slot := 9, constantValue := 0 }]
  methods := #[k2m0, k2m1, k2m2]
  instanceTypes := #[]
  staticTypes := #[.double, .double, .double, .double, .double, .long, .long, .double, .double, .boolean]
  resolved := Array.replicate 460 none
  statics := none }

def pool3 : Array CpInfo := pool [(1, .methodref 2 3), (0, .class_ 4), (0, .nameAndType 5 6), (0, u "java/lang/Object"), (0, u "<init>"), (0, u "()V"), (0, .fieldref 8 9), (0, .class_ 10), (0, .nameAndType 11 12), (0, u "com/example/impatiens/impatiens/statespace/StateWriter"), (0, u "bytes"), (0, u "[B"), (0, .fieldref 8 14), (0, .nameAndType 15 16), (0, u "length"), (0, u "I"), (24, .long 128), (1, .long 127), (3, u "writeLong"), (0, u "(J)V"), (2, u "buffer"), (0, u "()[B"), (0, u "()I")] 27

def k3c0 : Code := { maxStack := 2, maxLocals := 1, code := prog_77_method_1_code, exceptionTable := #[], attributes := #[] }
def k3m0 : Method := { name := "<init>", desc := "()V", sig := { parameters := [], returnType := none }, accessFlags := 1, code := some k3c0 }
def k3c1 : Code := { maxStack := 1, maxLocals := 1, code := prog_77_method_2_code, exceptionTable := #[], attributes := #[] }
def k3m1 : Method := { name := "buffer", desc := "()[B", sig := { parameters := [], returnType := some (.array .byte) }, accessFlags := 1, code := some k3c1 }
def k3c2 : Code := { maxStack := 1, maxLocals := 1, code := prog_77_method_3_code, exceptionTable := #[], attributes := #[] }
def k3m2 : Method := { name := "length", desc := "()I", sig := { parameters := [], returnType := some .int }, accessFlags := 1, code := some k3c2 }
def k3c3 : Code := { maxStack := 6, maxLocals := 5, code := prog_77_method_6_code, exceptionTable := #[], attributes := #[] }
def k3m3 : Method := { name := "writeLong", desc := "(J)V", sig := { parameters := [.long], returnType := none }, accessFlags := 1, code := some k3c3 }
/-- com/example/impatiens/impatiens/statespace/StateWriter -/
def k3 : Class := { plain "com/example/impatiens/impatiens/statespace/StateWriter" (some 0) with
  accessFlags := 33
  interfaces := #[]
  cf := some (fileOf pool3 8 #[] #[{ accessFlags := 1, nameIndex := 5, descriptorIndex := 6, attributes := #[] }, { accessFlags := 1, nameIndex := 51, descriptorIndex := 52, attributes := #[] }, { accessFlags := 1, nameIndex := 15, descriptorIndex := 53, attributes := #[] }, { accessFlags := 1, nameIndex := 47, descriptorIndex := 48, attributes := #[] }] 33 2 #[] #[{ accessFlags := 2, nameIndex := 11, descriptorIndex := 12, attributes := #[] }, { accessFlags := 2, nameIndex := 15, descriptorIndex := 16, attributes := #[] }])
  fields := #[{ name := "bytes", type := (.array .byte), accessFlags := 2, slot := 0, constantValue := 0 }, { name := "length", type := .int, accessFlags := 2, slot := 1, constantValue := 0 }]
  methods := #[k3m0, k3m1, k3m2, k3m3]
  instanceTypes := #[(.array .byte), .int]
  staticTypes := #[]
  resolved := Array.replicate 81 none
  statics := none }

def pool4 : Array CpInfo := pool [(1, .methodref 2 3), (0, .class_ 4), (0, .nameAndType 5 6), (0, u "java/lang/Object"), (0, u "<init>"), (0, u "()V"), (0, .string 8), (0, u "bytes must not be null"), (0, .methodref 10 11), (0, .class_ 12), (0, .nameAndType 13 14), (0, u "java/util/Objects"), (0, u "requireNonNull"), (0, u "(Ljava/lang/Object;Ljava/lang/String;)Ljava/lang/Object;"), (0, .class_ 16), (0, u "[B"), (0, .fieldref 18 19), (0, .class_ 20), (0, .nameAndType 21 16), (0, u "com/example/impatiens/impatiens/statespace/StateReader"), (0, u "bytes"), (0, .fieldref 18 23), (0, .nameAndType 24 25), (0, u "position"), (0, u "I"), (15, u "readLong"), (0, u "()J"), (6, u "([B)V"), (2, u "()I")] 20

def k4c0 : Code := { maxStack := 3, maxLocals := 2, code := prog_75_method_1_code, exceptionTable := #[], attributes := #[] }
def k4m0 : Method := { name := "<init>", desc := "([B)V", sig := { parameters := [(.array .byte)], returnType := none }, accessFlags := 1, code := some k4c0 }
def k4c1 : Code := { maxStack := 1, maxLocals := 1, code := prog_75_method_2_code, exceptionTable := #[], attributes := #[] }
def k4m1 : Method := { name := "position", desc := "()I", sig := { parameters := [], returnType := some .int }, accessFlags := 1, code := some k4c1 }
def k4c2 : Code := { maxStack := 5, maxLocals := 5, code := prog_75_method_3_code, exceptionTable := #[], attributes := #[] }
def k4m2 : Method := { name := "readLong", desc := "()J", sig := { parameters := [], returnType := some .long }, accessFlags := 1, code := some k4c2 }
/-- com/example/impatiens/impatiens/statespace/StateReader -/
def k4 : Class := { plain "com/example/impatiens/impatiens/statespace/StateReader" (some 0) with
  accessFlags := 33
  interfaces := #[]
  cf := some (fileOf pool4 18 #[] #[{ accessFlags := 1, nameIndex := 5, descriptorIndex := 49, attributes := #[] }, { accessFlags := 1, nameIndex := 24, descriptorIndex := 52, attributes := #[] }, { accessFlags := 1, nameIndex := 41, descriptorIndex := 42, attributes := #[] }] 33 2 #[] #[{ accessFlags := 18, nameIndex := 21, descriptorIndex := 16, attributes := #[] }, { accessFlags := 2, nameIndex := 24, descriptorIndex := 25, attributes := #[] }])
  fields := #[{ name := "bytes", type := (.array .byte), accessFlags := 18, slot := 0, constantValue := 0 }, { name := "position", type := .int, accessFlags := 2, slot := 1, constantValue := 0 }]
  methods := #[k4m0, k4m1, k4m2]
  instanceTypes := #[(.array .byte), .int]
  staticTypes := #[]
  resolved := Array.replicate 73 none
  statics := none }

def pool5 : Array CpInfo := pool [(1, .class_ 2), (0, u "java/io/Serializable"), (0, .class_ 4), (0, u "java/lang/Object")] 2

/-- java/io/Serializable -/
def k5 : Class := { plain "java/io/Serializable" (some 0) with
  accessFlags := 1537
  interfaces := #[]
  cf := some (fileOf pool5 1 #[] #[] 1537 3 #[] #[])
  fields := #[]
  methods := #[]
  instanceTypes := #[]
  staticTypes := #[]
  resolved := Array.replicate 7 none
  statics := none }

def pool6 : Array CpInfo := pool [(1, .class_ 2), (0, u "java/lang/Comparable"), (0, .class_ 4), (0, u "java/lang/Object")] 7

/-- java/lang/Comparable -/
def k6 : Class := { plain "java/lang/Comparable" (some 0) with
  accessFlags := 1537
  interfaces := #[]
  cf := some (fileOf pool6 1 #[] #[] 1537 3 #[] #[])
  fields := #[]
  methods := #[]
  instanceTypes := #[]
  staticTypes := #[]
  resolved := Array.replicate 12 none
  statics := none }

def pool7 : Array CpInfo := pool [(2, .class_ 4), (1, u "java/lang/CharSequence"), (42, .class_ 48), (0, u "java/lang/CharSequence$1CodePointIterator"), (10, .class_ 60), (0, u "java/lang/CharSequence$1CharIterator"), (5, .class_ 67), (0, u "java/lang/Object")] 63

/-- java/lang/CharSequence -/
def k7 : Class := { plain "java/lang/CharSequence" (some 0) with
  accessFlags := 1537
  interfaces := #[]
  cf := some (fileOf pool7 2 #[.nestMembers #[47, 59]] #[] 1537 66 #[] #[])
  fields := #[]
  methods := #[]
  instanceTypes := #[]
  staticTypes := #[]
  resolved := Array.replicate 131 none
  statics := none }

def pool8 : Array CpInfo := pool [(1, .class_ 2), (0, u "java/lang/constant/Constable"), (0, .class_ 4), (0, u "java/lang/Object")] 6

/-- java/lang/constant/Constable -/
def k8 : Class := { plain "java/lang/constant/Constable" (some 0) with
  accessFlags := 1537
  interfaces := #[]
  cf := some (fileOf pool8 1 #[] #[] 1537 3 #[] #[])
  fields := #[]
  methods := #[]
  instanceTypes := #[]
  staticTypes := #[]
  resolved := Array.replicate 11 none
  statics := none }

def pool9 : Array CpInfo := pool [(1, .class_ 2), (0, u "java/lang/constant/ConstantDesc"), (0, .class_ 4), (0, u "java/lang/Object")] 32

/-- java/lang/constant/ConstantDesc -/
def k9 : Class := { plain "java/lang/constant/ConstantDesc" (some 0) with
  accessFlags := 1537
  interfaces := #[]
  cf := some (fileOf pool9 1 #[] #[] 1537 3 #[] #[])
  fields := #[]
  methods := #[]
  instanceTypes := #[]
  staticTypes := #[]
  resolved := Array.replicate 37 none
  statics := none }

def pool10 : Array CpInfo := pool [(2, .class_ 4), (1, u "java/lang/Object"), (0, u "<init>"), (0, u "()V"), (3, .class_ 12), (1, u "java/lang/String"), (0, u "value"), (0, u "[B"), (2, u "coder"), (0, u "B"), (2, u "hash"), (0, u "I"), (2, u "hashIsZero"), (0, u "Z"), (13, u "COMPACT_STRINGS"), (534, .class_ 576), (0, u "java/lang/CharSequence"), (22, u "CASE_INSENSITIVE_ORDER"), (0, u "Ljava/util/Comparator;"), (500, u "serialPersistentFields"), (0, u "[Ljava/io/ObjectStreamField;"), (0, .class_ 1104), (0, u "java/lang/String$CaseInsensitiveComparator"), (1, .class_ 1107), (0, u "java/io/Serializable"), (0, .class_ 1109), (0, u "java/lang/Comparable"), (0, .class_ 1111), (0, u "java/lang/constant/Constable"), (0, .class_ 1113), (0, u "java/lang/constant/ConstantDesc"), (2, u "serialVersionUID"), (0, u "J"), (3, u "REPL"), (0, u "C"), (2, u "LATIN1"), (1, u "UTF16")] 323

def k10m0 : Method := { name := "<init>", desc := "()V", sig := { parameters := [], returnType := none }, accessFlags := 1, code := none }
/-- java/lang/String -/
def k10 : Class := { plain "java/lang/String" (some 0) with
  accessFlags := 49
  interfaces := #[5, 6, 7, 8, 9]
  cf := some (fileOf pool10 10 #[.nestMembers #[1103]] #[{ accessFlags := 1, nameIndex := 5, descriptorIndex := 6, attributes := #[] }] 49 2 #[1106, 1108, 575, 1110, 1112] #[{ accessFlags := 18, nameIndex := 13, descriptorIndex := 14, attributes := #[] }, { accessFlags := 18, nameIndex := 17, descriptorIndex := 18, attributes := #[] }, { accessFlags := 2, nameIndex := 21, descriptorIndex := 22, attributes := #[] }, { accessFlags := 2, nameIndex := 25, descriptorIndex := 26, attributes := #[] }, { accessFlags := 26, nameIndex := 1116, descriptorIndex := 1117, attributes := #[] }, { accessFlags := 24, nameIndex := 40, descriptorIndex := 26, attributes := #[] }, { accessFlags := 26, nameIndex := 1101, descriptorIndex := 1102, attributes := #[] }, { accessFlags := 26, nameIndex := 1121, descriptorIndex := 1122, attributes := #[] }, { accessFlags := 25, nameIndex := 599, descriptorIndex := 600, attributes := #[] }, { accessFlags := 24, nameIndex := 1125, descriptorIndex := 18, attributes := #[] }, { accessFlags := 24, nameIndex := 1127, descriptorIndex := 18, attributes := #[] }])
  fields := #[{ name := "value", type := (.array .byte), accessFlags := 18, slot := 0, constantValue := 0 }, { name := "coder", type := .byte, accessFlags := 18, slot := 1, constantValue := 0 }, { name := "hash", type := .int, accessFlags := 2, slot := 2, constantValue := 0 }, { name := "hashIsZero", type := .boolean, accessFlags := 2, slot := 3, constantValue := 0 }, { name := "serialVersionUID", type := .long, accessFlags := 26, slot := 0, constantValue := 0 }, { name := "COMPACT_STRINGS", type := .boolean, accessFlags := 24, slot := 1, constantValue := 0 }, { name := "serialPersistentFields", type := (.array (.object "java/io/ObjectStreamField")), accessFlags := 26, slot := 2, constantValue := 0 }, { name := "REPL", type := .char, accessFlags := 26, slot := 3, constantValue := 0 }, { name := "CASE_INSENSITIVE_ORDER", type := (.object "java/util/Comparator"), accessFlags := 25, slot := 4, constantValue := 0 }, { name := "LATIN1", type := .byte, accessFlags := 24, slot := 5, constantValue := 0 }, { name := "UTF16", type := .byte, accessFlags := 24, slot := 6, constantValue := 0 }]
  methods := #[k10m0]
  instanceTypes := #[(.array .byte), .byte, .int, .boolean]
  staticTypes := #[.long, .boolean, (.array (.object "java/io/ObjectStreamField")), .char, (.object "java/util/Comparator"), .byte, .byte]
  resolved := Array.replicate 1451 none
  statics := none }

def pool11 : Array CpInfo := pool [(2, .class_ 4), (1, u "java/lang/Object"), (0, u "<init>"), (0, u "()V"), (35, .class_ 44), (1, u "java/util/Objects"), (0, u "requireNonNull"), (48, u "(Ljava/lang/Object;Ljava/lang/String;)Ljava/lang/Object;")] 89

def k11m0 : Method := { name := "<init>", desc := "()V", sig := { parameters := [], returnType := none }, accessFlags := 2, code := none }
def k11c1 : Code := { maxStack := 3, maxLocals := 2, code := jdk_31_method_11_code, exceptionTable := #[], attributes := #[] }
def k11m1 : Method := { name := "requireNonNull", desc := "(Ljava/lang/Object;Ljava/lang/String;)Ljava/lang/Object;", sig := { parameters := [(.object "java/lang/Object"), (.object "java/lang/String")], returnType := some (.object "java/lang/Object") }, accessFlags := 9, code := some k11c1 }
/-- java/util/Objects -/
def k11 : Class := { plain "java/util/Objects" (some 0) with
  accessFlags := 49
  interfaces := #[]
  cf := some (fileOf pool11 42 #[] #[{ accessFlags := 2, nameIndex := 5, descriptorIndex := 6, attributes := #[] }, { accessFlags := 9, nameIndex := 45, descriptorIndex := 94, attributes := #[] }] 49 2 #[] #[])
  fields := #[]
  methods := #[k11m0, k11m1]
  instanceTypes := #[]
  staticTypes := #[]
  resolved := Array.replicate 184 none
  statics := none }

def pool12 : Array CpInfo := pool [(1, .methodref 2 3), (0, .class_ 4), (0, .nameAndType 5 6), (0, u "com/example/impatiens/impatiens/itpn/Instances"), (0, u "<init>"), (0, u "([I[J[JI)V"), (0, .methodref 8 9), (0, .class_ 10), (0, .nameAndType 5 11), (0, u "java/lang/Object"), (0, u "()V"), (0, .fieldref 2 13), (0, .nameAndType 14 15), (0, u "transitions"), (0, u "[I"), (0, .fieldref 2 17), (0, .nameAndType 18 19), (0, u "ages"), (0, u "[J"), (0, .fieldref 2 21), (0, .nameAndType 22 19), (0, u "counts"), (0, .fieldref 2 24), (0, .nameAndType 25 26), (0, u "size"), (0, u "I"), (0, .methodref 28 29), (0, .class_ 30), (0, .nameAndType 31 32), (0, u "com/example/impatiens/impatiens/statespace/StateReader"), (0, u "readLong"), (0, u "()J"), (0, .methodref 34 35), (0, .class_ 36), (0, .nameAndType 37 38), (0, u "java/lang/Math"), (0, u "toIntExact"), (0, u "(J)I"), (0, .methodref 40 41), (0, .class_ 42), (0, .nameAndType 43 44), (0, u "com/example/impatiens/impatiens/statespace/StateWriter"), (0, u "writeLong"), (0, u "(J)V"), (71, u "write"), (29, u "read"), (0, u "(Lcom/example/impatiens/impatiens/statespace/StateReader;)Lcom/example/impatiens/impatiens/itpn/Instances;"), (1, u "(Lcom/example/impatiens/impatiens/statespace/StateWriter;)V"), (4, u "tick")] 27

def k12m0 : Method := { name := "<init>", desc := "()V", sig := { parameters := [], returnType := none }, accessFlags := 0, code := none }
def k12c1 : Code := { maxStack := 2, maxLocals := 5, code := prog_14_method_2_code, exceptionTable := #[], attributes := #[] }
def k12m1 : Method := { name := "<init>", desc := "([I[J[JI)V", sig := { parameters := [(.array .int), (.array .long), (.array .long), .int], returnType := none }, accessFlags := 2, code := some k12c1 }
def k12c2 : Code := { maxStack := 6, maxLocals := 5, code := prog_14_method_3_code, exceptionTable := #[], attributes := #[] }
def k12m2 : Method := { name := "read", desc := "(Lcom/example/impatiens/impatiens/statespace/StateReader;)Lcom/example/impatiens/impatiens/itpn/Instances;", sig := { parameters := [(.object "com/example/impatiens/impatiens/statespace/StateReader")], returnType := some (.object "com/example/impatiens/impatiens/itpn/Instances") }, accessFlags := 8, code := some k12c2 }
def k12c3 : Code := { maxStack := 3, maxLocals := 4, code := prog_14_method_4_code, exceptionTable := #[], attributes := #[] }
def k12m3 : Method := { name := "write", desc := "(Lcom/example/impatiens/impatiens/statespace/StateWriter;)V", sig := { parameters := [(.object "com/example/impatiens/impatiens/statespace/StateWriter")], returnType := none }, accessFlags := 0, code := some k12c3 }
def k12c4 : Code := { maxStack := 6, maxLocals := 2, code := prog_14_method_7_code, exceptionTable := #[], attributes := #[] }
def k12m4 : Method := { name := "tick", desc := "()V", sig := { parameters := [], returnType := none }, accessFlags := 0, code := some k12c4 }
/-- com/example/impatiens/impatiens/itpn/Instances -/
def k12 : Class := { plain "com/example/impatiens/impatiens/itpn/Instances" (some 0) with
  accessFlags := 32
  interfaces := #[]
  cf := some (fileOf pool12 2 #[] #[{ accessFlags := 0, nameIndex := 5, descriptorIndex := 11, attributes := #[] }, { accessFlags := 2, nameIndex := 5, descriptorIndex := 6, attributes := #[] }, { accessFlags := 8, nameIndex := 146, descriptorIndex := 147, attributes := #[] }, { accessFlags := 0, nameIndex := 116, descriptorIndex := 149, attributes := #[] }, { accessFlags := 0, nameIndex := 154, descriptorIndex := 11, attributes := #[] }] 32 8 #[] #[{ accessFlags := 2, nameIndex := 14, descriptorIndex := 15, attributes := #[] }, { accessFlags := 2, nameIndex := 18, descriptorIndex := 19, attributes := #[] }, { accessFlags := 2, nameIndex := 22, descriptorIndex := 19, attributes := #[] }, { accessFlags := 2, nameIndex := 25, descriptorIndex := 26, attributes := #[] }])
  fields := #[{ name := "transitions", type := (.array .int), accessFlags := 2, slot := 0, constantValue := 0 }, { name := "ages", type := (.array .long), accessFlags := 2, slot := 1, constantValue := 0 }, { name := "counts", type := (.array .long), accessFlags := 2, slot := 2, constantValue := 0 }, { name := "size", type := .int, accessFlags := 2, slot := 3, constantValue := 0 }]
  methods := #[k12m0, k12m1, k12m2, k12m3, k12m4]
  instanceTypes := #[(.array .int), (.array .long), (.array .long), .int]
  staticTypes := #[]
  resolved := Array.replicate 182 none
  statics := none }

def pool13 : Array CpInfo := pool [(1, u "java/lang/Cloneable"), (0, .class_ 1), (0, u "java/lang/Object"), (0, .class_ 3)] 3

/-- java/lang/Cloneable -/
def k13 : Class := { plain "java/lang/Cloneable" (some 0) with
  accessFlags := 1537
  interfaces := #[]
  cf := some (fileOf pool13 2 #[] #[] 1537 4 #[] #[])
  fields := #[]
  methods := #[]
  instanceTypes := #[]
  staticTypes := #[]
  resolved := Array.replicate 8 none
  statics := none }

/-- the primitive byte -/
def k14 : Class := { plain "byte" none with kind := .primitive 'B', accessFlags := 0x411 }
/-- [B -/
def k15 : Class := { plain "[B" (some 0) with kind := .array 14 .byte, interfaces := #[13, 5], accessFlags := 1041 }

/-- the primitive int -/
def k16 : Class := { plain "int" none with kind := .primitive 'I', accessFlags := 0x411 }
/-- [I -/
def k17 : Class := { plain "[I" (some 0) with kind := .array 16 .int, interfaces := #[13, 5], accessFlags := 1041 }

/-- the primitive long -/
def k18 : Class := { plain "long" none with kind := .primitive 'J', accessFlags := 0x411 }
/-- [J -/
def k19 : Class := { plain "[J" (some 0) with kind := .array 18 .long, interfaces := #[13, 5], accessFlags := 1041 }

def heap : Heap := #[]
def classes : Array Class := #[k0, k1, k2, k3, k4, k5, k6, k7, k8, k9, k10, k11, k12, k13, k14, k15, k16, k17, k18, k19]
def interned : List (Array UInt16 × Addr) := []
def slotsUsed : Nat := 0
def theMethod : MethodId := ⟨1, 1⟩
def args0 : Array Value := #[.int 2, .int 7, .long 5, .long 6, .long 7, .long 8]
def aboutOver (below : List Frame) : State where
  vm := { classes := classes, interned := interned.toArray }
  heap := heap
  slotsUsed := slotsUsed
  threads := #[{ frames := .invoking theMethod args0 :: below }]
def below0 : List Frame := [.native { method := ⟨0, 0⟩, args := #[] }]
def about1 : State := aboutOver below0
def p0 : Program := .bare "" "" ""
def e0 : Env := launch0.env 0 0 0
theorem w_frames : about1.frames = Frame.invoking theMethod args0 :: below0 := rfl
set_option maxRecDepth 65536 in
theorem w_args : argsFit about1.vm theMethod args0 = true := by decide +kernel
set_option maxRecDepth 65536 in
theorem w_heap : heapFits about1 = true := by decide +kernel
set_option maxRecDepth 65536 in
theorem w_runnable : about1.curStatus? = some .runnable := by decide +kernel
set_option maxRecDepth 65536 in
theorem w_alone : about1.alone = true := by decide +kernel
set_option maxRecDepth 65536 in
theorem w_named : about1.methodNamed? x = some theMethod := by decide +kernel
set_option maxRecDepth 65536 in
theorem w_hears : about1.hears theMethod below0 = true := by decide +kernel
set_option maxRecDepth 65536 in
theorem w_ripe : about1.ripe theMethod args0 below0 = true := by decide +kernel
theorem w_running : about1.status = .running := rfl
set_option maxRecDepth 65536 in
theorem w_room : about1.hasRoom e0.platform room_1 = true :=
  launch0.hasRoom_least _ room_1 (by decide +kernel) (by decide +kernel) (by decide +kernel) (by decide +kernel) (by decide +kernel) (by decide +kernel)
theorem allAtoms_all (ts : List Jvm.Cond) (a : Array Jvm.Value) (st : Jvm.State) : (allAtoms ts).before a st = ts.all (fun c => c.before a st) := by
  induction ts with
  | nil => rfl
  | cons c t ih =>
    show (Jvm.Cond.and c (allAtoms t)).before a st = _
    rw [Jvm.Cond.before_and, ih, List.all_cons]
def words1 : List Jvm.Cond := Jvm.Cond.code x code maxLocals ret :: tables_1
/-- a 'code' word, met by the world's own term for the bytes: nothing is compared byte by byte -/
theorem code_word {y : MethodName} {bytes : ByteArray} {mx : Nat} {rt : Option FieldType} {a : Array Value} {s : State} {m : MethodId} {meth : Method} {c : Code} (h1 : s.methodNamed? y = some m) (h2 : s.vm.method? m = some meth) (h3 : meth.code = some c) (h4 : c.code = bytes)
    (h5 : (c.maxLocals == mx && c.exceptionTable.isEmpty && decide (c.maxStack ≤ mostOperands) && decide (meth.sig.returnType = rt) && !meth.locks && decide (parseMethodDescriptor y.desc = some meth.sig)) = true) : (Jvm.Cond.code y bytes mx rt).before a s = true := by
  simp only [Bool.and_eq_true, beq_iff_eq, Bool.not_eq_true', decide_eq_true_eq] at h5
  obtain ⟨⟨⟨⟨⟨g1, g2⟩, g3⟩, g4⟩, g5⟩, g6⟩ := h5
  simp [Cond.before, Cond.holds, Cond.value, h1, h2, h3, h4, g1, g2, g3, g4, g5, g6]
def isCode : Jvm.Cond → Bool
  | .code _ _ _ _ => true
  | _ => false
theorem all_split {L : List Jvm.Cond} {P : Jvm.Cond → Bool} (h1 : L.all (fun c => isCode c || P c) = true) (h2 : ∀ c ∈ L.filter isCode, P c = true) : L.all P = true := by
  refine List.all_eq_true.mpr fun c hc => ?_
  have h := List.all_eq_true.mp h1 c hc
  rcases Bool.eq_false_or_eq_true (isCode c) with hi | hi
  · exact h2 c (List.mem_filter.mpr ⟨hc, hi⟩)
  · simpa [hi] using h
set_option maxRecDepth 65536 in
theorem w_c0 : (Jvm.Cond.code x code maxLocals ret).before args0 about1 = true := code_word (m := ⟨1, 1⟩) (meth := k1m1) (c := k1c1) (by decide +kernel) rfl rfl rfl (by decide +kernel)
set_option maxRecDepth 65536 in
theorem w_c1 : (Jvm.Cond.code ({ cls := "java/lang/Math", name := "max", desc := "(JJ)J" } : Jvm.MethodName) jdk_29_method_66_code (4 : Nat) (Option.some Jvm.ClassFile.FieldType.long)).before args0 about1 = true := code_word (m := ⟨2, 2⟩) (meth := k2m2) (c := k2c2) (by decide +kernel) rfl rfl rfl (by decide +kernel)
set_option maxRecDepth 65536 in
theorem w_c2 : (Jvm.Cond.code ({ cls := "com/example/impatiens/impatiens/statespace/StateWriter", name := "<init>", desc := "()V" } : Jvm.MethodName) prog_77_method_1_code (1 : Nat) (Option.none : Option Jvm.ClassFile.FieldType)).before args0 about1 = true := code_word (m := ⟨3, 0⟩) (meth := k3m0) (c := k3c0) (by decide +kernel) rfl rfl rfl (by decide +kernel)
set_option maxRecDepth 65536 in
theorem w_c3 : (Jvm.Cond.code ({ cls := "java/lang/Object", name := "<init>", desc := "()V" } : Jvm.MethodName) object_method_1_code (1 : Nat) (Option.none : Option Jvm.ClassFile.FieldType)).before args0 about1 = true := code_word (m := ⟨0, 0⟩) (meth := k0m0) (c := k0c0) (by decide +kernel) rfl rfl rfl (by decide +kernel)
set_option maxRecDepth 65536 in
theorem w_c4 : (Jvm.Cond.code ({ cls := "com/example/impatiens/impatiens/statespace/StateWriter", name := "writeLong", desc := "(J)V" } : Jvm.MethodName) prog_77_method_6_code (5 : Nat) (Option.none : Option Jvm.ClassFile.FieldType)).before args0 about1 = true := code_word (m := ⟨3, 3⟩) (meth := k3m3) (c := k3c3) (by decide +kernel) rfl rfl rfl (by decide +kernel)
set_option maxRecDepth 65536 in
theorem w_c5 : (Jvm.Cond.code ({ cls := "com/example/impatiens/impatiens/statespace/StateWriter", name := "buffer", desc := "()[B" } : Jvm.MethodName) prog_77_method_2_code (1 : Nat) (Option.some (Jvm.ClassFile.FieldType.array Jvm.ClassFile.FieldType.byte))).before args0 about1 = true := code_word (m := ⟨3, 1⟩) (meth := k3m1) (c := k3c1) (by decide +kernel) rfl rfl rfl (by decide +kernel)
set_option maxRecDepth 65536 in
theorem w_c6 : (Jvm.Cond.code ({ cls := "com/example/impatiens/impatiens/statespace/StateReader", name := "<init>", desc := "([B)V" } : Jvm.MethodName) prog_75_method_1_code (2 : Nat) (Option.none : Option Jvm.ClassFile.FieldType)).before args0 about1 = true := code_word (m := ⟨4, 0⟩) (meth := k4m0) (c := k4c0) (by decide +kernel) rfl rfl rfl (by decide +kernel)
set_option maxRecDepth 65536 in
theorem w_c7 : (Jvm.Cond.code ({ cls := "java/util/Objects", name := "requireNonNull", desc := "(Ljava/lang/Object;Ljava/lang/String;)Ljava/lang/Object;" } : Jvm.MethodName) jdk_31_method_11_code (2 : Nat) (Option.some (Jvm.ClassFile.FieldType.object "java/lang/Object"))).before args0 about1 = true := code_word (m := ⟨11, 1⟩) (meth := k11m1) (c := k11c1) (by decide +kernel) rfl rfl rfl (by decide +kernel)
set_option maxRecDepth 65536 in
theorem w_c8 : (Jvm.Cond.code ({ cls := "com/example/impatiens/impatiens/itpn/Instances", name := "read", desc := "(Lcom/example/impatiens/impatiens/statespace/StateReader;)Lcom/example/impatiens/impatiens/itpn/Instances;" } : Jvm.MethodName) prog_14_method_3_code (5 : Nat) (Option.some (Jvm.ClassFile.FieldType.object "com/example/impatiens/impatiens/itpn/Instances"))).before args0 about1 = true := code_word (m := ⟨12, 2⟩) (meth := k12m2) (c := k12c2) (by decide +kernel) rfl rfl rfl (by decide +kernel)
set_option maxRecDepth 65536 in
theorem w_c9 : (Jvm.Cond.code ({ cls := "com/example/impatiens/impatiens/statespace/StateReader", name := "readLong", desc := "()J" } : Jvm.MethodName) prog_75_method_3_code (5 : Nat) (Option.some Jvm.ClassFile.FieldType.long)).before args0 about1 = true := code_word (m := ⟨4, 2⟩) (meth := k4m2) (c := k4c2) (by decide +kernel) rfl rfl rfl (by decide +kernel)
set_option maxRecDepth 65536 in
theorem w_c10 : (Jvm.Cond.code ({ cls := "java/lang/Math", name := "toIntExact", desc := "(J)I" } : Jvm.MethodName) jdk_29_method_43_code (2 : Nat) (Option.some Jvm.ClassFile.FieldType.int)).before args0 about1 = true := code_word (m := ⟨2, 1⟩) (meth := k2m1) (c := k2c1) (by decide +kernel) rfl rfl rfl (by decide +kernel)
set_option maxRecDepth 65536 in
theorem w_c11 : (Jvm.Cond.code ({ cls := "com/example/impatiens/impatiens/itpn/Instances", name := "<init>", desc := "([I[J[JI)V" } : Jvm.MethodName) prog_14_method_2_code (5 : Nat) (Option.none : Option Jvm.ClassFile.FieldType)).before args0 about1 = true := code_word (m := ⟨12, 1⟩) (meth := k12m1) (c := k12c1) (by decide +kernel) rfl rfl rfl (by decide +kernel)
set_option maxRecDepth 65536 in
theorem w_c12 : (Jvm.Cond.code ({ cls := "com/example/impatiens/impatiens/itpn/Instances", name := "tick", desc := "()V" } : Jvm.MethodName) prog_14_method_7_code (2 : Nat) (Option.none : Option Jvm.ClassFile.FieldType)).before args0 about1 = true := code_word (m := ⟨12, 4⟩) (meth := k12m4) (c := k12c4) (by decide +kernel) rfl rfl rfl (by decide +kernel)
set_option maxRecDepth 65536 in
theorem w_c13 : (Jvm.Cond.code ({ cls := "com/example/impatiens/impatiens/itpn/Instances", name := "write", desc := "(Lcom/example/impatiens/impatiens/statespace/StateWriter;)V" } : Jvm.MethodName) prog_14_method_4_code (4 : Nat) (Option.none : Option Jvm.ClassFile.FieldType)).before args0 about1 = true := code_word (m := ⟨12, 3⟩) (meth := k12m3) (c := k12c3) (by decide +kernel) rfl rfl rfl (by decide +kernel)
set_option maxRecDepth 65536 in
theorem w_c14 : (Jvm.Cond.code ({ cls := "com/example/impatiens/impatiens/statespace/StateReader", name := "position", desc := "()I" } : Jvm.MethodName) prog_75_method_2_code (1 : Nat) (Option.some Jvm.ClassFile.FieldType.int)).before args0 about1 = true := code_word (m := ⟨4, 1⟩) (meth := k4m1) (c := k4c1) (by decide +kernel) rfl rfl rfl (by decide +kernel)
set_option maxRecDepth 65536 in
theorem w_c15 : (Jvm.Cond.code ({ cls := "com/example/impatiens/impatiens/statespace/StateWriter", name := "length", desc := "()I" } : Jvm.MethodName) prog_77_method_3_code (1 : Nat) (Option.some Jvm.ClassFile.FieldType.int)).before args0 about1 = true := code_word (m := ⟨3, 2⟩) (meth := k3m2) (c := k3c2) (by decide +kernel) rfl rfl rfl (by decide +kernel)
def codes1 : List Jvm.Cond := [Jvm.Cond.code x code maxLocals ret, Jvm.Cond.code ({ cls := "java/lang/Math", name := "max", desc := "(JJ)J" } : Jvm.MethodName) jdk_29_method_66_code (4 : Nat) (Option.some Jvm.ClassFile.FieldType.long), Jvm.Cond.code ({ cls := "com/example/impatiens/impatiens/statespace/StateWriter", name := "<init>", desc := "()V" } : Jvm.MethodName) prog_77_method_1_code (1 : Nat) (Option.none : Option Jvm.ClassFile.FieldType), Jvm.Cond.code ({ cls := "java/lang/Object", name := "<init>", desc := "()V" } : Jvm.MethodName) object_method_1_code (1 : Nat) (Option.none : Option Jvm.ClassFile.FieldType), Jvm.Cond.code ({ cls := "com/example/impatiens/impatiens/statespace/StateWriter", name := "writeLong", desc := "(J)V" } : Jvm.MethodName) prog_77_method_6_code (5 : Nat) (Option.none : Option Jvm.ClassFile.FieldType), Jvm.Cond.code ({ cls := "com/example/impatiens/impatiens/statespace/StateWriter", name := "buffer", desc := "()[B" } : Jvm.MethodName) prog_77_method_2_code (1 : Nat) (Option.some (Jvm.ClassFile.FieldType.array Jvm.ClassFile.FieldType.byte)), Jvm.Cond.code ({ cls := "com/example/impatiens/impatiens/statespace/StateReader", name := "<init>", desc := "([B)V" } : Jvm.MethodName) prog_75_method_1_code (2 : Nat) (Option.none : Option Jvm.ClassFile.FieldType), Jvm.Cond.code ({ cls := "java/util/Objects", name := "requireNonNull", desc := "(Ljava/lang/Object;Ljava/lang/String;)Ljava/lang/Object;" } : Jvm.MethodName) jdk_31_method_11_code (2 : Nat) (Option.some (Jvm.ClassFile.FieldType.object "java/lang/Object")), Jvm.Cond.code ({ cls := "com/example/impatiens/impatiens/itpn/Instances", name := "read", desc := "(Lcom/example/impatiens/impatiens/statespace/StateReader;)Lcom/example/impatiens/impatiens/itpn/Instances;" } : Jvm.MethodName) prog_14_method_3_code (5 : Nat) (Option.some (Jvm.ClassFile.FieldType.object "com/example/impatiens/impatiens/itpn/Instances")), Jvm.Cond.code ({ cls := "com/example/impatiens/impatiens/statespace/StateReader", name := "readLong", desc := "()J" } : Jvm.MethodName) prog_75_method_3_code (5 : Nat) (Option.some Jvm.ClassFile.FieldType.long), Jvm.Cond.code ({ cls := "java/lang/Math", name := "toIntExact", desc := "(J)I" } : Jvm.MethodName) jdk_29_method_43_code (2 : Nat) (Option.some Jvm.ClassFile.FieldType.int), Jvm.Cond.code ({ cls := "com/example/impatiens/impatiens/itpn/Instances", name := "<init>", desc := "([I[J[JI)V" } : Jvm.MethodName) prog_14_method_2_code (5 : Nat) (Option.none : Option Jvm.ClassFile.FieldType), Jvm.Cond.code ({ cls := "com/example/impatiens/impatiens/itpn/Instances", name := "tick", desc := "()V" } : Jvm.MethodName) prog_14_method_7_code (2 : Nat) (Option.none : Option Jvm.ClassFile.FieldType), Jvm.Cond.code ({ cls := "com/example/impatiens/impatiens/itpn/Instances", name := "write", desc := "(Lcom/example/impatiens/impatiens/statespace/StateWriter;)V" } : Jvm.MethodName) prog_14_method_4_code (4 : Nat) (Option.none : Option Jvm.ClassFile.FieldType), Jvm.Cond.code ({ cls := "com/example/impatiens/impatiens/statespace/StateReader", name := "position", desc := "()I" } : Jvm.MethodName) prog_75_method_2_code (1 : Nat) (Option.some Jvm.ClassFile.FieldType.int), Jvm.Cond.code ({ cls := "com/example/impatiens/impatiens/statespace/StateWriter", name := "length", desc := "()I" } : Jvm.MethodName) prog_77_method_3_code (1 : Nat) (Option.some Jvm.ClassFile.FieldType.int)]
set_option maxRecDepth 65536 in
theorem codes_eq : words1.filter isCode = codes1 := rfl
theorem w_codes : ∀ c ∈ words1.filter isCode, c.before args0 about1 = true := by
  rw [codes_eq]
  intro c hc
  simp only [codes1, List.mem_cons, List.not_mem_nil, or_false] at hc
  rcases hc with rfl | rfl | rfl | rfl | rfl | rfl | rfl | rfl | rfl | rfl | rfl | rfl | rfl | rfl | rfl | rfl
  · exact w_c0
  · exact w_c1
  · exact w_c2
  · exact w_c3
  · exact w_c4
  · exact w_c5
  · exact w_c6
  · exact w_c7
  · exact w_c8
  · exact w_c9
  · exact w_c10
  · exact w_c11
  · exact w_c12
  · exact w_c13
  · exact w_c14
  · exact w_c15
set_option maxRecDepth 65536 in
theorem w_t1 : (words1.take 24).all (fun c => isCode c || c.before args0 about1) = true := by decide +kernel
set_option maxRecDepth 65536 in
theorem w_t2 : ((words1.drop 24).take 24).all (fun c => isCode c || c.before args0 about1) = true := by decide +kernel
set_option maxRecDepth 65536 in
theorem w_t3 : (((words1.drop 24).drop 24).take 24).all (fun c => isCode c || c.before args0 about1) = true := by decide +kernel
set_option maxRecDepth 65536 in
theorem w_t4 : ((((words1.drop 24).drop 24).drop 24).take 24).all (fun c => isCode c || c.before args0 about1) = true := by decide +kernel
set_option maxRecDepth 65536 in
theorem w_t5 : ((((words1.drop 24).drop 24).drop 24).drop 24).all (fun c => isCode c || c.before args0 about1) = true := by decide +kernel
theorem w_tables : (allAtoms (Jvm.Cond.code x code maxLocals ret :: tables_1)).before args0 about1 = true := by
  rw [allAtoms_all]
  show words1.all (fun c => c.before args0 about1) = true
  refine all_split ?_ w_codes
  rw [← List.take_append_drop 24 words1, List.all_append, w_t1, ← List.take_append_drop 24 (words1.drop 24), List.all_append, w_t2, ← List.take_append_drop 24 ((words1.drop 24).drop 24), List.all_append, w_t3, ← List.take_append_drop 24 (((words1.drop 24).drop 24).drop 24), List.all_append, w_t4, w_t5]
  rfl
set_option maxRecDepth 65536 in
theorem w_case : (Jvm.Cond.and given_1 narrow_1).before args0 about1 = true := by decide +kernel
theorem w_applies : (headSpec (Jvm.Cond.code x code maxLocals ret :: tables_1) room_1).applies x e0.platform about1 = true :=
  (Spec.applies_iff w_frames).mpr ⟨w_running, w_runnable, w_alone, w_named, w_hears, w_ripe, w_room, w_tables⟩
theorem atStart : AtStart classFile x code maxLocals ret World_1 tables_1 room_1 Calls_1 rest_1 Pre_1 launch0 p0 e0 about1 theMethod args0 below0 :=
  ⟨lists_1, trivial, launch0.admits_env _ _ _, launch0.least_env, fairChoices_fair.cas, fairChoices_fair.clock, w_frames, w_args, w_heap, w_applies, trivial, trivial, w_case⟩
end start1
theorem witness_1 : WitnessClaimed_1 := ⟨start1.p0, start1.e0, start1.about1, start1.theMethod, start1.args0, start1.below0, start1.atStart⟩
end Jvm.Pilot.@@N@@
