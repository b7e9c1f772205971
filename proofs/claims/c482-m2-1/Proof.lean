import JvmDerived
import JvmDerived.Pilot.@@N@@Statement
import JvmDerived.Pilot.@@N@@Code
set_option linter.unusedVariables false
set_option linter.unusedSimpArgs false
namespace Jvm.RoadKit
open Sem ClassFile Op Lib Jvm.Stand Jvm.Free Jvm.LawKit
section New
variable {p : Program} {l : Launch} {e : Env} {R : Room} {s : State} {m : MethodId} {args : Array Value} {below : List Frame} {meth : Method} {c : Code} {T : State} {locs : List Loc} {cells slots : Nat}
theorem retI (X : Stand p l e R s m args below meth c T locs cells slots) (hx : p.tables.exec = Jvm.exec) {pc : Nat} {Ls : Array Slot} {z : Int32} {rest : List Value} (hret : meth.sig.returnType = some .int) (hd : decode c.code pc = .ok (.ireturn, 1)) {fs : List Frame}
    (hl : ∀ (f : JFrame) (acts : List Action), f.method = m → f.locked = none → f.entered = [] → (doReturn e (T.setTop f) acts (some (.int z))).1 = T.setFrames fs) : Steps p.tables e below (T.setTop (mkF m pc Ls (.int z :: rest))) (T.setFrames fs) := by
  have hm' : T.vm.method? m = some meth := X.method'
  have hn : narrow .int (.int z) = .int z := rfl
  show Steps p.tables e below (T.setTop { method := m, pc := pc, locals := Ls, stack := _ :: rest, locked := none }) _
  jvm_step X.here [X.here.top, hx, hd, hm', hret, hn]
  first | (intro acts; rw [hl _ acts rfl rfl rfl]) | rw [hl _ _ rfl rfl rfl]
  exact Steps.refl _
theorem own_retL (X : Stand p l e R s m args below meth c T locs cells slots) (hx : p.tables.exec = Jvm.exec) {pc : Nat} {Ls : Array Slot} {z : Int64} {rest : List Value} (hret : meth.sig.returnType = some .long) (hd : decode c.code pc = .ok (.lreturn, 1)) {fs : List Frame}
    (hl : ∀ (f : JFrame) (acts : List Action), f.method = m → f.locked = none → f.entered = [] → (doReturn e (T.setTop f) acts (some (.long z))).1 = T.setFrames fs) : Steps p.tables e below (T.setTop (mkF m pc Ls (.long z :: rest))) (T.setFrames fs) :=
  retOut X hx hret rfl (Or.inr (Or.inl ⟨rfl, rfl, z, rfl⟩)) hd hl
/-- from the state T with the frame g on top the run comes to the invocation's end, returns v, and Q and the frame's bounds hold there -/
def own_Goes (p : Program) (e : Env) (below : List Frame) (s : State) (Q : Option Value → Heap → List Loc → Prop) (k n : Nat) (T : State) (g : JFrame) : Prop :=
  ∃ s₂ o, Steps p.tables e below (T.setTop g) s₂ ∧ s₂.status = .running ∧ Ended s₂ below o ∧ ∃ v L, o = .returned v ∧ Q v s₂.heap L ∧ FrameEnd s o s₂ L k n
theorem own_step {Q : Option Value → Heap → List Loc → Prop} {k n : Nat} {T T' : State} {g g' : JFrame} (h : ∀ t, Steps p.tables e below (T'.setTop g') t → Steps p.tables e below (T.setTop g) t) (w : own_Goes p e below s Q k n T' g') : own_Goes p e below s Q k n T g := by
  obtain ⟨s₂, o, h1, r⟩ := w
  exact ⟨s₂, o, h _ h1, r⟩
theorem own_ret {x : MethodName} {S : Spec} {code : ByteArray} {maxLocals : Nat} {ret : Option FieldType} {s₁ : State} (X : Stand p l e R s m args below meth c T locs cells slots) (Bd : BodyLoose p l x S code maxLocals ret e s m args below meth c s₁) {v : Option Value} (hv : meth.sig.returnType = none → v = none) {g : JFrame}
    (hst : ∀ fs, (∀ (f : JFrame) (acts : List Action), f.method = m → f.locked = none → f.entered = [] → (doReturn e (T.setTop f) acts v).1 = T.setFrames fs) → Steps p.tables e below (T.setTop g) (T.setFrames fs)) {Q : Option Value → Heap → List Loc → Prop} (hQ : Q v T.heap locs) {k n : Nat} (hk : cells ≤ k) (hn : slots ≤ n) : own_Goes p e below s Q k n T g := by
  obtain ⟨fs, hr, hrun, hended, hW, hsame⟩ := X.leave (v := v) hv
  exact ⟨_, _, hst fs hr, hrun, hended, _, _, rfl, hQ, ⟨_, rfl⟩, hW, hsame.mono hk hn⟩
/-- what a body leaves that writes nothing: the value r, the heap as it was -/
def own_Pure (r : Value) (h0 : Heap) (n0 : Nat) (v : Option Value) (h : Heap) (L : List Loc) : Prop := v = some r ∧ Fr n0 L ∧ h = h0
/-- what the law leaves -/
def own_Law (n0 : Nat) (v : Option Value) (_ : Heap) (L : List Loc) : Prop := v = some (.int 1) ∧ Fr n0 L
end New
theorem own_getD (ws : List Int32) (i : Nat) : (ws.map Value.int).getD i (.int (0 : Int32)) = .int (ws.getD i (0 : Int32)) := by
  induction ws generalizing i with
  | nil => rfl
  | cons a r ih => cases i with
    | zero => rfl
    | succ j => exact ih j
end Jvm.RoadKit
namespace Jvm.Pilot.@@N@@
open Jvm Jvm.ClassFile Sem Op Lib Jvm.Free Jvm.Stand Jvm.LawKit Jvm.RoadKit Bundle Jvm.Pilot.@@N@@.Jvm.D
theorem pd_0 : parseMethodDescriptor "()V" = some ⟨[], none⟩ := by decide +kernel
theorem pd_1 : parseMethodDescriptor "(JJZ)V" = some ⟨[.long, .long, .boolean], none⟩ := by decide +kernel
theorem pd_2 : parseMethodDescriptor "()Lcom/example/careful_lock/carefullock/Deadline;" = some ⟨[], some (.object "com/example/careful_lock/carefullock/Deadline")⟩ := by decide +kernel
theorem pd_3 : parseMethodDescriptor "()J" = some ⟨[], some .long⟩ := by decide +kernel
theorem pd_4 : parseMethodDescriptor "()Z" = some ⟨[], some .boolean⟩ := by decide +kernel
theorem d2_0 : decode jdk_30_method_1_code 0 = .ok (.aload_n 0, 1) := by decide +kernel
theorem d2_1 : decode jdk_30_method_1_code 1 = .ok (.invokespecial 1, 3) := by decide +kernel
theorem d2_4 : decode jdk_30_method_1_code 4 = .ok (.return_, 1) := by decide +kernel
theorem pn_2 : plainName "java/lang/Record" = true := by first | (simp [plainName, overriddenIn]; done) | decide +kernel
theorem ef_2 (m : MethodId) (x0 : Addr) : entryFrame m #[(.ref x0)] 1 = mkF m 0 #[.val (.ref x0)] [] := by first | (simp [entryFrame, mkF, argsToLocals, Value.category]; done) | rfl
theorem d1_0 : decode prog_3_method_1_code 0 = .ok (.aload_n 0, 1) := by decide +kernel
theorem d1_1 : decode prog_3_method_1_code 1 = .ok (.invokespecial 3, 3) := by decide +kernel
theorem d1_4 : decode prog_3_method_1_code 4 = .ok (.aload_n 0, 1) := by decide +kernel
theorem d1_5 : decode prog_3_method_1_code 5 = .ok (.lload_n 1, 1) := by decide +kernel
theorem d1_6 : decode prog_3_method_1_code 6 = .ok (.putfield 9, 3) := by decide +kernel
theorem d1_9 : decode prog_3_method_1_code 9 = .ok (.aload_n 0, 1) := by decide +kernel
theorem d1_10 : decode prog_3_method_1_code 10 = .ok (.lload_n 3, 1) := by decide +kernel
theorem d1_11 : decode prog_3_method_1_code 11 = .ok (.putfield 15, 3) := by decide +kernel
theorem d1_14 : decode prog_3_method_1_code 14 = .ok (.aload_n 0, 1) := by decide +kernel
theorem d1_15 : decode prog_3_method_1_code 15 = .ok (.iload 5, 2) := by decide +kernel
theorem d1_17 : decode prog_3_method_1_code 17 = .ok (.putfield 18, 3) := by decide +kernel
theorem d1_20 : decode prog_3_method_1_code 20 = .ok (.return_, 1) := by decide +kernel
theorem pn_1 : plainName "com/example/careful_lock/carefullock/Deadline" = true := by first | (simp [plainName, overriddenIn]; done) | decide +kernel
theorem ef_1 (m : MethodId) (x0 : Addr) (x1 : Int64) (x3 : Int64) (x5 : Int32) : entryFrame m #[(.ref x0), (.long x1), (.long x3), (.int x5)] 6 = mkF m 0 #[.val (.ref x0), .val (.long x1), .second, .val (.long x3), .second, .val (.int x5)] [] := by first | (simp [entryFrame, mkF, argsToLocals, Value.category]; done) | rfl
theorem d5_0 : decode prog_3_method_10_code 0 = .ok (.aload_n 0, 1) := by decide +kernel
theorem d5_1 : decode prog_3_method_10_code 1 = .ok (.getfield 9, 3) := by decide +kernel
theorem d5_4 : decode prog_3_method_10_code 4 = .ok (.lreturn, 1) := by decide +kernel
theorem pn_5 : plainName "com/example/careful_lock/carefullock/Deadline" = true := by first | (simp [plainName, overriddenIn]; done) | decide +kernel
theorem ef_5 (m : MethodId) (x0 : Addr) : entryFrame m #[(.ref x0)] 1 = mkF m 0 #[.val (.ref x0)] [] := by first | (simp [entryFrame, mkF, argsToLocals, Value.category]; done) | rfl
theorem d6_0 : decode prog_3_method_11_code 0 = .ok (.aload_n 0, 1) := by decide +kernel
theorem d6_1 : decode prog_3_method_11_code 1 = .ok (.getfield 15, 3) := by decide +kernel
theorem d6_4 : decode prog_3_method_11_code 4 = .ok (.lreturn, 1) := by decide +kernel
theorem pn_6 : plainName "com/example/careful_lock/carefullock/Deadline" = true := by first | (simp [plainName, overriddenIn]; done) | decide +kernel
theorem ef_6 (m : MethodId) (x0 : Addr) : entryFrame m #[(.ref x0)] 1 = mkF m 0 #[.val (.ref x0)] [] := by first | (simp [entryFrame, mkF, argsToLocals, Value.category]; done) | rfl
theorem d7_0 : decode prog_3_method_12_code 0 = .ok (.aload_n 0, 1) := by decide +kernel
theorem d7_1 : decode prog_3_method_12_code 1 = .ok (.getfield 18, 3) := by decide +kernel
theorem d7_4 : decode prog_3_method_12_code 4 = .ok (.ireturn, 1) := by decide +kernel
theorem pn_7 : plainName "com/example/careful_lock/carefullock/Deadline" = true := by first | (simp [plainName, overriddenIn]; done) | decide +kernel
theorem ef_7 (m : MethodId) (x0 : Addr) : entryFrame m #[(.ref x0)] 1 = mkF m 0 #[.val (.ref x0)] [] := by first | (simp [entryFrame, mkF, argsToLocals, Value.category]; done) | rfl
def own_never (tm : Int64) : Int32 := if lcmpW tm (9223372036854775807 : Int64) = 0 then 1 else 0
theorem d8_0 : decode prog_3_method_5_code 0 = .ok (.aload_n 0, 1) := by decide +kernel
theorem d8_1 : decode prog_3_method_5_code 1 = .ok (.getfield 15, 3) := by decide +kernel
theorem d8_4 : decode prog_3_method_5_code 4 = .ok (.ldc2_w 31, 3) := by decide +kernel
theorem d8_7 : decode prog_3_method_5_code 7 = .ok (.lcmp, 1) := by decide +kernel
theorem d8_8 : decode prog_3_method_5_code 8 = .ok (.ifCond .ne 7, 3) := by decide +kernel
theorem d8_11 : decode prog_3_method_5_code 11 = .ok (.iconst 1, 1) := by decide +kernel
theorem d8_12 : decode prog_3_method_5_code 12 = .ok (.goto 4, 3) := by decide +kernel
theorem d8_15 : decode prog_3_method_5_code 15 = .ok (.iconst 0, 1) := by decide +kernel
theorem d8_16 : decode prog_3_method_5_code 16 = .ok (.ireturn, 1) := by decide +kernel
theorem pn_8 : plainName "com/example/careful_lock/carefullock/Deadline" = true := by first | (simp [plainName, overriddenIn]; done) | decide +kernel
theorem ef_8 (m : MethodId) (x0 : Addr) : entryFrame m #[(.ref x0)] 1 = mkF m 0 #[.val (.ref x0)] [] := by first | (simp [entryFrame, mkF, argsToLocals, Value.category]; done) | rfl
theorem d4_0 : decode prog_3_method_4_code 0 = .ok (.new 10, 3) := by decide +kernel
theorem d4_3 : decode prog_3_method_4_code 3 = .ok (.dup, 1) := by decide +kernel
theorem d4_4 : decode prog_3_method_4_code 4 = .ok (.aload_n 0, 1) := by decide +kernel
theorem d4_5 : decode prog_3_method_4_code 5 = .ok (.getfield 9, 3) := by decide +kernel
theorem d4_8 : decode prog_3_method_4_code 8 = .ok (.aload_n 0, 1) := by decide +kernel
theorem d4_9 : decode prog_3_method_4_code 9 = .ok (.getfield 15, 3) := by decide +kernel
theorem d4_12 : decode prog_3_method_4_code 12 = .ok (.iconst 0, 1) := by decide +kernel
theorem d4_13 : decode prog_3_method_4_code 13 = .ok (.invokespecial 28, 3) := by decide +kernel
theorem d4_16 : decode prog_3_method_4_code 16 = .ok (.areturn, 1) := by decide +kernel
theorem pn_4 : plainName "com/example/careful_lock/carefullock/Deadline" = true := by first | (simp [plainName, overriddenIn]; done) | decide +kernel
theorem ef_4 (m : MethodId) (x0 : Addr) : entryFrame m #[(.ref x0)] 1 = mkF m 0 #[.val (.ref x0)] [] := by first | (simp [entryFrame, mkF, argsToLocals, Value.category]; done) | rfl
theorem pn_0 : plainName "com/example/careful_lock/carefullock/DeadlineUninterruptiblePinLaw" = true := by first | (simp [plainName, overriddenIn]; done) | decide +kernel
theorem ef_0 (m : MethodId) (x0 : Int64) (x2 : Int64) (x4 : Int32) : entryFrame m #[(.long x0), (.long x2), (.int x4)] maxLocals = mkF m 0 #[.val (.long x0), .second, .val (.long x2), .second, .val (.int x4), .unset, .unset, .unset, .unset, .unset, .unset, .unset, .unset, .unset, .unset] [] := by first | (simp [entryFrame, mkF, argsToLocals, Value.category, maxLocals]; done) | rfl
def f0_177 (t0 : Int32) : Int32 := (t0 &&& 1)
def f0_176 : Int32 := f0_177 (0 : Int32)
def f0_172 : Int32 := f0_177 (1 : Int32)
def f0_167 (x14 : Int32) : Int32 := if x14 = (0 : Int32) then f0_176 else f0_172
def f0_162 (x13 : Int32) (x14 : Int32) : Int32 := if x13 = (0 : Int32) then f0_176 else f0_167 x14
def f0_157 (x12 : Int32) (x13 : Int32) (x14 : Int32) : Int32 := if x12 = (0 : Int32) then f0_176 else f0_162 x13 x14
def f0_152 (x11 : Int32) (x12 : Int32) (x13 : Int32) (x14 : Int32) : Int32 := if x11 = (0 : Int32) then f0_176 else f0_157 x12 x13 x14
def f0_145 (x10 : Int32) (x11 : Int32) (x12 : Int32) (x13 : Int32) (t0 : Int32) : Int32 := if x10 = (0 : Int32) then f0_176 else f0_152 x11 x12 x13 t0
def f0_144 (x10 : Int32) (x11 : Int32) (x12 : Int32) (x13 : Int32) : Int32 := f0_145 x10 x11 x12 x13 (0 : Int32)
def f0_140 (x10 : Int32) (x11 : Int32) (x12 : Int32) (x13 : Int32) : Int32 := f0_145 x10 x11 x12 x13 (1 : Int32)
def f0_128 (x5 : Int32) (x10 : Int32) (x11 : Int32) (x12 : Int32) (t0 : Int32) : Int32 := if ((x5 &&& 1) &&& 1) = x5 then f0_140 x10 x11 x12 t0 else f0_144 x10 x11 x12 t0
def f0_127 (x5 : Int32) (x10 : Int32) (x11 : Int32) (x12 : Int32) : Int32 := f0_128 x5 x10 x11 x12 (0 : Int32)
def f0_123 (x5 : Int32) (x10 : Int32) (x11 : Int32) (x12 : Int32) : Int32 := f0_128 x5 x10 x11 x12 (1 : Int32)
def f0_120 (x5 : Int32) (x10 : Int32) (x11 : Int32) (x12 : Int32) (t0 : Int32) (t1 : Int32) : Int32 := if t1 = t0 then f0_123 x5 x10 x11 x12 else f0_127 x5 x10 x11 x12
def f0_119 (x5 : Int32) (x10 : Int32) (x11 : Int32) (x12 : Int32) (t0 : Int32) : Int32 := f0_120 x5 x10 x11 x12 (0 : Int32) t0
def f0_115 (x5 : Int32) (x10 : Int32) (x11 : Int32) (x12 : Int32) (t0 : Int32) : Int32 := f0_120 x5 x10 x11 x12 (1 : Int32) t0
def f0_99 (x5 : Int32) (x6 : Int64) (x10 : Int32) (x11 : Int32) (t0 : Int32) : Int32 := if (lcmpW x6 (9223372036854775807 : Int64)) = (0 : Int32) then f0_115 x5 x10 x11 t0 (own_never x6) else f0_119 x5 x10 x11 t0 (own_never x6)
def f0_98 (x5 : Int32) (x6 : Int64) (x10 : Int32) (x11 : Int32) : Int32 := f0_99 x5 x6 x10 x11 (0 : Int32)
def f0_94 (x5 : Int32) (x6 : Int64) (x10 : Int32) (x11 : Int32) : Int32 := f0_99 x5 x6 x10 x11 (1 : Int32)
def f0_84 (x5 : Int32) (x6 : Int64) (x10 : Int32) (t0 : Int32) : Int32 := if ((0 : Int32) &&& 1) = (0 : Int32) then f0_94 x5 x6 x10 t0 else f0_98 x5 x6 x10 t0
def f0_83 (x5 : Int32) (x6 : Int64) (x10 : Int32) : Int32 := f0_84 x5 x6 x10 (0 : Int32)
def f0_79 (x5 : Int32) (x6 : Int64) (x10 : Int32) : Int32 := f0_84 x5 x6 x10 (1 : Int32)
def f0_66 (x5 : Int32) (x6 : Int64) (t0 : Int32) : Int32 := if (lcmpW x6 x6) = (0 : Int32) then f0_79 x5 x6 t0 else f0_83 x5 x6 t0
def f0_65 (x5 : Int32) (x6 : Int64) : Int32 := f0_66 x5 x6 (0 : Int32)
def f0_61 (x5 : Int32) (x6 : Int64) : Int32 := f0_66 x5 x6 (1 : Int32)
def f0_28 (x0 : Int64) (x5 : Int32) (t0 : Int64) : Int32 := if (lcmpW x0 x0) = (0 : Int32) then f0_61 x5 t0 else f0_65 x5 t0
def f0_27 (x0 : Int64) (x2 : Int64) (x5 : Int32) : Int32 := f0_28 x0 x5 x2
def f0_21 (x0 : Int64) (x5 : Int32) : Int32 := f0_28 x0 x5 (9223372036854775807 : Int64)
def f0_12 (x0 : Int64) (x2 : Int64) (x4 : Int32) (t0 : Int32) : Int32 := if (x4 &&& (2 : Int32)) = (0 : Int32) then f0_27 x0 x2 t0 else f0_21 x0 t0
def f0_11 (x0 : Int64) (x2 : Int64) (x4 : Int32) : Int32 := f0_12 x0 x2 x4 (0 : Int32)
def f0_7 (x0 : Int64) (x2 : Int64) (x4 : Int32) : Int32 := f0_12 x0 x2 x4 (1 : Int32)
def f0_0 (x0 : Int64) (x2 : Int64) (x4 : Int32) : Int32 := if (x4 &&& (1 : Int32)) = (0 : Int32) then f0_11 x0 x2 x4 else f0_7 x0 x2 x4
/-- what the heap says of a Deadline: its class, its three fields -/
def own_DL (Z : State) (h : Heap) (a : Addr) (st tm : Int64) (it : Int32) : Prop := Exa Z h a "com/example/careful_lock/carefullock/Deadline" ∧ Fld Z h a "com/example/careful_lock/carefullock/Deadline" "startNanos" "J" (.long st) ∧ Fld Z h a "com/example/careful_lock/carefullock/Deadline" "timeoutNanos" "J" (.long tm) ∧ Fld Z h a "com/example/careful_lock/carefullock/Deadline" "interruptible" "Z" (.int it)
def own_Void (h0 : Heap) (n0 : Nat) (v : Option Value) (h : Heap) (L : List Loc) : Prop := v = none ∧ Fr n0 L ∧ h = h0
def own_Made (Z : State) (a : Addr) (st tm : Int64) (it : Int32) (h0 : Heap) (n0 : Nat) (v : Option Value) (h : Heap) (L : List Loc) : Prop := v = none ∧ Fr n0 L ∧ Keep h0 h [a] ∧ own_DL Z h a st tm (it &&& 1)
def own_Twin (Z : State) (b : Addr) (st tm : Int64) (h0 : Heap) (n0 : Nat) (v : Option Value) (h : Heap) (L : List Loc) : Prop := v = some (.ref b) ∧ Fr n0 L ∧ Keep h0 h [] ∧ own_DL Z h b st tm 0
theorem own_cmp (x : Int64) : lcmpW x x = 0 := by
  rw [lcW]; exact (lc_eq x x).mpr rfl
theorem own_28 (a : Int64) (f : Int32) (hf : f = 0 ∨ f = 1) (t : Int64) : f0_28 a f t = 1 := by
  have e1 : f0_28 a f t = f0_61 f t := if_pos (own_cmp a)
  have e2 : f0_66 f t 1 = f0_79 f t 1 := if_pos (own_cmp t)
  have e3 : f0_84 f t 1 1 = f0_94 f t 1 1 := if_pos (by decide)
  have e4 : f0_99 f t 1 1 1 = f0_123 f 1 1 1 := by
    by_cases q : lcmpW t (9223372036854775807 : Int64) = 0
    · have e : own_never t = 1 := if_pos q
      have r : f0_99 f t 1 1 1 = f0_115 f 1 1 1 (own_never t) := if_pos q
      rw [r, e, f0_115, f0_120, if_pos rfl]
    · have e : own_never t = 0 := if_neg q
      have r : f0_99 f t 1 1 1 = f0_119 f 1 1 1 (own_never t) := if_neg q
      rw [r, e, f0_119, f0_120, if_pos rfl]
  have e5 : f0_128 f 1 1 1 1 = 1 := by rcases hf with rfl | rfl <;> decide
  rw [e1, f0_61, e2, f0_79, e3, f0_94, e4, f0_123, e5]
theorem own_law (a b : Int64) (k : Int32) : f0_0 a b k = 1 := by
  simp only [f0_0, f0_7, f0_11, f0_12, f0_21, f0_27, own_28 a _ (Or.inl rfl), own_28 a _ (Or.inr rfl), ite_self]
set_option maxRecDepth 65536 in
set_option maxHeartbeats 40000000 in
theorem rm2 (l : Launch) (Z : State) (a0 : Array Value) (hw : ∀ d ∈ tables_1, d.before a0 Z = true) (ws : List Jvm.Cond) (x0 : Addr) (h0 : Heap) (n0 : Nat) (Z0 : n0 ≤ h0.size) :
    MetFree l (⟨"java/lang/Record", "<init>", "()V"⟩ : MethodName) (head1 (Jvm.Cond.code (⟨"java/lang/Record", "<init>", "()V"⟩ : MethodName) jdk_30_method_1_code 1 none :: ws) ({ frames := 1, cells := 0, slots := 0, locals := 12 } : Room)) (fun a U => a = #[(.ref x0)] ∧ Z.Warmed39 U.vm ∧ U.heap = h0) (fun _ _ _ _ _ => True) (fun _ U o U' => ∃ v L, o = .returned v ∧ own_Void h0 n0 v U'.heap L ∧ FrameEnd U o U' L ({ frames := 1, cells := 0, slots := 0, locals := 12 } : Room).cells ({ frames := 1, cells := 0, slots := 0, locals := 12 } : Room).slots) := by
  refine MetFree.of_bodySF (plainFor_of_name pn_2) hisR ?_
  intro p e s m args below meth c s₁ Bd hml0 hP hK
  obtain ⟨rfl, hZ, hh0⟩ := hP
  have hx := Bd.exec
  have hby := Bd.bytes
  have hml : c.maxLocals = 1 := hml0
  have hown : s.vm.findClass "java/lang/Record" = some m.cls := findClass_of_methodNamed Bd.named
  have hnm := (name_of_methodNamed Bd.named Bd.method).1
  have X00 : Stand p l e ({ frames := 1, cells := 0, slots := 0, locals := 12 } : Room) s m #[(.ref x0)] below meth c s₁ [] 0 0 := Stand.of_body Bd
  have e00 : s₁.heap = h0 := by rw [← hh0, Bd.state]; rfl
  have N00 := Fr.nil n0
  have hB : own_Goes p e below s (own_Void h0 n0) ({ frames := 1, cells := 0, slots := 0, locals := 12 } : Room).cells ({ frames := 1, cells := 0, slots := 0, locals := 12 } : Room).slots s₁ (mkF m 0 #[.val (.ref x0)] []) := by
    refine own_step (T' := s₁) (g' := (mkF m 1 #[.val (.ref x0)] [(.ref x0)])) (fun _ k => XS.aloadN X00.here hx rfl (hb hby d2_0) rfl rfl k) ?_
    obtain ⟨T1, X1, e1, st1⟩ := initO X00 hx hZ hown (hw _ (List.mem_of_getElem? (i := 11) rfl)) (hw _ (List.mem_of_getElem? (i := 12) rfl)) (hw _ (List.mem_of_getElem? (i := 13) rfl)) e00 (g := (mkF m 1 #[.val (.ref x0)] [(.ref x0)])) rfl (by rw [hml]; rfl) rfl (hb hby d2_1) (by decide) (W := 0) (by show 2 * 0 + _ ≤ _; exact Nat.le_of_eq rfl) (by decide)
    refine own_step (T' := T1) (g' := (mkF m 4 #[.val (.ref x0)] [])) (fun _ k => st1 _ k) ?_
    exact own_ret X1 Bd (v := none) (fun _ => rfl) (fun fs q => X1.returnOut hx Bd.returns (hb hby d2_4) q) (show own_Void h0 n0 _ _ _ from ⟨rfl, N00, e1⟩) (by decide) (by decide)
  obtain ⟨s₂, o, q1, q2, q3, v, L, q4, q5, q6⟩ := hB
  exact ⟨s₂, o, castTop (ef_2 m x0) q1, q2, q3, v, L, q4, q5, q6⟩
set_option maxRecDepth 65536 in
set_option maxHeartbeats 40000000 in
theorem rm1 (l : Launch) (Z : State) (a0 : Array Value) (hw : ∀ d ∈ tables_1, d.before a0 Z = true) (ws : List Jvm.Cond) (x0 : Addr) (x1 : Int64) (x3 : Int64) (x5 : Int32) (u_st u_tm u_it : Value) (h0 : Heap) (n0 : Nat) (Z0 : n0 ≤ h0.size) (E0 : Exa Z h0 x0 "com/example/careful_lock/carefullock/Deadline") (g0 : n0 ≤ x0) (F_st : Fld Z h0 x0 "com/example/careful_lock/carefullock/Deadline" "startNanos" "J" u_st) (F_tm : Fld Z h0 x0 "com/example/careful_lock/carefullock/Deadline" "timeoutNanos" "J" u_tm) (F_it : Fld Z h0 x0 "com/example/careful_lock/carefullock/Deadline" "interruptible" "Z" u_it) :
    MetFree l (⟨"com/example/careful_lock/carefullock/Deadline", "<init>", "(JJZ)V"⟩ : MethodName) (head1 (Jvm.Cond.code (⟨"com/example/careful_lock/carefullock/Deadline", "<init>", "(JJZ)V"⟩ : MethodName) prog_3_method_1_code 6 none :: ws) ({ frames := 2, cells := 0, slots := 0, locals := 24 } : Room)) (fun a U => a = #[(.ref x0), (.long x1), (.long x3), (.int x5)] ∧ Z.Warmed39 U.vm ∧ U.heap = h0) (fun _ _ _ _ _ => True) (fun _ U o U' => ∃ v L, o = .returned v ∧ own_Made Z x0 x1 x3 x5 h0 n0 v U'.heap L ∧ FrameEnd U o U' L ({ frames := 2, cells := 0, slots := 0, locals := 24 } : Room).cells ({ frames := 2, cells := 0, slots := 0, locals := 24 } : Room).slots) := by
  refine MetFree.of_bodySF (plainFor_of_name pn_1) hisR ?_
  intro p e s m args below meth c s₁ Bd hml0 hP hK
  obtain ⟨rfl, hZ, hh0⟩ := hP
  have hx := Bd.exec
  have hby := Bd.bytes
  have hml : c.maxLocals = 6 := hml0
  have hown : s.vm.findClass "com/example/careful_lock/carefullock/Deadline" = some m.cls := findClass_of_methodNamed Bd.named
  have hnm := (name_of_methodNamed Bd.named Bd.method).1
  have X00 : Stand p l e ({ frames := 2, cells := 0, slots := 0, locals := 24 } : Room) s m #[(.ref x0), (.long x1), (.long x3), (.int x5)] below meth c s₁ [] 0 0 := Stand.of_body Bd
  have e00 : s₁.heap = h0 := by rw [← hh0, Bd.state]; rfl
  have N00 := Fr.nil n0
  have hB : own_Goes p e below s (own_Made Z x0 x1 x3 x5 h0 n0) ({ frames := 2, cells := 0, slots := 0, locals := 24 } : Room).cells ({ frames := 2, cells := 0, slots := 0, locals := 24 } : Room).slots s₁ (mkF m 0 #[.val (.ref x0), .val (.long x1), .second, .val (.long x3), .second, .val (.int x5)] []) := by
    refine own_step (T' := s₁) (g' := (mkF m 1 #[.val (.ref x0), .val (.long x1), .second, .val (.long x3), .second, .val (.int x5)] [(.ref x0)])) (fun _ k => XS.aloadN X00.here hx rfl (hb hby d1_0) rfl rfl k) ?_
    obtain ⟨_, _, ⟨T1, L1, k1, n1⟩, -, X1, ⟨Lc1, hQ1, l1, y1, z1⟩, st1⟩ := X00.specialBack hx (y := (⟨"java/lang/Record", "<init>", "()V"⟩ : MethodName)) rfl hown (mvT hZ (hw _ (List.mem_of_getElem? (i := 6) rfl))) (mvT hZ (hw _ (List.mem_of_getElem? (i := 7) rfl))) (mvT hZ (hw _ (List.mem_of_getElem? (i := 10) rfl))) (by decide) (backOf (W := 0) (rm2 l Z a0 hw [] x0 h0 n0 Z0) hZ (hw _ (List.mem_of_getElem? (i := 10) rfl)) (hw _ (List.mem_of_getElem? (i := 9) rfl)) (by decide) (by decide)) (g := (mkF m 1 #[.val (.ref x0), .val (.long x1), .second, .val (.long x3), .second, .val (.int x5)] [(.ref x0)])) rfl (by rw [hml]; rfl) (Steps.refl _) (a := x0) (argsL := []) (rest := []) (lenOf pd_0 rfl) rfl (by show 2 * 0 + _ ≤ _; exact Nat.le_of_eq rfl) (hb hby d1_1) (fun _ _ => ⟨rfl, e00, (by decide : 0 + 0 ≤ _), (by decide : 0 + 0 ≤ _)⟩)
    dsimp only [Pt.U, Pt.locs, Pt.cells, Pt.slots] at X1 l1 y1 z1 st1 hQ1
    subst l1 y1 z1
    obtain ⟨rfl, N1q, e1⟩ := hQ1
    have N1 := Fr.app N00 N1q
    refine own_step (T' := T1) (g' := (mkF m 4 #[.val (.ref x0), .val (.long x1), .second, .val (.long x3), .second, .val (.int x5)] [])) (fun _ k => st1.trans k) ?_
    refine own_step (T' := T1) (g' := (mkF m 5 #[.val (.ref x0), .val (.long x1), .second, .val (.long x3), .second, .val (.int x5)] [(.ref x0)])) (fun _ k => XS.aloadN X1.here hx rfl (hb hby d1_4) rfl rfl k) ?_
    refine own_step (T' := T1) (g' := (mkF m 6 #[.val (.ref x0), .val (.long x1), .second, .val (.long x3), .second, .val (.int x5)] [(.long x1), (.ref x0)])) (fun _ k => XS.lloadN X1.here hx rfl (hb hby d1_5) rfl k) ?_
    obtain ⟨T2, h2, X2, e2, W2, st2⟩ := putF X1 hx hZ hown (host := "") (Or.inl (hw _ (List.mem_of_getElem? (i := 14) rfl))) Via.refl e1 F_st E0 (Or.inr ⟨(hw _ (List.mem_of_getElem? (i := 15) rfl)), rfl, hnm⟩) (hw _ (List.mem_of_getElem? (i := 1) rfl)) (ty := .long) (by decide) rfl rfl (g := (mkF m 6 #[.val (.ref x0), .val (.long x1), .second, .val (.long x3), .second, .val (.int x5)] [(.long x1), (.ref x0)])) rfl rfl (hb hby d1_6)
    have q3 : Fld Z h2 x0 "com/example/careful_lock/carefullock/Deadline" "startNanos" "J" (.long x1) := F_st.same W2
    have q4 : Fld Z h2 x0 "com/example/careful_lock/carefullock/Deadline" "timeoutNanos" "J" u_tm := F_tm.other W2 (Or.inr (slot_ne (Or.inr (hw _ (List.mem_of_getElem? (i := 17) rfl))) (Or.inr (hw _ (List.mem_of_getElem? (i := 15) rfl))) (by decide) (t := .long) (t' := .long) (by decide) (by decide)))
    have q5 : Fld Z h2 x0 "com/example/careful_lock/carefullock/Deadline" "interruptible" "Z" u_it := F_it.other W2 (Or.inr (slot_ne (Or.inr (hw _ (List.mem_of_getElem? (i := 19) rfl))) (Or.inr (hw _ (List.mem_of_getElem? (i := 15) rfl))) (by decide) (t := .boolean) (t' := .long) (by decide) (by decide)))
    have q6 : Exa Z h2 x0 "com/example/careful_lock/carefullock/Deadline" := E0.wr W2
    have Z2 : n0 ≤ h2.size := Nat.le_trans Z0 (Keep.of_wr W2).1
    have N2 := Fr.snoc X2 N1 g0
    have Kp2 : Keep h0 h2 [x0] := (Keep.refl h0 [x0]).wr W2 (Or.inl (List.mem_of_getElem? (i := 0) rfl))
    refine own_step (T' := T2) (g' := (mkF m 9 #[.val (.ref x0), .val (.long x1), .second, .val (.long x3), .second, .val (.int x5)] [])) (fun _ k => st2 _ k) ?_
    refine own_step (T' := T2) (g' := (mkF m 10 #[.val (.ref x0), .val (.long x1), .second, .val (.long x3), .second, .val (.int x5)] [(.ref x0)])) (fun _ k => XS.aloadN X2.here hx rfl (hb hby d1_9) rfl rfl k) ?_
    refine own_step (T' := T2) (g' := (mkF m 11 #[.val (.ref x0), .val (.long x1), .second, .val (.long x3), .second, .val (.int x5)] [(.long x3), (.ref x0)])) (fun _ k => XS.lloadN X2.here hx rfl (hb hby d1_10) rfl k) ?_
    obtain ⟨T7, h7, X7, e7, W7, st7⟩ := putF X2 hx hZ hown (host := "") (Or.inl (hw _ (List.mem_of_getElem? (i := 16) rfl))) Via.refl e2 q4 q6 (Or.inr ⟨(hw _ (List.mem_of_getElem? (i := 17) rfl)), rfl, hnm⟩) (hw _ (List.mem_of_getElem? (i := 1) rfl)) (ty := .long) (by decide) rfl rfl (g := (mkF m 11 #[.val (.ref x0), .val (.long x1), .second, .val (.long x3), .second, .val (.int x5)] [(.long x3), (.ref x0)])) rfl rfl (hb hby d1_11)
    have q8 : Fld Z h7 x0 "com/example/careful_lock/carefullock/Deadline" "startNanos" "J" (.long x1) := q3.other W7 (Or.inr (slot_ne (Or.inr (hw _ (List.mem_of_getElem? (i := 15) rfl))) (Or.inr (hw _ (List.mem_of_getElem? (i := 17) rfl))) (by decide) (t := .long) (t' := .long) (by decide) (by decide)))
    have q9 : Fld Z h7 x0 "com/example/careful_lock/carefullock/Deadline" "timeoutNanos" "J" (.long x3) := q4.same W7
    have q10 : Fld Z h7 x0 "com/example/careful_lock/carefullock/Deadline" "interruptible" "Z" u_it := q5.other W7 (Or.inr (slot_ne (Or.inr (hw _ (List.mem_of_getElem? (i := 19) rfl))) (Or.inr (hw _ (List.mem_of_getElem? (i := 17) rfl))) (by decide) (t := .boolean) (t' := .long) (by decide) (by decide)))
    have q11 : Exa Z h7 x0 "com/example/careful_lock/carefullock/Deadline" := q6.wr W7
    have Z7 : n0 ≤ h7.size := Nat.le_trans Z2 (Keep.of_wr W7).1
    have N7 := Fr.snoc X7 N2 g0
    have Kp7 : Keep h0 h7 [x0] := Kp2.wr W7 (Or.inl (List.mem_of_getElem? (i := 0) rfl))
    refine own_step (T' := T7) (g' := (mkF m 14 #[.val (.ref x0), .val (.long x1), .second, .val (.long x3), .second, .val (.int x5)] [])) (fun _ k => st7 _ k) ?_
    refine own_step (T' := T7) (g' := (mkF m 15 #[.val (.ref x0), .val (.long x1), .second, .val (.long x3), .second, .val (.int x5)] [(.ref x0)])) (fun _ k => XS.aloadN X7.here hx rfl (hb hby d1_14) rfl rfl k) ?_
    refine own_step (T' := T7) (g' := (mkF m 17 #[.val (.ref x0), .val (.long x1), .second, .val (.long x3), .second, .val (.int x5)] [(.int x5), (.ref x0)])) (fun _ k => XS.iload X7.here hx rfl (hb hby d1_15) rfl k) ?_
    obtain ⟨T12, h12, X12, e12, W12, st12⟩ := putFN X7 hx hZ hown (hw _ (List.mem_of_getElem? (i := 18) rfl)) Via.refl e7 q10 q11 (Or.inr ⟨(hw _ (List.mem_of_getElem? (i := 19) rfl)), rfl, hnm⟩) (hw _ (List.mem_of_getElem? (i := 1) rfl)) (ty := .boolean) (v' := (.int (x5 &&& 1))) (by decide) rfl (fits_nar_bool _) (g := (mkF m 17 #[.val (.ref x0), .val (.long x1), .second, .val (.long x3), .second, .val (.int x5)] [(.int x5), (.ref x0)])) rfl rfl (hb hby d1_17)
    have q13 : Fld Z h12 x0 "com/example/careful_lock/carefullock/Deadline" "startNanos" "J" (.long x1) := q8.other W12 (Or.inr (slot_ne (Or.inr (hw _ (List.mem_of_getElem? (i := 15) rfl))) (Or.inr (hw _ (List.mem_of_getElem? (i := 19) rfl))) (by decide) (t := .long) (t' := .boolean) (by decide) (by decide)))
    have q14 : Fld Z h12 x0 "com/example/careful_lock/carefullock/Deadline" "timeoutNanos" "J" (.long x3) := q9.other W12 (Or.inr (slot_ne (Or.inr (hw _ (List.mem_of_getElem? (i := 17) rfl))) (Or.inr (hw _ (List.mem_of_getElem? (i := 19) rfl))) (by decide) (t := .long) (t' := .boolean) (by decide) (by decide)))
    have q15 : Fld Z h12 x0 "com/example/careful_lock/carefullock/Deadline" "interruptible" "Z" (.int (x5 &&& 1)) := q10.same W12
    have q16 : Exa Z h12 x0 "com/example/careful_lock/carefullock/Deadline" := q11.wr W12
    have Z12 : n0 ≤ h12.size := Nat.le_trans Z7 (Keep.of_wr W12).1
    have N12 := Fr.snoc X12 N7 g0
    have Kp12 : Keep h0 h12 [x0] := Kp7.wr W12 (Or.inl (List.mem_of_getElem? (i := 0) rfl))
    refine own_step (T' := T12) (g' := (mkF m 20 #[.val (.ref x0), .val (.long x1), .second, .val (.long x3), .second, .val (.int x5)] [])) (fun _ k => st12 _ k) ?_
    exact own_ret X12 Bd (v := none) (fun _ => rfl) (fun fs q => X12.returnOut hx Bd.returns (hb hby d1_20) q) (show own_Made Z x0 x1 x3 x5 h0 n0 _ _ _ from by rw [e12]; exact ⟨rfl, N12, Kp12, q16, q13, q14, q15⟩) (by decide) (by decide)
  obtain ⟨s₂, o, q1, q2, q3, v, L, q4, q5, q6⟩ := hB
  exact ⟨s₂, o, castTop (ef_1 m x0 x1 x3 x5) q1, q2, q3, v, L, q4, q5, q6⟩
set_option maxRecDepth 65536 in
set_option maxHeartbeats 40000000 in
theorem rm5 (l : Launch) (Z : State) (a0 : Array Value) (hw : ∀ d ∈ tables_1, d.before a0 Z = true) (ws : List Jvm.Cond) (x0 : Addr) (st tm : Int64) (it : Int32) (h0 : Heap) (n0 : Nat) (Z0 : n0 ≤ h0.size) (dl : own_DL Z h0 x0 st tm it) :
    MetFree l (⟨"com/example/careful_lock/carefullock/Deadline", "startNanos", "()J"⟩ : MethodName) (head1 (Jvm.Cond.code (⟨"com/example/careful_lock/carefullock/Deadline", "startNanos", "()J"⟩ : MethodName) prog_3_method_10_code 1 (some .long) :: ws) ({ frames := 0, cells := 0, slots := 0, locals := 0 } : Room)) (fun a U => a = #[(.ref x0)] ∧ Z.Warmed39 U.vm ∧ U.heap = h0) (fun _ _ _ _ _ => True) (fun _ U o U' => ∃ v L, o = .returned v ∧ own_Pure (.long st) h0 n0 v U'.heap L ∧ FrameEnd U o U' L ({ frames := 0, cells := 0, slots := 0, locals := 0 } : Room).cells ({ frames := 0, cells := 0, slots := 0, locals := 0 } : Room).slots) := by
  refine MetFree.of_bodySF (plainFor_of_name pn_5) hisR ?_
  intro p e s m args below meth c s₁ Bd hml0 hP hK
  obtain ⟨rfl, hZ, hh0⟩ := hP
  have hx := Bd.exec
  have hby := Bd.bytes
  have hml : c.maxLocals = 1 := hml0
  have hown : s.vm.findClass "com/example/careful_lock/carefullock/Deadline" = some m.cls := findClass_of_methodNamed Bd.named
  have hnm := (name_of_methodNamed Bd.named Bd.method).1
  have X00 : Stand p l e ({ frames := 0, cells := 0, slots := 0, locals := 0 } : Room) s m #[(.ref x0)] below meth c s₁ [] 0 0 := Stand.of_body Bd
  have e00 : s₁.heap = h0 := by rw [← hh0, Bd.state]; rfl
  have N00 := Fr.nil n0
  have hB : own_Goes p e below s (own_Pure (.long st) h0 n0) ({ frames := 0, cells := 0, slots := 0, locals := 0 } : Room).cells ({ frames := 0, cells := 0, slots := 0, locals := 0 } : Room).slots s₁ (mkF m 0 #[.val (.ref x0)] []) := by
    refine own_step (T' := s₁) (g' := (mkF m 1 #[.val (.ref x0)] [(.ref x0)])) (fun _ k => XS.aloadN X00.here hx rfl (hb hby d5_0) rfl rfl k) ?_
    obtain ⟨T1, X1, e1, st1⟩ := getF X00 hx hZ hown (host := "") (Or.inl (hw _ (List.mem_of_getElem? (i := 14) rfl))) Via.refl e00 dl.2.1 (g := (mkF m 1 #[.val (.ref x0)] [(.ref x0)])) rfl rfl (hb hby d5_1)
    refine own_step (T' := T1) (g' := (mkF m 4 #[.val (.ref x0)] [(.long st)])) (fun _ k => st1 _ k) ?_
    exact own_ret X1 Bd (v := some (.long st)) (fun q => by rw [Bd.returns] at q; cases q) (fun fs q => own_retL X1 hx Bd.returns (hb hby d5_4) q) (show own_Pure (.long st) h0 n0 _ _ _ from ⟨rfl, N00, e1⟩) (by decide) (by decide)
  obtain ⟨s₂, o, q1, q2, q3, v, L, q4, q5, q6⟩ := hB
  exact ⟨s₂, o, castTop (ef_5 m x0) q1, q2, q3, v, L, q4, q5, q6⟩
set_option maxRecDepth 65536 in
set_option maxHeartbeats 40000000 in
theorem rm6 (l : Launch) (Z : State) (a0 : Array Value) (hw : ∀ d ∈ tables_1, d.before a0 Z = true) (ws : List Jvm.Cond) (x0 : Addr) (st tm : Int64) (it : Int32) (h0 : Heap) (n0 : Nat) (Z0 : n0 ≤ h0.size) (dl : own_DL Z h0 x0 st tm it) :
    MetFree l (⟨"com/example/careful_lock/carefullock/Deadline", "timeoutNanos", "()J"⟩ : MethodName) (head1 (Jvm.Cond.code (⟨"com/example/careful_lock/carefullock/Deadline", "timeoutNanos", "()J"⟩ : MethodName) prog_3_method_11_code 1 (some .long) :: ws) ({ frames := 0, cells := 0, slots := 0, locals := 0 } : Room)) (fun a U => a = #[(.ref x0)] ∧ Z.Warmed39 U.vm ∧ U.heap = h0) (fun _ _ _ _ _ => True) (fun _ U o U' => ∃ v L, o = .returned v ∧ own_Pure (.long tm) h0 n0 v U'.heap L ∧ FrameEnd U o U' L ({ frames := 0, cells := 0, slots := 0, locals := 0 } : Room).cells ({ frames := 0, cells := 0, slots := 0, locals := 0 } : Room).slots) := by
  refine MetFree.of_bodySF (plainFor_of_name pn_6) hisR ?_
  intro p e s m args below meth c s₁ Bd hml0 hP hK
  obtain ⟨rfl, hZ, hh0⟩ := hP
  have hx := Bd.exec
  have hby := Bd.bytes
  have hml : c.maxLocals = 1 := hml0
  have hown : s.vm.findClass "com/example/careful_lock/carefullock/Deadline" = some m.cls := findClass_of_methodNamed Bd.named
  have hnm := (name_of_methodNamed Bd.named Bd.method).1
  have X00 : Stand p l e ({ frames := 0, cells := 0, slots := 0, locals := 0 } : Room) s m #[(.ref x0)] below meth c s₁ [] 0 0 := Stand.of_body Bd
  have e00 : s₁.heap = h0 := by rw [← hh0, Bd.state]; rfl
  have N00 := Fr.nil n0
  have hB : own_Goes p e below s (own_Pure (.long tm) h0 n0) ({ frames := 0, cells := 0, slots := 0, locals := 0 } : Room).cells ({ frames := 0, cells := 0, slots := 0, locals := 0 } : Room).slots s₁ (mkF m 0 #[.val (.ref x0)] []) := by
    refine own_step (T' := s₁) (g' := (mkF m 1 #[.val (.ref x0)] [(.ref x0)])) (fun _ k => XS.aloadN X00.here hx rfl (hb hby d6_0) rfl rfl k) ?_
    obtain ⟨T1, X1, e1, st1⟩ := getF X00 hx hZ hown (host := "") (Or.inl (hw _ (List.mem_of_getElem? (i := 16) rfl))) Via.refl e00 dl.2.2.1 (g := (mkF m 1 #[.val (.ref x0)] [(.ref x0)])) rfl rfl (hb hby d6_1)
    refine own_step (T' := T1) (g' := (mkF m 4 #[.val (.ref x0)] [(.long tm)])) (fun _ k => st1 _ k) ?_
    exact own_ret X1 Bd (v := some (.long tm)) (fun q => by rw [Bd.returns] at q; cases q) (fun fs q => own_retL X1 hx Bd.returns (hb hby d6_4) q) (show own_Pure (.long tm) h0 n0 _ _ _ from ⟨rfl, N00, e1⟩) (by decide) (by decide)
  obtain ⟨s₂, o, q1, q2, q3, v, L, q4, q5, q6⟩ := hB
  exact ⟨s₂, o, castTop (ef_6 m x0) q1, q2, q3, v, L, q4, q5, q6⟩
set_option maxRecDepth 65536 in
set_option maxHeartbeats 40000000 in
theorem rm7 (l : Launch) (Z : State) (a0 : Array Value) (hw : ∀ d ∈ tables_1, d.before a0 Z = true) (ws : List Jvm.Cond) (x0 : Addr) (st tm : Int64) (it : Int32) (h0 : Heap) (n0 : Nat) (Z0 : n0 ≤ h0.size) (dl : own_DL Z h0 x0 st tm it) :
    MetFree l (⟨"com/example/careful_lock/carefullock/Deadline", "interruptible", "()Z"⟩ : MethodName) (head1 (Jvm.Cond.code (⟨"com/example/careful_lock/carefullock/Deadline", "interruptible", "()Z"⟩ : MethodName) prog_3_method_12_code 1 (some .boolean) :: ws) ({ frames := 0, cells := 0, slots := 0, locals := 0 } : Room)) (fun a U => a = #[(.ref x0)] ∧ Z.Warmed39 U.vm ∧ U.heap = h0) (fun _ _ _ _ _ => True) (fun _ U o U' => ∃ v L, o = .returned v ∧ own_Pure (.int (it &&& 1)) h0 n0 v U'.heap L ∧ FrameEnd U o U' L ({ frames := 0, cells := 0, slots := 0, locals := 0 } : Room).cells ({ frames := 0, cells := 0, slots := 0, locals := 0 } : Room).slots) := by
  refine MetFree.of_bodySF (plainFor_of_name pn_7) hisR ?_
  intro p e s m args below meth c s₁ Bd hml0 hP hK
  obtain ⟨rfl, hZ, hh0⟩ := hP
  have hx := Bd.exec
  have hby := Bd.bytes
  have hml : c.maxLocals = 1 := hml0
  have hown : s.vm.findClass "com/example/careful_lock/carefullock/Deadline" = some m.cls := findClass_of_methodNamed Bd.named
  have hnm := (name_of_methodNamed Bd.named Bd.method).1
  have X00 : Stand p l e ({ frames := 0, cells := 0, slots := 0, locals := 0 } : Room) s m #[(.ref x0)] below meth c s₁ [] 0 0 := Stand.of_body Bd
  have e00 : s₁.heap = h0 := by rw [← hh0, Bd.state]; rfl
  have N00 := Fr.nil n0
  have hB : own_Goes p e below s (own_Pure (.int (it &&& 1)) h0 n0) ({ frames := 0, cells := 0, slots := 0, locals := 0 } : Room).cells ({ frames := 0, cells := 0, slots := 0, locals := 0 } : Room).slots s₁ (mkF m 0 #[.val (.ref x0)] []) := by
    refine own_step (T' := s₁) (g' := (mkF m 1 #[.val (.ref x0)] [(.ref x0)])) (fun _ k => XS.aloadN X00.here hx rfl (hb hby d7_0) rfl rfl k) ?_
    obtain ⟨T1, X1, e1, st1⟩ := getF X00 hx hZ hown (host := "") (Or.inl (hw _ (List.mem_of_getElem? (i := 18) rfl))) Via.refl e00 dl.2.2.2 (g := (mkF m 1 #[.val (.ref x0)] [(.ref x0)])) rfl rfl (hb hby d7_1)
    refine own_step (T' := T1) (g' := (mkF m 4 #[.val (.ref x0)] [(.int it)])) (fun _ k => st1 _ k) ?_
    exact own_ret X1 Bd (v := some (.int (it &&& 1))) (fun q => by rw [Bd.returns] at q; cases q) (fun fs q => retN X1 hx (t := .boolean) Bd.returns (by simp) (hb hby d7_4) q) (show own_Pure (.int (it &&& 1)) h0 n0 _ _ _ from ⟨rfl, N00, e1⟩) (by decide) (by decide)
  obtain ⟨s₂, o, q1, q2, q3, v, L, q4, q5, q6⟩ := hB
  exact ⟨s₂, o, castTop (ef_7 m x0) q1, q2, q3, v, L, q4, q5, q6⟩
set_option maxRecDepth 65536 in
set_option maxHeartbeats 40000000 in
theorem rm8 (l : Launch) (Z : State) (a0 : Array Value) (hw : ∀ d ∈ tables_1, d.before a0 Z = true) (ws : List Jvm.Cond) (x0 : Addr) (st tm : Int64) (it : Int32) (h0 : Heap) (n0 : Nat) (Z0 : n0 ≤ h0.size) (dl : own_DL Z h0 x0 st tm it) :
    MetFree l (⟨"com/example/careful_lock/carefullock/Deadline", "isNever", "()Z"⟩ : MethodName) (head1 (Jvm.Cond.code (⟨"com/example/careful_lock/carefullock/Deadline", "isNever", "()Z"⟩ : MethodName) prog_3_method_5_code 1 (some .boolean) :: ws) ({ frames := 0, cells := 0, slots := 0, locals := 0 } : Room)) (fun a U => a = #[(.ref x0)] ∧ Z.Warmed39 U.vm ∧ U.heap = h0) (fun _ _ _ _ _ => True) (fun _ U o U' => ∃ v L, o = .returned v ∧ own_Pure (.int (own_never tm)) h0 n0 v U'.heap L ∧ FrameEnd U o U' L ({ frames := 0, cells := 0, slots := 0, locals := 0 } : Room).cells ({ frames := 0, cells := 0, slots := 0, locals := 0 } : Room).slots) := by
  refine MetFree.of_bodySF (plainFor_of_name pn_8) hisR ?_
  intro p e s m args below meth c s₁ Bd hml0 hP hK
  obtain ⟨rfl, hZ, hh0⟩ := hP
  have hx := Bd.exec
  have hby := Bd.bytes
  have hml : c.maxLocals = 1 := hml0
  have hown : s.vm.findClass "com/example/careful_lock/carefullock/Deadline" = some m.cls := findClass_of_methodNamed Bd.named
  have hnm := (name_of_methodNamed Bd.named Bd.method).1
  have X00 : Stand p l e ({ frames := 0, cells := 0, slots := 0, locals := 0 } : Room) s m #[(.ref x0)] below meth c s₁ [] 0 0 := Stand.of_body Bd
  have e00 : s₁.heap = h0 := by rw [← hh0, Bd.state]; rfl
  have N00 := Fr.nil n0
  have hB : own_Goes p e below s (own_Pure (.int (own_never tm)) h0 n0) ({ frames := 0, cells := 0, slots := 0, locals := 0 } : Room).cells ({ frames := 0, cells := 0, slots := 0, locals := 0 } : Room).slots s₁ (mkF m 0 #[.val (.ref x0)] []) := by
    refine own_step (T' := s₁) (g' := (mkF m 1 #[.val (.ref x0)] [(.ref x0)])) (fun _ k => XS.aloadN X00.here hx rfl (hb hby d8_0) rfl rfl k) ?_
    obtain ⟨T1, X1, e1, st1⟩ := getF X00 hx hZ hown (host := "") (Or.inl (hw _ (List.mem_of_getElem? (i := 16) rfl))) Via.refl e00 dl.2.2.1 (g := (mkF m 1 #[.val (.ref x0)] [(.ref x0)])) rfl rfl (hb hby d8_1)
    refine own_step (T' := T1) (g' := (mkF m 4 #[.val (.ref x0)] [(.long tm)])) (fun _ k => st1 _ k) ?_
    refine own_step (T' := T1) (g' := (mkF m 7 #[.val (.ref x0)] [(.long (9223372036854775807 : Int64)), (.long tm)])) (fun _ k => X1.ldc2Long hx hown (mvT hZ (hw _ (List.mem_of_getElem? (i := 47) rfl))) (g := (mkF m 4 #[.val (.ref x0)] [(.long tm)])) rfl (hb hby d8_4) _ k) ?_
    refine own_step (T' := T1) (g' := (mkF m 8 #[.val (.ref x0)] [(.int (lcmpW tm (9223372036854775807 : Int64)))])) (fun _ k => XS.lcmp X1.here hx rfl (hb hby d8_7) rfl k) ?_
    by_cases hc : (lcmpW tm (9223372036854775807 : Int64)) = (0 : Int32)
    · refine own_step (T' := T1) (g' := (mkF m 11 #[.val (.ref x0)] [])) (fun _ k => XS.ifNo X1.here hx rfl (hb hby d8_8) rfl ((if0 _ _).trans (teq hc).2) k) ?_
      refine own_step (T' := T1) (g' := (mkF m 12 #[.val (.ref x0)] [(.int (1 : Int32))])) (fun _ k => XS.iconst X1.here hx rfl (hb hby d8_11) k) ?_
      refine own_step (T' := T1) (g' := (mkF m 16 #[.val (.ref x0)] [(.int (1 : Int32))])) (fun _ k => XS.goto X1.here hx rfl (pc0 := 12) (pc' := 16) rfl (hb hby d8_12) (by decide) (by decide) k) ?_
      have hv : own_never tm = 1 := if_pos hc
      exact own_ret X1 Bd (v := some (.int ((1 : Int32) &&& 1))) (fun q => by rw [Bd.returns] at q; cases q) (fun fs q => retN X1 hx (t := .boolean) Bd.returns (by simp) (hb hby d8_16) q) (show own_Pure (.int (own_never tm)) h0 n0 _ _ _ from ⟨by rw [hv]; rfl, N00, e1⟩) (by decide) (by decide)
    · refine own_step (T' := T1) (g' := (mkF m 15 #[.val (.ref x0)] [])) (fun _ k => XS.ifYes X1.here hx rfl (pc0 := 8) (pc' := 15) rfl (hb hby d8_8) rfl ((if0 _ _).trans (feq hc).2) (by decide) (by decide) k) ?_
      refine own_step (T' := T1) (g' := (mkF m 16 #[.val (.ref x0)] [(.int (0 : Int32))])) (fun _ k => XS.iconst X1.here hx rfl (hb hby d8_15) k) ?_
      have hv : own_never tm = 0 := if_neg hc
      exact own_ret X1 Bd (v := some (.int ((0 : Int32) &&& 1))) (fun q => by rw [Bd.returns] at q; cases q) (fun fs q => retN X1 hx (t := .boolean) Bd.returns (by simp) (hb hby d8_16) q) (show own_Pure (.int (own_never tm)) h0 n0 _ _ _ from ⟨by rw [hv]; rfl, N00, e1⟩) (by decide) (by decide)
  obtain ⟨s₂, o, q1, q2, q3, v, L, q4, q5, q6⟩ := hB
  exact ⟨s₂, o, castTop (ef_8 m x0) q1, q2, q3, v, L, q4, q5, q6⟩
set_option maxRecDepth 65536 in
set_option maxHeartbeats 40000000 in
theorem rm4 (l : Launch) (Z : State) (a0 : Array Value) (hw : ∀ d ∈ tables_1, d.before a0 Z = true) (ws : List Jvm.Cond) (x0 : Addr) (st tm : Int64) (it : Int32) (h0 : Heap) (n0 : Nat) (Z0 : n0 ≤ h0.size) (dl : own_DL Z h0 x0 st tm it) :
    MetFree l (⟨"com/example/careful_lock/carefullock/Deadline", "uninterruptible", "()Lcom/example/careful_lock/carefullock/Deadline;"⟩ : MethodName) (head1 (Jvm.Cond.code (⟨"com/example/careful_lock/carefullock/Deadline", "uninterruptible", "()Lcom/example/careful_lock/carefullock/Deadline;"⟩ : MethodName) prog_3_method_4_code 1 (some (.object "com/example/careful_lock/carefullock/Deadline")) :: ws) ({ frames := 3, cells := 1, slots := 3, locals := 60 } : Room)) (fun a U => a = #[(.ref x0)] ∧ Z.Warmed39 U.vm ∧ U.heap = h0) (fun _ _ _ _ _ => True) (fun _ U o U' => ∃ v L, o = .returned v ∧ own_Twin Z h0.size st tm h0 n0 v U'.heap L ∧ FrameEnd U o U' L ({ frames := 3, cells := 1, slots := 3, locals := 60 } : Room).cells ({ frames := 3, cells := 1, slots := 3, locals := 60 } : Room).slots) := by
  refine MetFree.of_bodySF (plainFor_of_name pn_4) hisR ?_
  intro p e s m args below meth c s₁ Bd hml0 hP hK
  obtain ⟨rfl, hZ, hh0⟩ := hP
  have hx := Bd.exec
  have hby := Bd.bytes
  have hml : c.maxLocals = 1 := hml0
  have hown : s.vm.findClass "com/example/careful_lock/carefullock/Deadline" = some m.cls := findClass_of_methodNamed Bd.named
  have hnm := (name_of_methodNamed Bd.named Bd.method).1
  have X00 : Stand p l e ({ frames := 3, cells := 1, slots := 3, locals := 60 } : Room) s m #[(.ref x0)] below meth c s₁ [] 0 0 := Stand.of_body Bd
  have e00 : s₁.heap = h0 := by rw [← hh0, Bd.state]; rfl
  have N00 := Fr.nil n0
  have hB : own_Goes p e below s (own_Twin Z h0.size st tm h0 n0) ({ frames := 3, cells := 1, slots := 3, locals := 60 } : Room).cells ({ frames := 3, cells := 1, slots := 3, locals := 60 } : Room).slots s₁ (mkF m 0 #[.val (.ref x0)] []) := by
    obtain ⟨T1, h1, X1, e1, E1, A1, D1, -, st1⟩ := newO X00 hx hZ hown (hw _ (List.mem_of_getElem? (i := 25) rfl)) (hw _ (List.mem_of_getElem? (i := 1) rfl)) (hw _ (List.mem_of_getElem? (i := 2) rfl)) e00 (g := (mkF m 0 #[.val (.ref x0)] [])) rfl (hb hby d4_0) (by decide) (by decide)
    obtain ⟨b1, g1⟩ : ∃ z, z = h0.size := ⟨_, rfl⟩
    rw [← g1] at A1 D1 st1
    have ne1_x0 : x0 ≠ b1 := Nat.ne_of_lt (Nat.lt_of_lt_of_le dl.2.1.lt (Nat.le_of_eq g1.symm))
    have q2 : Fld Z h1 x0 "com/example/careful_lock/carefullock/Deadline" "startNanos" "J" (.long st) := dl.2.1.ext E1
    have q3 : Fld Z h1 x0 "com/example/careful_lock/carefullock/Deadline" "timeoutNanos" "J" (.long tm) := dl.2.2.1.ext E1
    have q4 : Fld Z h1 x0 "com/example/careful_lock/carefullock/Deadline" "interruptible" "Z" (.int it) := dl.2.2.2.ext E1
    have q5 : Exa Z h1 x0 "com/example/careful_lock/carefullock/Deadline" := dl.1.ext E1
    have q6 : Fld Z h1 b1 "com/example/careful_lock/carefullock/Deadline" "startNanos" "J" (.long (0 : Int64)) := D1 (Or.inr (hw _ (List.mem_of_getElem? (i := 15) rfl))) (ty := .long) (by decide)
    have q7 : Fld Z h1 b1 "com/example/careful_lock/carefullock/Deadline" "timeoutNanos" "J" (.long (0 : Int64)) := D1 (Or.inr (hw _ (List.mem_of_getElem? (i := 17) rfl))) (ty := .long) (by decide)
    have q8 : Fld Z h1 b1 "com/example/careful_lock/carefullock/Deadline" "interruptible" "Z" (.int (0 : Int32)) := D1 (Or.inr (hw _ (List.mem_of_getElem? (i := 19) rfl))) (ty := .boolean) (by decide)
    have g_b1 : n0 ≤ b1 := Nat.le_trans Z0 (Nat.le_of_eq g1.symm)
    have sz_b1 : h0.size ≤ b1 := Nat.le_trans (Keep.refl h0 []).1 (Nat.le_of_eq g1.symm)
    have Z1 : n0 ≤ h1.size := Nat.le_trans Z0 E1.1
    have Kp1 : Keep h0 h1 [] := (Keep.refl h0 []).ext E1
    refine own_step (T' := T1) (g' := (mkF m 3 #[.val (.ref x0)] [(.ref b1)])) (fun _ k => st1 _ k) ?_
    refine own_step (T' := T1) (g' := (mkF m 4 #[.val (.ref x0)] [(.ref b1), (.ref b1)])) (fun _ k => XS.dup X1.here hx rfl (hb hby d4_3) rfl rfl k) ?_
    refine own_step (T' := T1) (g' := (mkF m 5 #[.val (.ref x0)] [(.ref x0), (.ref b1), (.ref b1)])) (fun _ k => XS.aloadN X1.here hx rfl (hb hby d4_4) rfl rfl k) ?_
    obtain ⟨T9, X9, e9, st9⟩ := getF X1 hx hZ hown (host := "") (Or.inl (hw _ (List.mem_of_getElem? (i := 14) rfl))) Via.refl e1 q2 (g := (mkF m 5 #[.val (.ref x0)] [(.ref x0), (.ref b1), (.ref b1)])) rfl rfl (hb hby d4_5)
    refine own_step (T' := T9) (g' := (mkF m 8 #[.val (.ref x0)] [(.long st), (.ref b1), (.ref b1)])) (fun _ k => st9 _ k) ?_
    refine own_step (T' := T9) (g' := (mkF m 9 #[.val (.ref x0)] [(.ref x0), (.long st), (.ref b1), (.ref b1)])) (fun _ k => XS.aloadN X9.here hx rfl (hb hby d4_8) rfl rfl k) ?_
    obtain ⟨T10, X10, e10, st10⟩ := getF X9 hx hZ hown (host := "") (Or.inl (hw _ (List.mem_of_getElem? (i := 16) rfl))) Via.refl e9 q3 (g := (mkF m 9 #[.val (.ref x0)] [(.ref x0), (.long st), (.ref b1), (.ref b1)])) rfl rfl (hb hby d4_9)
    refine own_step (T' := T10) (g' := (mkF m 12 #[.val (.ref x0)] [(.long tm), (.long st), (.ref b1), (.ref b1)])) (fun _ k => st10 _ k) ?_
    refine own_step (T' := T10) (g' := (mkF m 13 #[.val (.ref x0)] [(.int (0 : Int32)), (.long tm), (.long st), (.ref b1), (.ref b1)])) (fun _ k => XS.iconst X10.here hx rfl (hb hby d4_12) k) ?_
    obtain ⟨_, _, ⟨T11, L11, k11, n11⟩, -, X11, ⟨Lc11, hQ11, l11, y11, z11⟩, st11⟩ := X10.specialBack hx (y := (⟨"com/example/careful_lock/carefullock/Deadline", "<init>", "(JJZ)V"⟩ : MethodName)) rfl hown (mvT hZ (hw _ (List.mem_of_getElem? (i := 26) rfl))) (mvT hZ (hw _ (List.mem_of_getElem? (i := 4) rfl))) (mvT hZ (hw _ (List.mem_of_getElem? (i := 5) rfl))) (by decide) (backOf (W := 1) (rm1 l Z a0 hw [] b1 st tm (0 : Int32) (.long (0 : Int64)) (.long (0 : Int64)) (.int (0 : Int32)) h1 n0 Z1 A1 g_b1 q6 q7 q8) hZ (hw _ (List.mem_of_getElem? (i := 5) rfl)) (hw _ (List.mem_of_getElem? (i := 2) rfl)) (by decide) (by decide)) (g := (mkF m 13 #[.val (.ref x0)] [(.int (0 : Int32)), (.long tm), (.long st), (.ref b1), (.ref b1)])) rfl (by rw [hml]; rfl) (Steps.refl _) (a := b1) (argsL := [(.long st), (.long tm), (.int (0 : Int32))]) (rest := [(.ref b1)]) (lenOf pd_1 rfl) rfl (by show 2 * 0 + _ ≤ _; exact Nat.le_of_eq rfl) (hb hby d4_13) (fun _ _ => ⟨rfl, e10, (by decide : 1 + 0 ≤ _), (by decide : 3 + 0 ≤ _)⟩)
    dsimp only [Pt.U, Pt.locs, Pt.cells, Pt.slots] at X11 l11 y11 z11 st11 hQ11
    subst l11 y11 z11
    generalize e11 : T11.heap = h11 at hQ11
    obtain ⟨rfl, N11q, K11, dl11⟩ := hQ11
    have Z11 : n0 ≤ h11.size := Nat.le_trans Z1 K11.1
    have Kp11 : Keep h0 h11 [] := Kp1.trans K11 (allS (Or.inr sz_b1) all0)
    have q12 : Fld Z h11 x0 "com/example/careful_lock/carefullock/Deadline" "startNanos" "J" (.long st) := q2.keep K11 (ninS ne1_x0 nin0)
    have q13 : Fld Z h11 x0 "com/example/careful_lock/carefullock/Deadline" "timeoutNanos" "J" (.long tm) := q3.keep K11 (ninS ne1_x0 nin0)
    have q14 : Fld Z h11 x0 "com/example/careful_lock/carefullock/Deadline" "interruptible" "Z" (.int it) := q4.keep K11 (ninS ne1_x0 nin0)
    have q15 : Exa Z h11 x0 "com/example/careful_lock/carefullock/Deadline" := q5.keep K11
    have q16 : Exa Z h11 b1 "com/example/careful_lock/carefullock/Deadline" := A1.keep K11
    have N11 := Fr.app N00 N11q
    refine own_step (T' := T11) (g' := (mkF m 16 #[.val (.ref x0)] [(.ref b1)])) (fun _ k => st11.trans k) ?_
    exact own_ret X11 Bd (v := some (.ref b1)) (fun q => by rw [Bd.returns] at q; cases q) (fun fs q => retOut X11 hx Bd.returns rfl (Or.inr (Or.inr (Or.inr (Or.inr ⟨rfl, rfl, rfl⟩)))) (hb hby d4_16) q) (show own_Twin Z h0.size st tm h0 n0 _ _ _ from by rw [e11, ← g1]; exact ⟨rfl, N11, Kp11, dl11⟩) (by decide) (by decide)
  obtain ⟨s₂, o, q1, q2, q3, v, L, q4, q5, q6⟩ := hB
  exact ⟨s₂, o, castTop (ef_4 m x0) q1, q2, q3, v, L, q4, q5, q6⟩
set_option maxRecDepth 65536 in
set_option maxHeartbeats 40000000 in
theorem rm0 (l : Launch) (Z : State) (a0 : Array Value) (hw : ∀ d ∈ tables_1, d.before a0 Z = true) (ws : List Jvm.Cond) (p0 : Int64) (p2 : Int64) (p4 : Int32) (h0 : Heap) (n0 : Nat) (Z0 : n0 ≤ h0.size) (hlaw : f0_0 p0 p2 p4 = 1) :
    MetFree l x (head1 (Jvm.Cond.code x code maxLocals ret :: ws) room_1) (fun a U => a = #[(.long p0), (.long p2), (.int p4)] ∧ Z.Warmed39 U.vm ∧ U.heap = h0) (fun _ _ _ _ _ => True) (fun _ U o U' => ∃ v L, o = .returned v ∧ own_Law n0 v U'.heap L ∧ FrameEnd U o U' L 16 128) := by
  refine MetFree.of_bodySF (plainFor_of_name pn_0) hisR ?_
  intro p e s m args below meth c s₁ Bd hml0 hP hK
  obtain ⟨rfl, hZ, hh0⟩ := hP
  have hx := Bd.exec
  have hby := Bd.bytes
  have hml : c.maxLocals = 15 := hml0
  have hown : s.vm.findClass "com/example/careful_lock/carefullock/DeadlineUninterruptiblePinLaw" = some m.cls := findClass_of_methodNamed Bd.named
  have X00 : Stand p l e room_1 s m #[(.long p0), (.long p2), (.int p4)] below meth c s₁ [] 0 0 := Stand.of_body Bd
  have e00 : s₁.heap = h0 := by rw [← hh0, Bd.state]; rfl
  have B177 : ∀ (T0 : State) (locs : List Loc) (x0 : Int64) (x2 : Int64) (x4 : Int32) (x5 : Int32) (x6 : Int64) (x8 : Addr) (x9 : Addr) (x10 : Int32) (x11 : Int32) (x12 : Int32) (x13 : Int32) (x14 : Int32) (t0 : Int32) (hh : Heap), n0 ≤ hh.size → (own_DL Z hh x8 x0 x6 (x5 &&& 1)) → (own_DL Z hh x9 x0 x6 0) → Stand p l e room_1 s m #[(.long p0), (.long p2), (.int p4)] below meth c T0 locs 2 6 → T0.heap = hh → Fr n0 locs → f0_177 t0 = 1 → own_Goes p e below s (own_Law n0) 16 128 T0 (mkF m 177 #[.val (.long x0), .second, .val (.long x2), .second, .val (.int x4), .val (.int x5), .val (.long x6), .second, .val (.ref x8), .val (.ref x9), .val (.int x10), .val (.int x11), .val (.int x12), .val (.int x13), .val (.int x14)] [(.int t0)]) := by
    intro T0 locs x0 x2 x4 x5 x6 x8 x9 x10 x11 x12 x13 x14 t0 hh Zh V_x8 V_x9 X0 e0 N0 hf
    exact own_ret X0 Bd (v := some (.int (t0 &&& 1))) (fun q => by rw [Bd.returns] at q; cases q) (fun fs q => retN X0 hx (t := .boolean) Bd.returns (by simp) (hb hby at_177) q) (show own_Law n0 _ _ _ from ⟨congrArg (fun z => some (Value.int z)) hf, N0⟩) (by decide) (by decide)
  have B176 : ∀ (T0 : State) (locs : List Loc) (x0 : Int64) (x2 : Int64) (x4 : Int32) (x5 : Int32) (x6 : Int64) (x8 : Addr) (x9 : Addr) (x10 : Int32) (x11 : Int32) (x12 : Int32) (x13 : Int32) (x14 : Int32) (hh : Heap), n0 ≤ hh.size → (own_DL Z hh x8 x0 x6 (x5 &&& 1)) → (own_DL Z hh x9 x0 x6 0) → Stand p l e room_1 s m #[(.long p0), (.long p2), (.int p4)] below meth c T0 locs 2 6 → T0.heap = hh → Fr n0 locs → f0_176 = 1 → own_Goes p e below s (own_Law n0) 16 128 T0 (mkF m 176 #[.val (.long x0), .second, .val (.long x2), .second, .val (.int x4), .val (.int x5), .val (.long x6), .second, .val (.ref x8), .val (.ref x9), .val (.int x10), .val (.int x11), .val (.int x12), .val (.int x13), .val (.int x14)] []) := by
    intro T0 locs x0 x2 x4 x5 x6 x8 x9 x10 x11 x12 x13 x14 hh Zh V_x8 V_x9 X0 e0 N0 hf
    refine own_step (T' := T0) (g' := (mkF m 177 #[.val (.long x0), .second, .val (.long x2), .second, .val (.int x4), .val (.int x5), .val (.long x6), .second, .val (.ref x8), .val (.ref x9), .val (.int x10), .val (.int x11), .val (.int x12), .val (.int x13), .val (.int x14)] [(.int (0 : Int32))])) (fun _ k => XS.iconst X0.here hx rfl (hb hby at_176) k) ?_
    exact B177 T0 _ x0 x2 x4 x5 x6 x8 x9 x10 x11 x12 x13 x14 (0 : Int32) hh Zh V_x8 V_x9 X0 e0 N0 hf
  have B172 : ∀ (T0 : State) (locs : List Loc) (x0 : Int64) (x2 : Int64) (x4 : Int32) (x5 : Int32) (x6 : Int64) (x8 : Addr) (x9 : Addr) (x10 : Int32) (x11 : Int32) (x12 : Int32) (x13 : Int32) (x14 : Int32) (hh : Heap), n0 ≤ hh.size → (own_DL Z hh x8 x0 x6 (x5 &&& 1)) → (own_DL Z hh x9 x0 x6 0) → Stand p l e room_1 s m #[(.long p0), (.long p2), (.int p4)] below meth c T0 locs 2 6 → T0.heap = hh → Fr n0 locs → f0_172 = 1 → own_Goes p e below s (own_Law n0) 16 128 T0 (mkF m 172 #[.val (.long x0), .second, .val (.long x2), .second, .val (.int x4), .val (.int x5), .val (.long x6), .second, .val (.ref x8), .val (.ref x9), .val (.int x10), .val (.int x11), .val (.int x12), .val (.int x13), .val (.int x14)] []) := by
    intro T0 locs x0 x2 x4 x5 x6 x8 x9 x10 x11 x12 x13 x14 hh Zh V_x8 V_x9 X0 e0 N0 hf
    refine own_step (T' := T0) (g' := (mkF m 173 #[.val (.long x0), .second, .val (.long x2), .second, .val (.int x4), .val (.int x5), .val (.long x6), .second, .val (.ref x8), .val (.ref x9), .val (.int x10), .val (.int x11), .val (.int x12), .val (.int x13), .val (.int x14)] [(.int (1 : Int32))])) (fun _ k => XS.iconst X0.here hx rfl (hb hby at_172) k) ?_
    refine own_step (T' := T0) (g' := (mkF m 177 #[.val (.long x0), .second, .val (.long x2), .second, .val (.int x4), .val (.int x5), .val (.long x6), .second, .val (.ref x8), .val (.ref x9), .val (.int x10), .val (.int x11), .val (.int x12), .val (.int x13), .val (.int x14)] [(.int (1 : Int32))])) (fun _ k => XS.goto X0.here hx rfl (pc0 := 173) (pc' := 177) rfl (hb hby at_173) (by decide) (by decide) k) ?_
    exact B177 T0 _ x0 x2 x4 x5 x6 x8 x9 x10 x11 x12 x13 x14 (1 : Int32) hh Zh V_x8 V_x9 X0 e0 N0 hf
  have B167 : ∀ (T0 : State) (locs : List Loc) (x0 : Int64) (x2 : Int64) (x4 : Int32) (x5 : Int32) (x6 : Int64) (x8 : Addr) (x9 : Addr) (x10 : Int32) (x11 : Int32) (x12 : Int32) (x13 : Int32) (x14 : Int32) (hh : Heap), n0 ≤ hh.size → (own_DL Z hh x8 x0 x6 (x5 &&& 1)) → (own_DL Z hh x9 x0 x6 0) → Stand p l e room_1 s m #[(.long p0), (.long p2), (.int p4)] below meth c T0 locs 2 6 → T0.heap = hh → Fr n0 locs → f0_167 x14 = 1 → own_Goes p e below s (own_Law n0) 16 128 T0 (mkF m 167 #[.val (.long x0), .second, .val (.long x2), .second, .val (.int x4), .val (.int x5), .val (.long x6), .second, .val (.ref x8), .val (.ref x9), .val (.int x10), .val (.int x11), .val (.int x12), .val (.int x13), .val (.int x14)] []) := by
    intro T0 locs x0 x2 x4 x5 x6 x8 x9 x10 x11 x12 x13 x14 hh Zh V_x8 V_x9 X0 e0 N0 hf
    refine own_step (T' := T0) (g' := (mkF m 169 #[.val (.long x0), .second, .val (.long x2), .second, .val (.int x4), .val (.int x5), .val (.long x6), .second, .val (.ref x8), .val (.ref x9), .val (.int x10), .val (.int x11), .val (.int x12), .val (.int x13), .val (.int x14)] [(.int x14)])) (fun _ k => XS.iload X0.here hx rfl (hb hby at_167) rfl k) ?_
    by_cases hc : x14 = (0 : Int32)
    · refine own_step (T' := T0) (g' := (mkF m 176 #[.val (.long x0), .second, .val (.long x2), .second, .val (.int x4), .val (.int x5), .val (.long x6), .second, .val (.ref x8), .val (.ref x9), .val (.int x10), .val (.int x11), .val (.int x12), .val (.int x13), .val (.int x14)] [])) (fun _ k => XS.ifYes X0.here hx rfl (pc0 := 169) (pc' := 176) rfl (hb hby at_169) rfl ((if0 _ _).trans (teq hc).1) (by decide) (by decide) k) ?_
      exact B176 T0 _ x0 x2 x4 x5 x6 x8 x9 x10 x11 x12 x13 x14 hh Zh V_x8 V_x9 X0 e0 N0 ((if_pos hc).symm.trans hf)
    · refine own_step (T' := T0) (g' := (mkF m 172 #[.val (.long x0), .second, .val (.long x2), .second, .val (.int x4), .val (.int x5), .val (.long x6), .second, .val (.ref x8), .val (.ref x9), .val (.int x10), .val (.int x11), .val (.int x12), .val (.int x13), .val (.int x14)] [])) (fun _ k => XS.ifNo X0.here hx rfl (hb hby at_169) rfl ((if0 _ _).trans (feq hc).1) k) ?_
      exact B172 T0 _ x0 x2 x4 x5 x6 x8 x9 x10 x11 x12 x13 x14 hh Zh V_x8 V_x9 X0 e0 N0 ((if_neg hc).symm.trans hf)
  have B162 : ∀ (T0 : State) (locs : List Loc) (x0 : Int64) (x2 : Int64) (x4 : Int32) (x5 : Int32) (x6 : Int64) (x8 : Addr) (x9 : Addr) (x10 : Int32) (x11 : Int32) (x12 : Int32) (x13 : Int32) (x14 : Int32) (hh : Heap), n0 ≤ hh.size → (own_DL Z hh x8 x0 x6 (x5 &&& 1)) → (own_DL Z hh x9 x0 x6 0) → Stand p l e room_1 s m #[(.long p0), (.long p2), (.int p4)] below meth c T0 locs 2 6 → T0.heap = hh → Fr n0 locs → f0_162 x13 x14 = 1 → own_Goes p e below s (own_Law n0) 16 128 T0 (mkF m 162 #[.val (.long x0), .second, .val (.long x2), .second, .val (.int x4), .val (.int x5), .val (.long x6), .second, .val (.ref x8), .val (.ref x9), .val (.int x10), .val (.int x11), .val (.int x12), .val (.int x13), .val (.int x14)] []) := by
    intro T0 locs x0 x2 x4 x5 x6 x8 x9 x10 x11 x12 x13 x14 hh Zh V_x8 V_x9 X0 e0 N0 hf
    refine own_step (T' := T0) (g' := (mkF m 164 #[.val (.long x0), .second, .val (.long x2), .second, .val (.int x4), .val (.int x5), .val (.long x6), .second, .val (.ref x8), .val (.ref x9), .val (.int x10), .val (.int x11), .val (.int x12), .val (.int x13), .val (.int x14)] [(.int x13)])) (fun _ k => XS.iload X0.here hx rfl (hb hby at_162) rfl k) ?_
    by_cases hc : x13 = (0 : Int32)
    · refine own_step (T' := T0) (g' := (mkF m 176 #[.val (.long x0), .second, .val (.long x2), .second, .val (.int x4), .val (.int x5), .val (.long x6), .second, .val (.ref x8), .val (.ref x9), .val (.int x10), .val (.int x11), .val (.int x12), .val (.int x13), .val (.int x14)] [])) (fun _ k => XS.ifYes X0.here hx rfl (pc0 := 164) (pc' := 176) rfl (hb hby at_164) rfl ((if0 _ _).trans (teq hc).1) (by decide) (by decide) k) ?_
      exact B176 T0 _ x0 x2 x4 x5 x6 x8 x9 x10 x11 x12 x13 x14 hh Zh V_x8 V_x9 X0 e0 N0 ((if_pos hc).symm.trans hf)
    · refine own_step (T' := T0) (g' := (mkF m 167 #[.val (.long x0), .second, .val (.long x2), .second, .val (.int x4), .val (.int x5), .val (.long x6), .second, .val (.ref x8), .val (.ref x9), .val (.int x10), .val (.int x11), .val (.int x12), .val (.int x13), .val (.int x14)] [])) (fun _ k => XS.ifNo X0.here hx rfl (hb hby at_164) rfl ((if0 _ _).trans (feq hc).1) k) ?_
      exact B167 T0 _ x0 x2 x4 x5 x6 x8 x9 x10 x11 x12 x13 x14 hh Zh V_x8 V_x9 X0 e0 N0 ((if_neg hc).symm.trans hf)
  have B157 : ∀ (T0 : State) (locs : List Loc) (x0 : Int64) (x2 : Int64) (x4 : Int32) (x5 : Int32) (x6 : Int64) (x8 : Addr) (x9 : Addr) (x10 : Int32) (x11 : Int32) (x12 : Int32) (x13 : Int32) (x14 : Int32) (hh : Heap), n0 ≤ hh.size → (own_DL Z hh x8 x0 x6 (x5 &&& 1)) → (own_DL Z hh x9 x0 x6 0) → Stand p l e room_1 s m #[(.long p0), (.long p2), (.int p4)] below meth c T0 locs 2 6 → T0.heap = hh → Fr n0 locs → f0_157 x12 x13 x14 = 1 → own_Goes p e below s (own_Law n0) 16 128 T0 (mkF m 157 #[.val (.long x0), .second, .val (.long x2), .second, .val (.int x4), .val (.int x5), .val (.long x6), .second, .val (.ref x8), .val (.ref x9), .val (.int x10), .val (.int x11), .val (.int x12), .val (.int x13), .val (.int x14)] []) := by
    intro T0 locs x0 x2 x4 x5 x6 x8 x9 x10 x11 x12 x13 x14 hh Zh V_x8 V_x9 X0 e0 N0 hf
    refine own_step (T' := T0) (g' := (mkF m 159 #[.val (.long x0), .second, .val (.long x2), .second, .val (.int x4), .val (.int x5), .val (.long x6), .second, .val (.ref x8), .val (.ref x9), .val (.int x10), .val (.int x11), .val (.int x12), .val (.int x13), .val (.int x14)] [(.int x12)])) (fun _ k => XS.iload X0.here hx rfl (hb hby at_157) rfl k) ?_
    by_cases hc : x12 = (0 : Int32)
    · refine own_step (T' := T0) (g' := (mkF m 176 #[.val (.long x0), .second, .val (.long x2), .second, .val (.int x4), .val (.int x5), .val (.long x6), .second, .val (.ref x8), .val (.ref x9), .val (.int x10), .val (.int x11), .val (.int x12), .val (.int x13), .val (.int x14)] [])) (fun _ k => XS.ifYes X0.here hx rfl (pc0 := 159) (pc' := 176) rfl (hb hby at_159) rfl ((if0 _ _).trans (teq hc).1) (by decide) (by decide) k) ?_
      exact B176 T0 _ x0 x2 x4 x5 x6 x8 x9 x10 x11 x12 x13 x14 hh Zh V_x8 V_x9 X0 e0 N0 ((if_pos hc).symm.trans hf)
    · refine own_step (T' := T0) (g' := (mkF m 162 #[.val (.long x0), .second, .val (.long x2), .second, .val (.int x4), .val (.int x5), .val (.long x6), .second, .val (.ref x8), .val (.ref x9), .val (.int x10), .val (.int x11), .val (.int x12), .val (.int x13), .val (.int x14)] [])) (fun _ k => XS.ifNo X0.here hx rfl (hb hby at_159) rfl ((if0 _ _).trans (feq hc).1) k) ?_
      exact B162 T0 _ x0 x2 x4 x5 x6 x8 x9 x10 x11 x12 x13 x14 hh Zh V_x8 V_x9 X0 e0 N0 ((if_neg hc).symm.trans hf)
  have B152 : ∀ (T0 : State) (locs : List Loc) (x0 : Int64) (x2 : Int64) (x4 : Int32) (x5 : Int32) (x6 : Int64) (x8 : Addr) (x9 : Addr) (x10 : Int32) (x11 : Int32) (x12 : Int32) (x13 : Int32) (x14 : Int32) (hh : Heap), n0 ≤ hh.size → (own_DL Z hh x8 x0 x6 (x5 &&& 1)) → (own_DL Z hh x9 x0 x6 0) → Stand p l e room_1 s m #[(.long p0), (.long p2), (.int p4)] below meth c T0 locs 2 6 → T0.heap = hh → Fr n0 locs → f0_152 x11 x12 x13 x14 = 1 → own_Goes p e below s (own_Law n0) 16 128 T0 (mkF m 152 #[.val (.long x0), .second, .val (.long x2), .second, .val (.int x4), .val (.int x5), .val (.long x6), .second, .val (.ref x8), .val (.ref x9), .val (.int x10), .val (.int x11), .val (.int x12), .val (.int x13), .val (.int x14)] []) := by
    intro T0 locs x0 x2 x4 x5 x6 x8 x9 x10 x11 x12 x13 x14 hh Zh V_x8 V_x9 X0 e0 N0 hf
    refine own_step (T' := T0) (g' := (mkF m 154 #[.val (.long x0), .second, .val (.long x2), .second, .val (.int x4), .val (.int x5), .val (.long x6), .second, .val (.ref x8), .val (.ref x9), .val (.int x10), .val (.int x11), .val (.int x12), .val (.int x13), .val (.int x14)] [(.int x11)])) (fun _ k => XS.iload X0.here hx rfl (hb hby at_152) rfl k) ?_
    by_cases hc : x11 = (0 : Int32)
    · refine own_step (T' := T0) (g' := (mkF m 176 #[.val (.long x0), .second, .val (.long x2), .second, .val (.int x4), .val (.int x5), .val (.long x6), .second, .val (.ref x8), .val (.ref x9), .val (.int x10), .val (.int x11), .val (.int x12), .val (.int x13), .val (.int x14)] [])) (fun _ k => XS.ifYes X0.here hx rfl (pc0 := 154) (pc' := 176) rfl (hb hby at_154) rfl ((if0 _ _).trans (teq hc).1) (by decide) (by decide) k) ?_
      exact B176 T0 _ x0 x2 x4 x5 x6 x8 x9 x10 x11 x12 x13 x14 hh Zh V_x8 V_x9 X0 e0 N0 ((if_pos hc).symm.trans hf)
    · refine own_step (T' := T0) (g' := (mkF m 157 #[.val (.long x0), .second, .val (.long x2), .second, .val (.int x4), .val (.int x5), .val (.long x6), .second, .val (.ref x8), .val (.ref x9), .val (.int x10), .val (.int x11), .val (.int x12), .val (.int x13), .val (.int x14)] [])) (fun _ k => XS.ifNo X0.here hx rfl (hb hby at_154) rfl ((if0 _ _).trans (feq hc).1) k) ?_
      exact B157 T0 _ x0 x2 x4 x5 x6 x8 x9 x10 x11 x12 x13 x14 hh Zh V_x8 V_x9 X0 e0 N0 ((if_neg hc).symm.trans hf)
  have B145 : ∀ (T0 : State) (locs : List Loc) (x0 : Int64) (x2 : Int64) (x4 : Int32) (x5 : Int32) (x6 : Int64) (x8 : Addr) (x9 : Addr) (x10 : Int32) (x11 : Int32) (x12 : Int32) (x13 : Int32) (t0 : Int32) (hh : Heap), n0 ≤ hh.size → (own_DL Z hh x8 x0 x6 (x5 &&& 1)) → (own_DL Z hh x9 x0 x6 0) → Stand p l e room_1 s m #[(.long p0), (.long p2), (.int p4)] below meth c T0 locs 2 6 → T0.heap = hh → Fr n0 locs → f0_145 x10 x11 x12 x13 t0 = 1 → own_Goes p e below s (own_Law n0) 16 128 T0 (mkF m 145 #[.val (.long x0), .second, .val (.long x2), .second, .val (.int x4), .val (.int x5), .val (.long x6), .second, .val (.ref x8), .val (.ref x9), .val (.int x10), .val (.int x11), .val (.int x12), .val (.int x13), .unset] [(.int t0)]) := by
    intro T0 locs x0 x2 x4 x5 x6 x8 x9 x10 x11 x12 x13 t0 hh Zh V_x8 V_x9 X0 e0 N0 hf
    refine own_step (T' := T0) (g' := (mkF m 147 #[.val (.long x0), .second, .val (.long x2), .second, .val (.int x4), .val (.int x5), .val (.long x6), .second, .val (.ref x8), .val (.ref x9), .val (.int x10), .val (.int x11), .val (.int x12), .val (.int x13), .val (.int t0)] [])) (fun _ k => XS.istore X0.here hx rfl (hb hby at_145) rfl (l' := #[.val (.long x0), .second, .val (.long x2), .second, .val (.int x4), .val (.int x5), .val (.long x6), .second, .val (.ref x8), .val (.ref x9), .val (.int x10), .val (.int x11), .val (.int x12), .val (.int x13), .val (.int t0)]) rfl k) ?_
    refine own_step (T' := T0) (g' := (mkF m 149 #[.val (.long x0), .second, .val (.long x2), .second, .val (.int x4), .val (.int x5), .val (.long x6), .second, .val (.ref x8), .val (.ref x9), .val (.int x10), .val (.int x11), .val (.int x12), .val (.int x13), .val (.int t0)] [(.int x10)])) (fun _ k => XS.iload X0.here hx rfl (hb hby at_147) rfl k) ?_
    by_cases hc : x10 = (0 : Int32)
    · refine own_step (T' := T0) (g' := (mkF m 176 #[.val (.long x0), .second, .val (.long x2), .second, .val (.int x4), .val (.int x5), .val (.long x6), .second, .val (.ref x8), .val (.ref x9), .val (.int x10), .val (.int x11), .val (.int x12), .val (.int x13), .val (.int t0)] [])) (fun _ k => XS.ifYes X0.here hx rfl (pc0 := 149) (pc' := 176) rfl (hb hby at_149) rfl ((if0 _ _).trans (teq hc).1) (by decide) (by decide) k) ?_
      exact B176 T0 _ x0 x2 x4 x5 x6 x8 x9 x10 x11 x12 x13 t0 hh Zh V_x8 V_x9 X0 e0 N0 ((if_pos hc).symm.trans hf)
    · refine own_step (T' := T0) (g' := (mkF m 152 #[.val (.long x0), .second, .val (.long x2), .second, .val (.int x4), .val (.int x5), .val (.long x6), .second, .val (.ref x8), .val (.ref x9), .val (.int x10), .val (.int x11), .val (.int x12), .val (.int x13), .val (.int t0)] [])) (fun _ k => XS.ifNo X0.here hx rfl (hb hby at_149) rfl ((if0 _ _).trans (feq hc).1) k) ?_
      exact B152 T0 _ x0 x2 x4 x5 x6 x8 x9 x10 x11 x12 x13 t0 hh Zh V_x8 V_x9 X0 e0 N0 ((if_neg hc).symm.trans hf)
  have B144 : ∀ (T0 : State) (locs : List Loc) (x0 : Int64) (x2 : Int64) (x4 : Int32) (x5 : Int32) (x6 : Int64) (x8 : Addr) (x9 : Addr) (x10 : Int32) (x11 : Int32) (x12 : Int32) (x13 : Int32) (hh : Heap), n0 ≤ hh.size → (own_DL Z hh x8 x0 x6 (x5 &&& 1)) → (own_DL Z hh x9 x0 x6 0) → Stand p l e room_1 s m #[(.long p0), (.long p2), (.int p4)] below meth c T0 locs 2 6 → T0.heap = hh → Fr n0 locs → f0_144 x10 x11 x12 x13 = 1 → own_Goes p e below s (own_Law n0) 16 128 T0 (mkF m 144 #[.val (.long x0), .second, .val (.long x2), .second, .val (.int x4), .val (.int x5), .val (.long x6), .second, .val (.ref x8), .val (.ref x9), .val (.int x10), .val (.int x11), .val (.int x12), .val (.int x13), .unset] []) := by
    intro T0 locs x0 x2 x4 x5 x6 x8 x9 x10 x11 x12 x13 hh Zh V_x8 V_x9 X0 e0 N0 hf
    refine own_step (T' := T0) (g' := (mkF m 145 #[.val (.long x0), .second, .val (.long x2), .second, .val (.int x4), .val (.int x5), .val (.long x6), .second, .val (.ref x8), .val (.ref x9), .val (.int x10), .val (.int x11), .val (.int x12), .val (.int x13), .unset] [(.int (0 : Int32))])) (fun _ k => XS.iconst X0.here hx rfl (hb hby at_144) k) ?_
    exact B145 T0 _ x0 x2 x4 x5 x6 x8 x9 x10 x11 x12 x13 (0 : Int32) hh Zh V_x8 V_x9 X0 e0 N0 hf
  have B140 : ∀ (T0 : State) (locs : List Loc) (x0 : Int64) (x2 : Int64) (x4 : Int32) (x5 : Int32) (x6 : Int64) (x8 : Addr) (x9 : Addr) (x10 : Int32) (x11 : Int32) (x12 : Int32) (x13 : Int32) (hh : Heap), n0 ≤ hh.size → (own_DL Z hh x8 x0 x6 (x5 &&& 1)) → (own_DL Z hh x9 x0 x6 0) → Stand p l e room_1 s m #[(.long p0), (.long p2), (.int p4)] below meth c T0 locs 2 6 → T0.heap = hh → Fr n0 locs → f0_140 x10 x11 x12 x13 = 1 → own_Goes p e below s (own_Law n0) 16 128 T0 (mkF m 140 #[.val (.long x0), .second, .val (.long x2), .second, .val (.int x4), .val (.int x5), .val (.long x6), .second, .val (.ref x8), .val (.ref x9), .val (.int x10), .val (.int x11), .val (.int x12), .val (.int x13), .unset] []) := by
    intro T0 locs x0 x2 x4 x5 x6 x8 x9 x10 x11 x12 x13 hh Zh V_x8 V_x9 X0 e0 N0 hf
    refine own_step (T' := T0) (g' := (mkF m 141 #[.val (.long x0), .second, .val (.long x2), .second, .val (.int x4), .val (.int x5), .val (.long x6), .second, .val (.ref x8), .val (.ref x9), .val (.int x10), .val (.int x11), .val (.int x12), .val (.int x13), .unset] [(.int (1 : Int32))])) (fun _ k => XS.iconst X0.here hx rfl (hb hby at_140) k) ?_
    refine own_step (T' := T0) (g' := (mkF m 145 #[.val (.long x0), .second, .val (.long x2), .second, .val (.int x4), .val (.int x5), .val (.long x6), .second, .val (.ref x8), .val (.ref x9), .val (.int x10), .val (.int x11), .val (.int x12), .val (.int x13), .unset] [(.int (1 : Int32))])) (fun _ k => XS.goto X0.here hx rfl (pc0 := 141) (pc' := 145) rfl (hb hby at_141) (by decide) (by decide) k) ?_
    exact B145 T0 _ x0 x2 x4 x5 x6 x8 x9 x10 x11 x12 x13 (1 : Int32) hh Zh V_x8 V_x9 X0 e0 N0 hf
  have B128 : ∀ (T0 : State) (locs : List Loc) (x0 : Int64) (x2 : Int64) (x4 : Int32) (x5 : Int32) (x6 : Int64) (x8 : Addr) (x9 : Addr) (x10 : Int32) (x11 : Int32) (x12 : Int32) (t0 : Int32) (hh : Heap), n0 ≤ hh.size → (own_DL Z hh x8 x0 x6 (x5 &&& 1)) → (own_DL Z hh x9 x0 x6 0) → Stand p l e room_1 s m #[(.long p0), (.long p2), (.int p4)] below meth c T0 locs 2 6 → T0.heap = hh → Fr n0 locs → f0_128 x5 x10 x11 x12 t0 = 1 → own_Goes p e below s (own_Law n0) 16 128 T0 (mkF m 128 #[.val (.long x0), .second, .val (.long x2), .second, .val (.int x4), .val (.int x5), .val (.long x6), .second, .val (.ref x8), .val (.ref x9), .val (.int x10), .val (.int x11), .val (.int x12), .unset, .unset] [(.int t0)]) := by
    intro T0 locs x0 x2 x4 x5 x6 x8 x9 x10 x11 x12 t0 hh Zh V_x8 V_x9 X0 e0 N0 hf
    refine own_step (T' := T0) (g' := (mkF m 130 #[.val (.long x0), .second, .val (.long x2), .second, .val (.int x4), .val (.int x5), .val (.long x6), .second, .val (.ref x8), .val (.ref x9), .val (.int x10), .val (.int x11), .val (.int x12), .val (.int t0), .unset] [])) (fun _ k => XS.istore X0.here hx rfl (hb hby at_128) rfl (l' := #[.val (.long x0), .second, .val (.long x2), .second, .val (.int x4), .val (.int x5), .val (.long x6), .second, .val (.ref x8), .val (.ref x9), .val (.int x10), .val (.int x11), .val (.int x12), .val (.int t0), .unset]) rfl k) ?_
    refine own_step (T' := T0) (g' := (mkF m 132 #[.val (.long x0), .second, .val (.long x2), .second, .val (.int x4), .val (.int x5), .val (.long x6), .second, .val (.ref x8), .val (.ref x9), .val (.int x10), .val (.int x11), .val (.int x12), .val (.int t0), .unset] [(.ref x8)])) (fun _ k => XS.aload X0.here hx rfl (hb hby at_130) rfl rfl k) ?_
    obtain ⟨cqz1_1, kqz1_1, qz1_1a, qz1_1b, qz1_1c⟩ := isOf hZ e0 V_x8.1
    obtain ⟨_, _, ⟨Tz1_1, Lz1_1, kz1_1, nz1_1⟩, -, Xz1_1, ⟨Lcz1_1, hQz1_1, lz1_1, yz1_1, zz1_1⟩, stz1_1⟩ := X0.virtualBack hx (y := (⟨"com/example/careful_lock/carefullock/Deadline", "interruptible", "()Z"⟩ : MethodName)) (z := (⟨"com/example/careful_lock/carefullock/Deadline", "interruptible", "()Z"⟩ : MethodName)) hown (mvT hZ (hw _ (List.mem_of_getElem? (i := 37) rfl))) (mvT hZ (hw _ (List.mem_of_getElem? (i := 38) rfl))) (notFace_of_selects (args := #[]) (mvT hZ (hw _ (List.mem_of_getElem? (i := 40) rfl)))) (mvT hZ (hw _ (List.mem_of_getElem? (i := 40) rfl))) (mvT hZ (hw _ (List.mem_of_getElem? (i := 39) rfl))) (by decide) (backOf (W := 0) (rm7 l Z a0 hw [] x8 x0 x6 (x5 &&& 1) hh n0 Zh V_x8) hZ (hw _ (List.mem_of_getElem? (i := 41) rfl)) (hw _ (List.mem_of_getElem? (i := 2) rfl)) (by decide) (by decide)) qz1_1a qz1_1c (g := (mkF m 132 #[.val (.long x0), .second, .val (.long x2), .second, .val (.int x4), .val (.int x5), .val (.long x6), .second, .val (.ref x8), .val (.ref x9), .val (.int x10), .val (.int x11), .val (.int x12), .val (.int t0), .unset] [(.ref x8)])) rfl (by rw [hml]; rfl) (Steps.refl _) (argsL := []) (rest := []) (lenOf pd_4 rfl) rfl (by show 2 * 0 + _ ≤ _; exact Nat.le_of_eq rfl) (hb hby at_132) (fun _ _ => ⟨rfl, e0, (by decide : 2 + 0 ≤ _), (by decide : 6 + 0 ≤ _)⟩)
    dsimp only [Pt.U, Pt.locs, Pt.cells, Pt.slots] at Xz1_1 lz1_1 yz1_1 zz1_1 stz1_1 hQz1_1
    subst lz1_1 yz1_1 zz1_1
    obtain ⟨rfl, Nz1_1q, ez1_1⟩ := hQz1_1
    have Nz1_1 := Fr.app N0 Nz1_1q
    refine own_step (T' := Tz1_1) (g' := (mkF m 135 #[.val (.long x0), .second, .val (.long x2), .second, .val (.int x4), .val (.int x5), .val (.long x6), .second, .val (.ref x8), .val (.ref x9), .val (.int x10), .val (.int x11), .val (.int x12), .val (.int t0), .unset] [(.int ((x5 &&& 1) &&& 1))])) (fun _ k => stz1_1.trans k) ?_
    refine own_step (T' := Tz1_1) (g' := (mkF m 137 #[.val (.long x0), .second, .val (.long x2), .second, .val (.int x4), .val (.int x5), .val (.long x6), .second, .val (.ref x8), .val (.ref x9), .val (.int x10), .val (.int x11), .val (.int x12), .val (.int t0), .unset] [(.int x5), (.int ((x5 &&& 1) &&& 1))])) (fun _ k => XS.iload Xz1_1.here hx rfl (hb hby at_135) rfl k) ?_
    by_cases hc : ((x5 &&& 1) &&& 1) = x5
    · refine own_step (T' := Tz1_1) (g' := (mkF m 140 #[.val (.long x0), .second, .val (.long x2), .second, .val (.int x4), .val (.int x5), .val (.long x6), .second, .val (.ref x8), .val (.ref x9), .val (.int x10), .val (.int x11), .val (.int x12), .val (.int t0), .unset] [])) (fun _ k => XS.icmpNo Xz1_1.here hx rfl (hb hby at_137) rfl (teq hc).2 k) ?_
      exact B140 Tz1_1 _ x0 x2 x4 x5 x6 x8 x9 x10 x11 x12 t0 hh Zh V_x8 V_x9 Xz1_1 ez1_1 Nz1_1 ((if_pos hc).symm.trans hf)
    · refine own_step (T' := Tz1_1) (g' := (mkF m 144 #[.val (.long x0), .second, .val (.long x2), .second, .val (.int x4), .val (.int x5), .val (.long x6), .second, .val (.ref x8), .val (.ref x9), .val (.int x10), .val (.int x11), .val (.int x12), .val (.int t0), .unset] [])) (fun _ k => XS.icmpYes Xz1_1.here hx rfl (pc0 := 137) (pc' := 144) rfl (hb hby at_137) rfl (feq hc).2 (by decide) (by decide) k) ?_
      exact B144 Tz1_1 _ x0 x2 x4 x5 x6 x8 x9 x10 x11 x12 t0 hh Zh V_x8 V_x9 Xz1_1 ez1_1 Nz1_1 ((if_neg hc).symm.trans hf)
  have B127 : ∀ (T0 : State) (locs : List Loc) (x0 : Int64) (x2 : Int64) (x4 : Int32) (x5 : Int32) (x6 : Int64) (x8 : Addr) (x9 : Addr) (x10 : Int32) (x11 : Int32) (x12 : Int32) (hh : Heap), n0 ≤ hh.size → (own_DL Z hh x8 x0 x6 (x5 &&& 1)) → (own_DL Z hh x9 x0 x6 0) → Stand p l e room_1 s m #[(.long p0), (.long p2), (.int p4)] below meth c T0 locs 2 6 → T0.heap = hh → Fr n0 locs → f0_127 x5 x10 x11 x12 = 1 → own_Goes p e below s (own_Law n0) 16 128 T0 (mkF m 127 #[.val (.long x0), .second, .val (.long x2), .second, .val (.int x4), .val (.int x5), .val (.long x6), .second, .val (.ref x8), .val (.ref x9), .val (.int x10), .val (.int x11), .val (.int x12), .unset, .unset] []) := by
    intro T0 locs x0 x2 x4 x5 x6 x8 x9 x10 x11 x12 hh Zh V_x8 V_x9 X0 e0 N0 hf
    refine own_step (T' := T0) (g' := (mkF m 128 #[.val (.long x0), .second, .val (.long x2), .second, .val (.int x4), .val (.int x5), .val (.long x6), .second, .val (.ref x8), .val (.ref x9), .val (.int x10), .val (.int x11), .val (.int x12), .unset, .unset] [(.int (0 : Int32))])) (fun _ k => XS.iconst X0.here hx rfl (hb hby at_127) k) ?_
    exact B128 T0 _ x0 x2 x4 x5 x6 x8 x9 x10 x11 x12 (0 : Int32) hh Zh V_x8 V_x9 X0 e0 N0 hf
  have B123 : ∀ (T0 : State) (locs : List Loc) (x0 : Int64) (x2 : Int64) (x4 : Int32) (x5 : Int32) (x6 : Int64) (x8 : Addr) (x9 : Addr) (x10 : Int32) (x11 : Int32) (x12 : Int32) (hh : Heap), n0 ≤ hh.size → (own_DL Z hh x8 x0 x6 (x5 &&& 1)) → (own_DL Z hh x9 x0 x6 0) → Stand p l e room_1 s m #[(.long p0), (.long p2), (.int p4)] below meth c T0 locs 2 6 → T0.heap = hh → Fr n0 locs → f0_123 x5 x10 x11 x12 = 1 → own_Goes p e below s (own_Law n0) 16 128 T0 (mkF m 123 #[.val (.long x0), .second, .val (.long x2), .second, .val (.int x4), .val (.int x5), .val (.long x6), .second, .val (.ref x8), .val (.ref x9), .val (.int x10), .val (.int x11), .val (.int x12), .unset, .unset] []) := by
    intro T0 locs x0 x2 x4 x5 x6 x8 x9 x10 x11 x12 hh Zh V_x8 V_x9 X0 e0 N0 hf
    refine own_step (T' := T0) (g' := (mkF m 124 #[.val (.long x0), .second, .val (.long x2), .second, .val (.int x4), .val (.int x5), .val (.long x6), .second, .val (.ref x8), .val (.ref x9), .val (.int x10), .val (.int x11), .val (.int x12), .unset, .unset] [(.int (1 : Int32))])) (fun _ k => XS.iconst X0.here hx rfl (hb hby at_123) k) ?_
    refine own_step (T' := T0) (g' := (mkF m 128 #[.val (.long x0), .second, .val (.long x2), .second, .val (.int x4), .val (.int x5), .val (.long x6), .second, .val (.ref x8), .val (.ref x9), .val (.int x10), .val (.int x11), .val (.int x12), .unset, .unset] [(.int (1 : Int32))])) (fun _ k => XS.goto X0.here hx rfl (pc0 := 124) (pc' := 128) rfl (hb hby at_124) (by decide) (by decide) k) ?_
    exact B128 T0 _ x0 x2 x4 x5 x6 x8 x9 x10 x11 x12 (1 : Int32) hh Zh V_x8 V_x9 X0 e0 N0 hf
  have B120 : ∀ (T0 : State) (locs : List Loc) (x0 : Int64) (x2 : Int64) (x4 : Int32) (x5 : Int32) (x6 : Int64) (x8 : Addr) (x9 : Addr) (x10 : Int32) (x11 : Int32) (x12 : Int32) (t0 : Int32) (t1 : Int32) (hh : Heap), n0 ≤ hh.size → (own_DL Z hh x8 x0 x6 (x5 &&& 1)) → (own_DL Z hh x9 x0 x6 0) → Stand p l e room_1 s m #[(.long p0), (.long p2), (.int p4)] below meth c T0 locs 2 6 → T0.heap = hh → Fr n0 locs → f0_120 x5 x10 x11 x12 t0 t1 = 1 → own_Goes p e below s (own_Law n0) 16 128 T0 (mkF m 120 #[.val (.long x0), .second, .val (.long x2), .second, .val (.int x4), .val (.int x5), .val (.long x6), .second, .val (.ref x8), .val (.ref x9), .val (.int x10), .val (.int x11), .val (.int x12), .unset, .unset] [(.int t0), (.int t1)]) := by
    intro T0 locs x0 x2 x4 x5 x6 x8 x9 x10 x11 x12 t0 t1 hh Zh V_x8 V_x9 X0 e0 N0 hf
    by_cases hc : t1 = t0
    · refine own_step (T' := T0) (g' := (mkF m 123 #[.val (.long x0), .second, .val (.long x2), .second, .val (.int x4), .val (.int x5), .val (.long x6), .second, .val (.ref x8), .val (.ref x9), .val (.int x10), .val (.int x11), .val (.int x12), .unset, .unset] [])) (fun _ k => XS.icmpNo X0.here hx rfl (hb hby at_120) rfl (teq hc).2 k) ?_
      exact B123 T0 _ x0 x2 x4 x5 x6 x8 x9 x10 x11 x12 hh Zh V_x8 V_x9 X0 e0 N0 ((if_pos hc).symm.trans hf)
    · refine own_step (T' := T0) (g' := (mkF m 127 #[.val (.long x0), .second, .val (.long x2), .second, .val (.int x4), .val (.int x5), .val (.long x6), .second, .val (.ref x8), .val (.ref x9), .val (.int x10), .val (.int x11), .val (.int x12), .unset, .unset] [])) (fun _ k => XS.icmpYes X0.here hx rfl (pc0 := 120) (pc' := 127) rfl (hb hby at_120) rfl (feq hc).2 (by decide) (by decide) k) ?_
      exact B127 T0 _ x0 x2 x4 x5 x6 x8 x9 x10 x11 x12 hh Zh V_x8 V_x9 X0 e0 N0 ((if_neg hc).symm.trans hf)
  have B119 : ∀ (T0 : State) (locs : List Loc) (x0 : Int64) (x2 : Int64) (x4 : Int32) (x5 : Int32) (x6 : Int64) (x8 : Addr) (x9 : Addr) (x10 : Int32) (x11 : Int32) (x12 : Int32) (t0 : Int32) (hh : Heap), n0 ≤ hh.size → (own_DL Z hh x8 x0 x6 (x5 &&& 1)) → (own_DL Z hh x9 x0 x6 0) → Stand p l e room_1 s m #[(.long p0), (.long p2), (.int p4)] below meth c T0 locs 2 6 → T0.heap = hh → Fr n0 locs → f0_119 x5 x10 x11 x12 t0 = 1 → own_Goes p e below s (own_Law n0) 16 128 T0 (mkF m 119 #[.val (.long x0), .second, .val (.long x2), .second, .val (.int x4), .val (.int x5), .val (.long x6), .second, .val (.ref x8), .val (.ref x9), .val (.int x10), .val (.int x11), .val (.int x12), .unset, .unset] [(.int t0)]) := by
    intro T0 locs x0 x2 x4 x5 x6 x8 x9 x10 x11 x12 t0 hh Zh V_x8 V_x9 X0 e0 N0 hf
    refine own_step (T' := T0) (g' := (mkF m 120 #[.val (.long x0), .second, .val (.long x2), .second, .val (.int x4), .val (.int x5), .val (.long x6), .second, .val (.ref x8), .val (.ref x9), .val (.int x10), .val (.int x11), .val (.int x12), .unset, .unset] [(.int (0 : Int32)), (.int t0)])) (fun _ k => XS.iconst X0.here hx rfl (hb hby at_119) k) ?_
    exact B120 T0 _ x0 x2 x4 x5 x6 x8 x9 x10 x11 x12 (0 : Int32) t0 hh Zh V_x8 V_x9 X0 e0 N0 hf
  have B115 : ∀ (T0 : State) (locs : List Loc) (x0 : Int64) (x2 : Int64) (x4 : Int32) (x5 : Int32) (x6 : Int64) (x8 : Addr) (x9 : Addr) (x10 : Int32) (x11 : Int32) (x12 : Int32) (t0 : Int32) (hh : Heap), n0 ≤ hh.size → (own_DL Z hh x8 x0 x6 (x5 &&& 1)) → (own_DL Z hh x9 x0 x6 0) → Stand p l e room_1 s m #[(.long p0), (.long p2), (.int p4)] below meth c T0 locs 2 6 → T0.heap = hh → Fr n0 locs → f0_115 x5 x10 x11 x12 t0 = 1 → own_Goes p e below s (own_Law n0) 16 128 T0 (mkF m 115 #[.val (.long x0), .second, .val (.long x2), .second, .val (.int x4), .val (.int x5), .val (.long x6), .second, .val (.ref x8), .val (.ref x9), .val (.int x10), .val (.int x11), .val (.int x12), .unset, .unset] [(.int t0)]) := by
    intro T0 locs x0 x2 x4 x5 x6 x8 x9 x10 x11 x12 t0 hh Zh V_x8 V_x9 X0 e0 N0 hf
    refine own_step (T' := T0) (g' := (mkF m 116 #[.val (.long x0), .second, .val (.long x2), .second, .val (.int x4), .val (.int x5), .val (.long x6), .second, .val (.ref x8), .val (.ref x9), .val (.int x10), .val (.int x11), .val (.int x12), .unset, .unset] [(.int (1 : Int32)), (.int t0)])) (fun _ k => XS.iconst X0.here hx rfl (hb hby at_115) k) ?_
    refine own_step (T' := T0) (g' := (mkF m 120 #[.val (.long x0), .second, .val (.long x2), .second, .val (.int x4), .val (.int x5), .val (.long x6), .second, .val (.ref x8), .val (.ref x9), .val (.int x10), .val (.int x11), .val (.int x12), .unset, .unset] [(.int (1 : Int32)), (.int t0)])) (fun _ k => XS.goto X0.here hx rfl (pc0 := 116) (pc' := 120) rfl (hb hby at_116) (by decide) (by decide) k) ?_
    exact B120 T0 _ x0 x2 x4 x5 x6 x8 x9 x10 x11 x12 (1 : Int32) t0 hh Zh V_x8 V_x9 X0 e0 N0 hf
  have B99 : ∀ (T0 : State) (locs : List Loc) (x0 : Int64) (x2 : Int64) (x4 : Int32) (x5 : Int32) (x6 : Int64) (x8 : Addr) (x9 : Addr) (x10 : Int32) (x11 : Int32) (t0 : Int32) (hh : Heap), n0 ≤ hh.size → (own_DL Z hh x8 x0 x6 (x5 &&& 1)) → (own_DL Z hh x9 x0 x6 0) → Stand p l e room_1 s m #[(.long p0), (.long p2), (.int p4)] below meth c T0 locs 2 6 → T0.heap = hh → Fr n0 locs → f0_99 x5 x6 x10 x11 t0 = 1 → own_Goes p e below s (own_Law n0) 16 128 T0 (mkF m 99 #[.val (.long x0), .second, .val (.long x2), .second, .val (.int x4), .val (.int x5), .val (.long x6), .second, .val (.ref x8), .val (.ref x9), .val (.int x10), .val (.int x11), .unset, .unset, .unset] [(.int t0)]) := by
    intro T0 locs x0 x2 x4 x5 x6 x8 x9 x10 x11 t0 hh Zh V_x8 V_x9 X0 e0 N0 hf
    refine own_step (T' := T0) (g' := (mkF m 101 #[.val (.long x0), .second, .val (.long x2), .second, .val (.int x4), .val (.int x5), .val (.long x6), .second, .val (.ref x8), .val (.ref x9), .val (.int x10), .val (.int x11), .val (.int t0), .unset, .unset] [])) (fun _ k => XS.istore X0.here hx rfl (hb hby at_99) rfl (l' := #[.val (.long x0), .second, .val (.long x2), .second, .val (.int x4), .val (.int x5), .val (.long x6), .second, .val (.ref x8), .val (.ref x9), .val (.int x10), .val (.int x11), .val (.int t0), .unset, .unset]) rfl k) ?_
    refine own_step (T' := T0) (g' := (mkF m 103 #[.val (.long x0), .second, .val (.long x2), .second, .val (.int x4), .val (.int x5), .val (.long x6), .second, .val (.ref x8), .val (.ref x9), .val (.int x10), .val (.int x11), .val (.int t0), .unset, .unset] [(.ref x9)])) (fun _ k => XS.aload X0.here hx rfl (hb hby at_101) rfl rfl k) ?_
    obtain ⟨cqz1_1, kqz1_1, qz1_1a, qz1_1b, qz1_1c⟩ := isOf hZ e0 V_x9.1
    obtain ⟨_, _, ⟨Tz1_1, Lz1_1, kz1_1, nz1_1⟩, -, Xz1_1, ⟨Lcz1_1, hQz1_1, lz1_1, yz1_1, zz1_1⟩, stz1_1⟩ := X0.virtualBack hx (y := (⟨"com/example/careful_lock/carefullock/Deadline", "isNever", "()Z"⟩ : MethodName)) (z := (⟨"com/example/careful_lock/carefullock/Deadline", "isNever", "()Z"⟩ : MethodName)) hown (mvT hZ (hw _ (List.mem_of_getElem? (i := 42) rfl))) (mvT hZ (hw _ (List.mem_of_getElem? (i := 43) rfl))) (notFace_of_selects (args := #[]) (mvT hZ (hw _ (List.mem_of_getElem? (i := 45) rfl)))) (mvT hZ (hw _ (List.mem_of_getElem? (i := 45) rfl))) (mvT hZ (hw _ (List.mem_of_getElem? (i := 44) rfl))) (by decide) (backOf (W := 0) (rm8 l Z a0 hw [] x9 x0 x6 (0 : Int32) hh n0 Zh V_x9) hZ (hw _ (List.mem_of_getElem? (i := 46) rfl)) (hw _ (List.mem_of_getElem? (i := 2) rfl)) (by decide) (by decide)) qz1_1a qz1_1c (g := (mkF m 103 #[.val (.long x0), .second, .val (.long x2), .second, .val (.int x4), .val (.int x5), .val (.long x6), .second, .val (.ref x8), .val (.ref x9), .val (.int x10), .val (.int x11), .val (.int t0), .unset, .unset] [(.ref x9)])) rfl (by rw [hml]; rfl) (Steps.refl _) (argsL := []) (rest := []) (lenOf pd_4 rfl) rfl (by show 2 * 0 + _ ≤ _; exact Nat.le_of_eq rfl) (hb hby at_103) (fun _ _ => ⟨rfl, e0, (by decide : 2 + 0 ≤ _), (by decide : 6 + 0 ≤ _)⟩)
    dsimp only [Pt.U, Pt.locs, Pt.cells, Pt.slots] at Xz1_1 lz1_1 yz1_1 zz1_1 stz1_1 hQz1_1
    subst lz1_1 yz1_1 zz1_1
    obtain ⟨rfl, Nz1_1q, ez1_1⟩ := hQz1_1
    have Nz1_1 := Fr.app N0 Nz1_1q
    refine own_step (T' := Tz1_1) (g' := (mkF m 106 #[.val (.long x0), .second, .val (.long x2), .second, .val (.int x4), .val (.int x5), .val (.long x6), .second, .val (.ref x8), .val (.ref x9), .val (.int x10), .val (.int x11), .val (.int t0), .unset, .unset] [(.int (own_never x6))])) (fun _ k => stz1_1.trans k) ?_
    refine own_step (T' := Tz1_1) (g' := (mkF m 108 #[.val (.long x0), .second, .val (.long x2), .second, .val (.int x4), .val (.int x5), .val (.long x6), .second, .val (.ref x8), .val (.ref x9), .val (.int x10), .val (.int x11), .val (.int t0), .unset, .unset] [(.long x6), (.int (own_never x6))])) (fun _ k => XS.lload Xz1_1.here hx rfl (hb hby at_106) rfl k) ?_
    refine own_step (T' := Tz1_1) (g' := (mkF m 111 #[.val (.long x0), .second, .val (.long x2), .second, .val (.int x4), .val (.int x5), .val (.long x6), .second, .val (.ref x8), .val (.ref x9), .val (.int x10), .val (.int x11), .val (.int t0), .unset, .unset] [(.long (9223372036854775807 : Int64)), (.long x6), (.int (own_never x6))])) (fun _ k => Xz1_1.ldc2Long hx hown (mvT hZ (hw _ (List.mem_of_getElem? (i := 48) rfl))) (g := (mkF m 108 #[.val (.long x0), .second, .val (.long x2), .second, .val (.int x4), .val (.int x5), .val (.long x6), .second, .val (.ref x8), .val (.ref x9), .val (.int x10), .val (.int x11), .val (.int t0), .unset, .unset] [(.long x6), (.int (own_never x6))])) rfl (hb hby at_108) _ k) ?_
    refine own_step (T' := Tz1_1) (g' := (mkF m 112 #[.val (.long x0), .second, .val (.long x2), .second, .val (.int x4), .val (.int x5), .val (.long x6), .second, .val (.ref x8), .val (.ref x9), .val (.int x10), .val (.int x11), .val (.int t0), .unset, .unset] [(.int (lcmpW x6 (9223372036854775807 : Int64))), (.int (own_never x6))])) (fun _ k => XS.lcmp Xz1_1.here hx rfl (hb hby at_111) rfl k) ?_
    by_cases hc : (lcmpW x6 (9223372036854775807 : Int64)) = (0 : Int32)
    · refine own_step (T' := Tz1_1) (g' := (mkF m 115 #[.val (.long x0), .second, .val (.long x2), .second, .val (.int x4), .val (.int x5), .val (.long x6), .second, .val (.ref x8), .val (.ref x9), .val (.int x10), .val (.int x11), .val (.int t0), .unset, .unset] [(.int (own_never x6))])) (fun _ k => XS.ifNo Xz1_1.here hx rfl (hb hby at_112) rfl ((if0 _ _).trans (teq hc).2) k) ?_
      exact B115 Tz1_1 _ x0 x2 x4 x5 x6 x8 x9 x10 x11 t0 (own_never x6) hh Zh V_x8 V_x9 Xz1_1 ez1_1 Nz1_1 ((if_pos hc).symm.trans hf)
    · refine own_step (T' := Tz1_1) (g' := (mkF m 119 #[.val (.long x0), .second, .val (.long x2), .second, .val (.int x4), .val (.int x5), .val (.long x6), .second, .val (.ref x8), .val (.ref x9), .val (.int x10), .val (.int x11), .val (.int t0), .unset, .unset] [(.int (own_never x6))])) (fun _ k => XS.ifYes Xz1_1.here hx rfl (pc0 := 112) (pc' := 119) rfl (hb hby at_112) rfl ((if0 _ _).trans (feq hc).2) (by decide) (by decide) k) ?_
      exact B119 Tz1_1 _ x0 x2 x4 x5 x6 x8 x9 x10 x11 t0 (own_never x6) hh Zh V_x8 V_x9 Xz1_1 ez1_1 Nz1_1 ((if_neg hc).symm.trans hf)
  have B98 : ∀ (T0 : State) (locs : List Loc) (x0 : Int64) (x2 : Int64) (x4 : Int32) (x5 : Int32) (x6 : Int64) (x8 : Addr) (x9 : Addr) (x10 : Int32) (x11 : Int32) (hh : Heap), n0 ≤ hh.size → (own_DL Z hh x8 x0 x6 (x5 &&& 1)) → (own_DL Z hh x9 x0 x6 0) → Stand p l e room_1 s m #[(.long p0), (.long p2), (.int p4)] below meth c T0 locs 2 6 → T0.heap = hh → Fr n0 locs → f0_98 x5 x6 x10 x11 = 1 → own_Goes p e below s (own_Law n0) 16 128 T0 (mkF m 98 #[.val (.long x0), .second, .val (.long x2), .second, .val (.int x4), .val (.int x5), .val (.long x6), .second, .val (.ref x8), .val (.ref x9), .val (.int x10), .val (.int x11), .unset, .unset, .unset] []) := by
    intro T0 locs x0 x2 x4 x5 x6 x8 x9 x10 x11 hh Zh V_x8 V_x9 X0 e0 N0 hf
    refine own_step (T' := T0) (g' := (mkF m 99 #[.val (.long x0), .second, .val (.long x2), .second, .val (.int x4), .val (.int x5), .val (.long x6), .second, .val (.ref x8), .val (.ref x9), .val (.int x10), .val (.int x11), .unset, .unset, .unset] [(.int (0 : Int32))])) (fun _ k => XS.iconst X0.here hx rfl (hb hby at_98) k) ?_
    exact B99 T0 _ x0 x2 x4 x5 x6 x8 x9 x10 x11 (0 : Int32) hh Zh V_x8 V_x9 X0 e0 N0 hf
  have B94 : ∀ (T0 : State) (locs : List Loc) (x0 : Int64) (x2 : Int64) (x4 : Int32) (x5 : Int32) (x6 : Int64) (x8 : Addr) (x9 : Addr) (x10 : Int32) (x11 : Int32) (hh : Heap), n0 ≤ hh.size → (own_DL Z hh x8 x0 x6 (x5 &&& 1)) → (own_DL Z hh x9 x0 x6 0) → Stand p l e room_1 s m #[(.long p0), (.long p2), (.int p4)] below meth c T0 locs 2 6 → T0.heap = hh → Fr n0 locs → f0_94 x5 x6 x10 x11 = 1 → own_Goes p e below s (own_Law n0) 16 128 T0 (mkF m 94 #[.val (.long x0), .second, .val (.long x2), .second, .val (.int x4), .val (.int x5), .val (.long x6), .second, .val (.ref x8), .val (.ref x9), .val (.int x10), .val (.int x11), .unset, .unset, .unset] []) := by
    intro T0 locs x0 x2 x4 x5 x6 x8 x9 x10 x11 hh Zh V_x8 V_x9 X0 e0 N0 hf
    refine own_step (T' := T0) (g' := (mkF m 95 #[.val (.long x0), .second, .val (.long x2), .second, .val (.int x4), .val (.int x5), .val (.long x6), .second, .val (.ref x8), .val (.ref x9), .val (.int x10), .val (.int x11), .unset, .unset, .unset] [(.int (1 : Int32))])) (fun _ k => XS.iconst X0.here hx rfl (hb hby at_94) k) ?_
    refine own_step (T' := T0) (g' := (mkF m 99 #[.val (.long x0), .second, .val (.long x2), .second, .val (.int x4), .val (.int x5), .val (.long x6), .second, .val (.ref x8), .val (.ref x9), .val (.int x10), .val (.int x11), .unset, .unset, .unset] [(.int (1 : Int32))])) (fun _ k => XS.goto X0.here hx rfl (pc0 := 95) (pc' := 99) rfl (hb hby at_95) (by decide) (by decide) k) ?_
    exact B99 T0 _ x0 x2 x4 x5 x6 x8 x9 x10 x11 (1 : Int32) hh Zh V_x8 V_x9 X0 e0 N0 hf
  have B84 : ∀ (T0 : State) (locs : List Loc) (x0 : Int64) (x2 : Int64) (x4 : Int32) (x5 : Int32) (x6 : Int64) (x8 : Addr) (x9 : Addr) (x10 : Int32) (t0 : Int32) (hh : Heap), n0 ≤ hh.size → (own_DL Z hh x8 x0 x6 (x5 &&& 1)) → (own_DL Z hh x9 x0 x6 0) → Stand p l e room_1 s m #[(.long p0), (.long p2), (.int p4)] below meth c T0 locs 2 6 → T0.heap = hh → Fr n0 locs → f0_84 x5 x6 x10 t0 = 1 → own_Goes p e below s (own_Law n0) 16 128 T0 (mkF m 84 #[.val (.long x0), .second, .val (.long x2), .second, .val (.int x4), .val (.int x5), .val (.long x6), .second, .val (.ref x8), .val (.ref x9), .val (.int x10), .unset, .unset, .unset, .unset] [(.int t0)]) := by
    intro T0 locs x0 x2 x4 x5 x6 x8 x9 x10 t0 hh Zh V_x8 V_x9 X0 e0 N0 hf
    refine own_step (T' := T0) (g' := (mkF m 86 #[.val (.long x0), .second, .val (.long x2), .second, .val (.int x4), .val (.int x5), .val (.long x6), .second, .val (.ref x8), .val (.ref x9), .val (.int x10), .val (.int t0), .unset, .unset, .unset] [])) (fun _ k => XS.istore X0.here hx rfl (hb hby at_84) rfl (l' := #[.val (.long x0), .second, .val (.long x2), .second, .val (.int x4), .val (.int x5), .val (.long x6), .second, .val (.ref x8), .val (.ref x9), .val (.int x10), .val (.int t0), .unset, .unset, .unset]) rfl k) ?_
    refine own_step (T' := T0) (g' := (mkF m 88 #[.val (.long x0), .second, .val (.long x2), .second, .val (.int x4), .val (.int x5), .val (.long x6), .second, .val (.ref x8), .val (.ref x9), .val (.int x10), .val (.int t0), .unset, .unset, .unset] [(.ref x9)])) (fun _ k => XS.aload X0.here hx rfl (hb hby at_86) rfl rfl k) ?_
    obtain ⟨cqz1_1, kqz1_1, qz1_1a, qz1_1b, qz1_1c⟩ := isOf hZ e0 V_x9.1
    obtain ⟨_, _, ⟨Tz1_1, Lz1_1, kz1_1, nz1_1⟩, -, Xz1_1, ⟨Lcz1_1, hQz1_1, lz1_1, yz1_1, zz1_1⟩, stz1_1⟩ := X0.virtualBack hx (y := (⟨"com/example/careful_lock/carefullock/Deadline", "interruptible", "()Z"⟩ : MethodName)) (z := (⟨"com/example/careful_lock/carefullock/Deadline", "interruptible", "()Z"⟩ : MethodName)) hown (mvT hZ (hw _ (List.mem_of_getElem? (i := 37) rfl))) (mvT hZ (hw _ (List.mem_of_getElem? (i := 38) rfl))) (notFace_of_selects (args := #[]) (mvT hZ (hw _ (List.mem_of_getElem? (i := 40) rfl)))) (mvT hZ (hw _ (List.mem_of_getElem? (i := 40) rfl))) (mvT hZ (hw _ (List.mem_of_getElem? (i := 39) rfl))) (by decide) (backOf (W := 0) (rm7 l Z a0 hw [] x9 x0 x6 (0 : Int32) hh n0 Zh V_x9) hZ (hw _ (List.mem_of_getElem? (i := 41) rfl)) (hw _ (List.mem_of_getElem? (i := 2) rfl)) (by decide) (by decide)) qz1_1a qz1_1c (g := (mkF m 88 #[.val (.long x0), .second, .val (.long x2), .second, .val (.int x4), .val (.int x5), .val (.long x6), .second, .val (.ref x8), .val (.ref x9), .val (.int x10), .val (.int t0), .unset, .unset, .unset] [(.ref x9)])) rfl (by rw [hml]; rfl) (Steps.refl _) (argsL := []) (rest := []) (lenOf pd_4 rfl) rfl (by show 2 * 0 + _ ≤ _; exact Nat.le_of_eq rfl) (hb hby at_88) (fun _ _ => ⟨rfl, e0, (by decide : 2 + 0 ≤ _), (by decide : 6 + 0 ≤ _)⟩)
    dsimp only [Pt.U, Pt.locs, Pt.cells, Pt.slots] at Xz1_1 lz1_1 yz1_1 zz1_1 stz1_1 hQz1_1
    subst lz1_1 yz1_1 zz1_1
    obtain ⟨rfl, Nz1_1q, ez1_1⟩ := hQz1_1
    have Nz1_1 := Fr.app N0 Nz1_1q
    refine own_step (T' := Tz1_1) (g' := (mkF m 91 #[.val (.long x0), .second, .val (.long x2), .second, .val (.int x4), .val (.int x5), .val (.long x6), .second, .val (.ref x8), .val (.ref x9), .val (.int x10), .val (.int t0), .unset, .unset, .unset] [(.int ((0 : Int32) &&& 1))])) (fun _ k => stz1_1.trans k) ?_
    by_cases hc : ((0 : Int32) &&& 1) = (0 : Int32)
    · refine own_step (T' := Tz1_1) (g' := (mkF m 94 #[.val (.long x0), .second, .val (.long x2), .second, .val (.int x4), .val (.int x5), .val (.long x6), .second, .val (.ref x8), .val (.ref x9), .val (.int x10), .val (.int t0), .unset, .unset, .unset] [])) (fun _ k => XS.ifNo Xz1_1.here hx rfl (hb hby at_91) rfl ((if0 _ _).trans (teq hc).2) k) ?_
      exact B94 Tz1_1 _ x0 x2 x4 x5 x6 x8 x9 x10 t0 hh Zh V_x8 V_x9 Xz1_1 ez1_1 Nz1_1 ((if_pos hc).symm.trans hf)
    · refine own_step (T' := Tz1_1) (g' := (mkF m 98 #[.val (.long x0), .second, .val (.long x2), .second, .val (.int x4), .val (.int x5), .val (.long x6), .second, .val (.ref x8), .val (.ref x9), .val (.int x10), .val (.int t0), .unset, .unset, .unset] [])) (fun _ k => XS.ifYes Xz1_1.here hx rfl (pc0 := 91) (pc' := 98) rfl (hb hby at_91) rfl ((if0 _ _).trans (feq hc).2) (by decide) (by decide) k) ?_
      exact B98 Tz1_1 _ x0 x2 x4 x5 x6 x8 x9 x10 t0 hh Zh V_x8 V_x9 Xz1_1 ez1_1 Nz1_1 ((if_neg hc).symm.trans hf)
  have B83 : ∀ (T0 : State) (locs : List Loc) (x0 : Int64) (x2 : Int64) (x4 : Int32) (x5 : Int32) (x6 : Int64) (x8 : Addr) (x9 : Addr) (x10 : Int32) (hh : Heap), n0 ≤ hh.size → (own_DL Z hh x8 x0 x6 (x5 &&& 1)) → (own_DL Z hh x9 x0 x6 0) → Stand p l e room_1 s m #[(.long p0), (.long p2), (.int p4)] below meth c T0 locs 2 6 → T0.heap = hh → Fr n0 locs → f0_83 x5 x6 x10 = 1 → own_Goes p e below s (own_Law n0) 16 128 T0 (mkF m 83 #[.val (.long x0), .second, .val (.long x2), .second, .val (.int x4), .val (.int x5), .val (.long x6), .second, .val (.ref x8), .val (.ref x9), .val (.int x10), .unset, .unset, .unset, .unset] []) := by
    intro T0 locs x0 x2 x4 x5 x6 x8 x9 x10 hh Zh V_x8 V_x9 X0 e0 N0 hf
    refine own_step (T' := T0) (g' := (mkF m 84 #[.val (.long x0), .second, .val (.long x2), .second, .val (.int x4), .val (.int x5), .val (.long x6), .second, .val (.ref x8), .val (.ref x9), .val (.int x10), .unset, .unset, .unset, .unset] [(.int (0 : Int32))])) (fun _ k => XS.iconst X0.here hx rfl (hb hby at_83) k) ?_
    exact B84 T0 _ x0 x2 x4 x5 x6 x8 x9 x10 (0 : Int32) hh Zh V_x8 V_x9 X0 e0 N0 hf
  have B79 : ∀ (T0 : State) (locs : List Loc) (x0 : Int64) (x2 : Int64) (x4 : Int32) (x5 : Int32) (x6 : Int64) (x8 : Addr) (x9 : Addr) (x10 : Int32) (hh : Heap), n0 ≤ hh.size → (own_DL Z hh x8 x0 x6 (x5 &&& 1)) → (own_DL Z hh x9 x0 x6 0) → Stand p l e room_1 s m #[(.long p0), (.long p2), (.int p4)] below meth c T0 locs 2 6 → T0.heap = hh → Fr n0 locs → f0_79 x5 x6 x10 = 1 → own_Goes p e below s (own_Law n0) 16 128 T0 (mkF m 79 #[.val (.long x0), .second, .val (.long x2), .second, .val (.int x4), .val (.int x5), .val (.long x6), .second, .val (.ref x8), .val (.ref x9), .val (.int x10), .unset, .unset, .unset, .unset] []) := by
    intro T0 locs x0 x2 x4 x5 x6 x8 x9 x10 hh Zh V_x8 V_x9 X0 e0 N0 hf
    refine own_step (T' := T0) (g' := (mkF m 80 #[.val (.long x0), .second, .val (.long x2), .second, .val (.int x4), .val (.int x5), .val (.long x6), .second, .val (.ref x8), .val (.ref x9), .val (.int x10), .unset, .unset, .unset, .unset] [(.int (1 : Int32))])) (fun _ k => XS.iconst X0.here hx rfl (hb hby at_79) k) ?_
    refine own_step (T' := T0) (g' := (mkF m 84 #[.val (.long x0), .second, .val (.long x2), .second, .val (.int x4), .val (.int x5), .val (.long x6), .second, .val (.ref x8), .val (.ref x9), .val (.int x10), .unset, .unset, .unset, .unset] [(.int (1 : Int32))])) (fun _ k => XS.goto X0.here hx rfl (pc0 := 80) (pc' := 84) rfl (hb hby at_80) (by decide) (by decide) k) ?_
    exact B84 T0 _ x0 x2 x4 x5 x6 x8 x9 x10 (1 : Int32) hh Zh V_x8 V_x9 X0 e0 N0 hf
  have B66 : ∀ (T0 : State) (locs : List Loc) (x0 : Int64) (x2 : Int64) (x4 : Int32) (x5 : Int32) (x6 : Int64) (x8 : Addr) (x9 : Addr) (t0 : Int32) (hh : Heap), n0 ≤ hh.size → (own_DL Z hh x8 x0 x6 (x5 &&& 1)) → (own_DL Z hh x9 x0 x6 0) → Stand p l e room_1 s m #[(.long p0), (.long p2), (.int p4)] below meth c T0 locs 2 6 → T0.heap = hh → Fr n0 locs → f0_66 x5 x6 t0 = 1 → own_Goes p e below s (own_Law n0) 16 128 T0 (mkF m 66 #[.val (.long x0), .second, .val (.long x2), .second, .val (.int x4), .val (.int x5), .val (.long x6), .second, .val (.ref x8), .val (.ref x9), .unset, .unset, .unset, .unset, .unset] [(.int t0)]) := by
    intro T0 locs x0 x2 x4 x5 x6 x8 x9 t0 hh Zh V_x8 V_x9 X0 e0 N0 hf
    refine own_step (T' := T0) (g' := (mkF m 68 #[.val (.long x0), .second, .val (.long x2), .second, .val (.int x4), .val (.int x5), .val (.long x6), .second, .val (.ref x8), .val (.ref x9), .val (.int t0), .unset, .unset, .unset, .unset] [])) (fun _ k => XS.istore X0.here hx rfl (hb hby at_66) rfl (l' := #[.val (.long x0), .second, .val (.long x2), .second, .val (.int x4), .val (.int x5), .val (.long x6), .second, .val (.ref x8), .val (.ref x9), .val (.int t0), .unset, .unset, .unset, .unset]) rfl k) ?_
    refine own_step (T' := T0) (g' := (mkF m 70 #[.val (.long x0), .second, .val (.long x2), .second, .val (.int x4), .val (.int x5), .val (.long x6), .second, .val (.ref x8), .val (.ref x9), .val (.int t0), .unset, .unset, .unset, .unset] [(.ref x9)])) (fun _ k => XS.aload X0.here hx rfl (hb hby at_68) rfl rfl k) ?_
    obtain ⟨cqz1_1, kqz1_1, qz1_1a, qz1_1b, qz1_1c⟩ := isOf hZ e0 V_x9.1
    obtain ⟨_, _, ⟨Tz1_1, Lz1_1, kz1_1, nz1_1⟩, -, Xz1_1, ⟨Lcz1_1, hQz1_1, lz1_1, yz1_1, zz1_1⟩, stz1_1⟩ := X0.virtualBack hx (y := (⟨"com/example/careful_lock/carefullock/Deadline", "timeoutNanos", "()J"⟩ : MethodName)) (z := (⟨"com/example/careful_lock/carefullock/Deadline", "timeoutNanos", "()J"⟩ : MethodName)) hown (mvT hZ (hw _ (List.mem_of_getElem? (i := 32) rfl))) (mvT hZ (hw _ (List.mem_of_getElem? (i := 33) rfl))) (notFace_of_selects (args := #[]) (mvT hZ (hw _ (List.mem_of_getElem? (i := 35) rfl)))) (mvT hZ (hw _ (List.mem_of_getElem? (i := 35) rfl))) (mvT hZ (hw _ (List.mem_of_getElem? (i := 34) rfl))) (by decide) (backOf (W := 0) (rm6 l Z a0 hw [] x9 x0 x6 (0 : Int32) hh n0 Zh V_x9) hZ (hw _ (List.mem_of_getElem? (i := 36) rfl)) (hw _ (List.mem_of_getElem? (i := 2) rfl)) (by decide) (by decide)) qz1_1a qz1_1c (g := (mkF m 70 #[.val (.long x0), .second, .val (.long x2), .second, .val (.int x4), .val (.int x5), .val (.long x6), .second, .val (.ref x8), .val (.ref x9), .val (.int t0), .unset, .unset, .unset, .unset] [(.ref x9)])) rfl (by rw [hml]; rfl) (Steps.refl _) (argsL := []) (rest := []) (lenOf pd_3 rfl) rfl (by show 2 * 0 + _ ≤ _; exact Nat.le_of_eq rfl) (hb hby at_70) (fun _ _ => ⟨rfl, e0, (by decide : 2 + 0 ≤ _), (by decide : 6 + 0 ≤ _)⟩)
    dsimp only [Pt.U, Pt.locs, Pt.cells, Pt.slots] at Xz1_1 lz1_1 yz1_1 zz1_1 stz1_1 hQz1_1
    subst lz1_1 yz1_1 zz1_1
    obtain ⟨rfl, Nz1_1q, ez1_1⟩ := hQz1_1
    have Nz1_1 := Fr.app N0 Nz1_1q
    refine own_step (T' := Tz1_1) (g' := (mkF m 73 #[.val (.long x0), .second, .val (.long x2), .second, .val (.int x4), .val (.int x5), .val (.long x6), .second, .val (.ref x8), .val (.ref x9), .val (.int t0), .unset, .unset, .unset, .unset] [(.long x6)])) (fun _ k => stz1_1.trans k) ?_
    refine own_step (T' := Tz1_1) (g' := (mkF m 75 #[.val (.long x0), .second, .val (.long x2), .second, .val (.int x4), .val (.int x5), .val (.long x6), .second, .val (.ref x8), .val (.ref x9), .val (.int t0), .unset, .unset, .unset, .unset] [(.long x6), (.long x6)])) (fun _ k => XS.lload Xz1_1.here hx rfl (hb hby at_73) rfl k) ?_
    refine own_step (T' := Tz1_1) (g' := (mkF m 76 #[.val (.long x0), .second, .val (.long x2), .second, .val (.int x4), .val (.int x5), .val (.long x6), .second, .val (.ref x8), .val (.ref x9), .val (.int t0), .unset, .unset, .unset, .unset] [(.int (lcmpW x6 x6))])) (fun _ k => XS.lcmp Xz1_1.here hx rfl (hb hby at_75) rfl k) ?_
    by_cases hc : (lcmpW x6 x6) = (0 : Int32)
    · refine own_step (T' := Tz1_1) (g' := (mkF m 79 #[.val (.long x0), .second, .val (.long x2), .second, .val (.int x4), .val (.int x5), .val (.long x6), .second, .val (.ref x8), .val (.ref x9), .val (.int t0), .unset, .unset, .unset, .unset] [])) (fun _ k => XS.ifNo Xz1_1.here hx rfl (hb hby at_76) rfl ((if0 _ _).trans (teq hc).2) k) ?_
      exact B79 Tz1_1 _ x0 x2 x4 x5 x6 x8 x9 t0 hh Zh V_x8 V_x9 Xz1_1 ez1_1 Nz1_1 ((if_pos hc).symm.trans hf)
    · refine own_step (T' := Tz1_1) (g' := (mkF m 83 #[.val (.long x0), .second, .val (.long x2), .second, .val (.int x4), .val (.int x5), .val (.long x6), .second, .val (.ref x8), .val (.ref x9), .val (.int t0), .unset, .unset, .unset, .unset] [])) (fun _ k => XS.ifYes Xz1_1.here hx rfl (pc0 := 76) (pc' := 83) rfl (hb hby at_76) rfl ((if0 _ _).trans (feq hc).2) (by decide) (by decide) k) ?_
      exact B83 Tz1_1 _ x0 x2 x4 x5 x6 x8 x9 t0 hh Zh V_x8 V_x9 Xz1_1 ez1_1 Nz1_1 ((if_neg hc).symm.trans hf)
  have B65 : ∀ (T0 : State) (locs : List Loc) (x0 : Int64) (x2 : Int64) (x4 : Int32) (x5 : Int32) (x6 : Int64) (x8 : Addr) (x9 : Addr) (hh : Heap), n0 ≤ hh.size → (own_DL Z hh x8 x0 x6 (x5 &&& 1)) → (own_DL Z hh x9 x0 x6 0) → Stand p l e room_1 s m #[(.long p0), (.long p2), (.int p4)] below meth c T0 locs 2 6 → T0.heap = hh → Fr n0 locs → f0_65 x5 x6 = 1 → own_Goes p e below s (own_Law n0) 16 128 T0 (mkF m 65 #[.val (.long x0), .second, .val (.long x2), .second, .val (.int x4), .val (.int x5), .val (.long x6), .second, .val (.ref x8), .val (.ref x9), .unset, .unset, .unset, .unset, .unset] []) := by
    intro T0 locs x0 x2 x4 x5 x6 x8 x9 hh Zh V_x8 V_x9 X0 e0 N0 hf
    refine own_step (T' := T0) (g' := (mkF m 66 #[.val (.long x0), .second, .val (.long x2), .second, .val (.int x4), .val (.int x5), .val (.long x6), .second, .val (.ref x8), .val (.ref x9), .unset, .unset, .unset, .unset, .unset] [(.int (0 : Int32))])) (fun _ k => XS.iconst X0.here hx rfl (hb hby at_65) k) ?_
    exact B66 T0 _ x0 x2 x4 x5 x6 x8 x9 (0 : Int32) hh Zh V_x8 V_x9 X0 e0 N0 hf
  have B61 : ∀ (T0 : State) (locs : List Loc) (x0 : Int64) (x2 : Int64) (x4 : Int32) (x5 : Int32) (x6 : Int64) (x8 : Addr) (x9 : Addr) (hh : Heap), n0 ≤ hh.size → (own_DL Z hh x8 x0 x6 (x5 &&& 1)) → (own_DL Z hh x9 x0 x6 0) → Stand p l e room_1 s m #[(.long p0), (.long p2), (.int p4)] below meth c T0 locs 2 6 → T0.heap = hh → Fr n0 locs → f0_61 x5 x6 = 1 → own_Goes p e below s (own_Law n0) 16 128 T0 (mkF m 61 #[.val (.long x0), .second, .val (.long x2), .second, .val (.int x4), .val (.int x5), .val (.long x6), .second, .val (.ref x8), .val (.ref x9), .unset, .unset, .unset, .unset, .unset] []) := by
    intro T0 locs x0 x2 x4 x5 x6 x8 x9 hh Zh V_x8 V_x9 X0 e0 N0 hf
    refine own_step (T' := T0) (g' := (mkF m 62 #[.val (.long x0), .second, .val (.long x2), .second, .val (.int x4), .val (.int x5), .val (.long x6), .second, .val (.ref x8), .val (.ref x9), .unset, .unset, .unset, .unset, .unset] [(.int (1 : Int32))])) (fun _ k => XS.iconst X0.here hx rfl (hb hby at_61) k) ?_
    refine own_step (T' := T0) (g' := (mkF m 66 #[.val (.long x0), .second, .val (.long x2), .second, .val (.int x4), .val (.int x5), .val (.long x6), .second, .val (.ref x8), .val (.ref x9), .unset, .unset, .unset, .unset, .unset] [(.int (1 : Int32))])) (fun _ k => XS.goto X0.here hx rfl (pc0 := 62) (pc' := 66) rfl (hb hby at_62) (by decide) (by decide) k) ?_
    exact B66 T0 _ x0 x2 x4 x5 x6 x8 x9 (1 : Int32) hh Zh V_x8 V_x9 X0 e0 N0 hf
  have B28 : ∀ (T0 : State) (locs : List Loc) (x0 : Int64) (x2 : Int64) (x4 : Int32) (x5 : Int32) (t0 : Int64) (hh : Heap), n0 ≤ hh.size → Stand p l e room_1 s m #[(.long p0), (.long p2), (.int p4)] below meth c T0 locs 0 0 → T0.heap = hh → Fr n0 locs → f0_28 x0 x5 t0 = 1 → own_Goes p e below s (own_Law n0) 16 128 T0 (mkF m 28 #[.val (.long x0), .second, .val (.long x2), .second, .val (.int x4), .val (.int x5), .unset, .unset, .unset, .unset, .unset, .unset, .unset, .unset, .unset] [(.long t0)]) := by
    intro T0 locs x0 x2 x4 x5 t0 hh Zh  X0 e0 N0 hf
    refine own_step (T' := T0) (g' := (mkF m 30 #[.val (.long x0), .second, .val (.long x2), .second, .val (.int x4), .val (.int x5), .val (.long t0), .second, .unset, .unset, .unset, .unset, .unset, .unset, .unset] [])) (fun _ k => XS.lstore X0.here hx rfl (hb hby at_28) rfl (l' := #[.val (.long x0), .second, .val (.long x2), .second, .val (.int x4), .val (.int x5), .val (.long t0), .second, .unset, .unset, .unset, .unset, .unset, .unset, .unset]) rfl k) ?_
    obtain ⟨Tz1_1, hz1_1, Xz1_1, ez1_1, Ez1_1, Az1_1, Dz1_1, -, stz1_1⟩ := newO X0 hx hZ hown (hw _ (List.mem_of_getElem? (i := 0) rfl)) (hw _ (List.mem_of_getElem? (i := 1) rfl)) (hw _ (List.mem_of_getElem? (i := 2) rfl)) e0 (g := (mkF m 30 #[.val (.long x0), .second, .val (.long x2), .second, .val (.int x4), .val (.int x5), .val (.long t0), .second, .unset, .unset, .unset, .unset, .unset, .unset, .unset] [])) rfl (hb hby at_30) (by decide) (by decide)
    obtain ⟨bz1_1, gz1_1⟩ : ∃ z, z = hh.size := ⟨_, rfl⟩
    rw [← gz1_1] at Az1_1 Dz1_1 stz1_1
    have qz1_2 : Fld Z hz1_1 bz1_1 "com/example/careful_lock/carefullock/Deadline" "startNanos" "J" (.long (0 : Int64)) := Dz1_1 (Or.inr (hw _ (List.mem_of_getElem? (i := 15) rfl))) (ty := .long) (by decide)
    have qz1_3 : Fld Z hz1_1 bz1_1 "com/example/careful_lock/carefullock/Deadline" "timeoutNanos" "J" (.long (0 : Int64)) := Dz1_1 (Or.inr (hw _ (List.mem_of_getElem? (i := 17) rfl))) (ty := .long) (by decide)
    have qz1_4 : Fld Z hz1_1 bz1_1 "com/example/careful_lock/carefullock/Deadline" "interruptible" "Z" (.int (0 : Int32)) := Dz1_1 (Or.inr (hw _ (List.mem_of_getElem? (i := 19) rfl))) (ty := .boolean) (by decide)
    have g_bz1_1 : n0 ≤ bz1_1 := Nat.le_trans Zh (Nat.le_of_eq gz1_1.symm)
    have Zz1_1 : n0 ≤ hz1_1.size := Nat.le_trans Zh Ez1_1.1
    refine own_step (T' := Tz1_1) (g' := (mkF m 33 #[.val (.long x0), .second, .val (.long x2), .second, .val (.int x4), .val (.int x5), .val (.long t0), .second, .unset, .unset, .unset, .unset, .unset, .unset, .unset] [(.ref bz1_1)])) (fun _ k => stz1_1 _ k) ?_
    refine own_step (T' := Tz1_1) (g' := (mkF m 34 #[.val (.long x0), .second, .val (.long x2), .second, .val (.int x4), .val (.int x5), .val (.long t0), .second, .unset, .unset, .unset, .unset, .unset, .unset, .unset] [(.ref bz1_1), (.ref bz1_1)])) (fun _ k => XS.dup Xz1_1.here hx rfl (hb hby at_33) rfl rfl k) ?_
    refine own_step (T' := Tz1_1) (g' := (mkF m 35 #[.val (.long x0), .second, .val (.long x2), .second, .val (.int x4), .val (.int x5), .val (.long t0), .second, .unset, .unset, .unset, .unset, .unset, .unset, .unset] [(.long x0), (.ref bz1_1), (.ref bz1_1)])) (fun _ k => XS.lloadN Xz1_1.here hx rfl (hb hby at_34) rfl k) ?_
    refine own_step (T' := Tz1_1) (g' := (mkF m 37 #[.val (.long x0), .second, .val (.long x2), .second, .val (.int x4), .val (.int x5), .val (.long t0), .second, .unset, .unset, .unset, .unset, .unset, .unset, .unset] [(.long t0), (.long x0), (.ref bz1_1), (.ref bz1_1)])) (fun _ k => XS.lload Xz1_1.here hx rfl (hb hby at_35) rfl k) ?_
    refine own_step (T' := Tz1_1) (g' := (mkF m 39 #[.val (.long x0), .second, .val (.long x2), .second, .val (.int x4), .val (.int x5), .val (.long t0), .second, .unset, .unset, .unset, .unset, .unset, .unset, .unset] [(.int x5), (.long t0), (.long x0), (.ref bz1_1), (.ref bz1_1)])) (fun _ k => XS.iload Xz1_1.here hx rfl (hb hby at_37) rfl k) ?_
    obtain ⟨_, _, ⟨Tz1_5, Lz1_5, kz1_5, nz1_5⟩, -, Xz1_5, ⟨Lcz1_5, hQz1_5, lz1_5, yz1_5, zz1_5⟩, stz1_5⟩ := Xz1_1.specialBack hx (y := (⟨"com/example/careful_lock/carefullock/Deadline", "<init>", "(JJZ)V"⟩ : MethodName)) rfl hown (mvT hZ (hw _ (List.mem_of_getElem? (i := 3) rfl))) (mvT hZ (hw _ (List.mem_of_getElem? (i := 4) rfl))) (mvT hZ (hw _ (List.mem_of_getElem? (i := 5) rfl))) (by decide) (backOf (W := 1) (rm1 l Z a0 hw [] bz1_1 x0 t0 x5 (.long (0 : Int64)) (.long (0 : Int64)) (.int (0 : Int32)) hz1_1 n0 Zz1_1 Az1_1 g_bz1_1 qz1_2 qz1_3 qz1_4) hZ (hw _ (List.mem_of_getElem? (i := 5) rfl)) (hw _ (List.mem_of_getElem? (i := 2) rfl)) (by decide) (by decide)) (g := (mkF m 39 #[.val (.long x0), .second, .val (.long x2), .second, .val (.int x4), .val (.int x5), .val (.long t0), .second, .unset, .unset, .unset, .unset, .unset, .unset, .unset] [(.int x5), (.long t0), (.long x0), (.ref bz1_1), (.ref bz1_1)])) rfl (by rw [hml]; rfl) (Steps.refl _) (a := bz1_1) (argsL := [(.long x0), (.long t0), (.int x5)]) (rest := [(.ref bz1_1)]) (lenOf pd_1 rfl) rfl (by show 2 * 0 + _ ≤ _; exact Nat.le_of_eq rfl) (hb hby at_39) (fun _ _ => ⟨rfl, ez1_1, (by decide : 1 + 0 ≤ _), (by decide : 3 + 0 ≤ _)⟩)
    dsimp only [Pt.U, Pt.locs, Pt.cells, Pt.slots] at Xz1_5 lz1_5 yz1_5 zz1_5 stz1_5 hQz1_5
    subst lz1_5 yz1_5 zz1_5
    generalize ez1_5 : Tz1_5.heap = hz1_5 at hQz1_5
    obtain ⟨rfl, Nz1_5q, Kz1_5, dlz1_5⟩ := hQz1_5
    have Zz1_5 : n0 ≤ hz1_5.size := Nat.le_trans Zz1_1 Kz1_5.1
    have qz1_6 : Exa Z hz1_5 bz1_1 "com/example/careful_lock/carefullock/Deadline" := Az1_1.keep Kz1_5
    have Nz1_5 := Fr.app N0 Nz1_5q
    refine own_step (T' := Tz1_5) (g' := (mkF m 42 #[.val (.long x0), .second, .val (.long x2), .second, .val (.int x4), .val (.int x5), .val (.long t0), .second, .unset, .unset, .unset, .unset, .unset, .unset, .unset] [(.ref bz1_1)])) (fun _ k => stz1_5.trans k) ?_
    refine own_step (T' := Tz1_5) (g' := (mkF m 44 #[.val (.long x0), .second, .val (.long x2), .second, .val (.int x4), .val (.int x5), .val (.long t0), .second, .val (.ref bz1_1), .unset, .unset, .unset, .unset, .unset, .unset] [])) (fun _ k => XS.astore Xz1_5.here hx rfl (hb hby at_42) rfl rfl (l' := #[.val (.long x0), .second, .val (.long x2), .second, .val (.int x4), .val (.int x5), .val (.long t0), .second, .val (.ref bz1_1), .unset, .unset, .unset, .unset, .unset, .unset]) rfl k) ?_
    refine own_step (T' := Tz1_5) (g' := (mkF m 46 #[.val (.long x0), .second, .val (.long x2), .second, .val (.int x4), .val (.int x5), .val (.long t0), .second, .val (.ref bz1_1), .unset, .unset, .unset, .unset, .unset, .unset] [(.ref bz1_1)])) (fun _ k => XS.aload Xz1_5.here hx rfl (hb hby at_44) rfl rfl k) ?_
    obtain ⟨cqz1_7, kqz1_7, qz1_7a, qz1_7b, qz1_7c⟩ := isOf hZ ez1_5 dlz1_5.1
    obtain ⟨_, _, ⟨Tz1_7, Lz1_7, kz1_7, nz1_7⟩, -, Xz1_7, ⟨Lcz1_7, hQz1_7, lz1_7, yz1_7, zz1_7⟩, stz1_7⟩ := Xz1_5.virtualBack hx (y := (⟨"com/example/careful_lock/carefullock/Deadline", "uninterruptible", "()Lcom/example/careful_lock/carefullock/Deadline;"⟩ : MethodName)) (z := (⟨"com/example/careful_lock/carefullock/Deadline", "uninterruptible", "()Lcom/example/careful_lock/carefullock/Deadline;"⟩ : MethodName)) hown (mvT hZ (hw _ (List.mem_of_getElem? (i := 20) rfl))) (mvT hZ (hw _ (List.mem_of_getElem? (i := 21) rfl))) (notFace_of_selects (args := #[]) (mvT hZ (hw _ (List.mem_of_getElem? (i := 23) rfl)))) (mvT hZ (hw _ (List.mem_of_getElem? (i := 23) rfl))) (mvT hZ (hw _ (List.mem_of_getElem? (i := 22) rfl))) (by decide) (backOf (W := 0) (rm4 l Z a0 hw [] bz1_1 x0 t0 (x5 &&& 1) hz1_5 n0 Zz1_5 dlz1_5) hZ (hw _ (List.mem_of_getElem? (i := 24) rfl)) (hw _ (List.mem_of_getElem? (i := 2) rfl)) (by decide) (by decide)) qz1_7a qz1_7c (g := (mkF m 46 #[.val (.long x0), .second, .val (.long x2), .second, .val (.int x4), .val (.int x5), .val (.long t0), .second, .val (.ref bz1_1), .unset, .unset, .unset, .unset, .unset, .unset] [(.ref bz1_1)])) rfl (by rw [hml]; rfl) (Steps.refl _) (argsL := []) (rest := []) (lenOf pd_2 rfl) rfl (by show 2 * 0 + _ ≤ _; exact Nat.le_of_eq rfl) (hb hby at_46) (fun _ _ => ⟨rfl, ez1_5, (by decide : 1 + 1 ≤ _), (by decide : 3 + 3 ≤ _)⟩)
    dsimp only [Pt.U, Pt.locs, Pt.cells, Pt.slots] at Xz1_7 lz1_7 yz1_7 zz1_7 stz1_7 hQz1_7
    subst lz1_7 yz1_7 zz1_7
    generalize ez1_7 : Tz1_7.heap = hz1_7 at hQz1_7
    obtain ⟨rfl, Nz1_7q, Kz1_7, dlz1_7⟩ := hQz1_7
    have Zz1_7 : n0 ≤ hz1_7.size := Nat.le_trans Zz1_5 Kz1_7.1
    have qz1_8 : Fld Z hz1_7 bz1_1 "com/example/careful_lock/carefullock/Deadline" "startNanos" "J" (.long x0) := dlz1_5.2.1.keep Kz1_7 nin0
    have qz1_9 : Fld Z hz1_7 bz1_1 "com/example/careful_lock/carefullock/Deadline" "timeoutNanos" "J" (.long t0) := dlz1_5.2.2.1.keep Kz1_7 nin0
    have qz1_10 : Fld Z hz1_7 bz1_1 "com/example/careful_lock/carefullock/Deadline" "interruptible" "Z" (.int (x5 &&& 1)) := dlz1_5.2.2.2.keep Kz1_7 nin0
    have qz1_11 : Exa Z hz1_7 bz1_1 "com/example/careful_lock/carefullock/Deadline" := dlz1_5.1.keep Kz1_7
    have Nz1_7 := Fr.app Nz1_5 Nz1_7q
    refine own_step (T' := Tz1_7) (g' := (mkF m 49 #[.val (.long x0), .second, .val (.long x2), .second, .val (.int x4), .val (.int x5), .val (.long t0), .second, .val (.ref bz1_1), .unset, .unset, .unset, .unset, .unset, .unset] [(.ref hz1_5.size)])) (fun _ k => stz1_7.trans k) ?_
    have qz1_12 : own_DL Z hz1_7 bz1_1 x0 t0 (x5 &&& 1) := ⟨qz1_11, qz1_8, qz1_9, qz1_10⟩
    refine own_step (T' := Tz1_7) (g' := (mkF m 51 #[.val (.long x0), .second, .val (.long x2), .second, .val (.int x4), .val (.int x5), .val (.long t0), .second, .val (.ref bz1_1), .val (.ref hz1_5.size), .unset, .unset, .unset, .unset, .unset] [])) (fun _ k => XS.astore Xz1_7.here hx rfl (hb hby at_49) rfl rfl (l' := #[.val (.long x0), .second, .val (.long x2), .second, .val (.int x4), .val (.int x5), .val (.long t0), .second, .val (.ref bz1_1), .val (.ref hz1_5.size), .unset, .unset, .unset, .unset, .unset]) rfl k) ?_
    refine own_step (T' := Tz1_7) (g' := (mkF m 53 #[.val (.long x0), .second, .val (.long x2), .second, .val (.int x4), .val (.int x5), .val (.long t0), .second, .val (.ref bz1_1), .val (.ref hz1_5.size), .unset, .unset, .unset, .unset, .unset] [(.ref hz1_5.size)])) (fun _ k => XS.aload Xz1_7.here hx rfl (hb hby at_51) rfl rfl k) ?_
    obtain ⟨cqz2_1, kqz2_1, qz2_1a, qz2_1b, qz2_1c⟩ := isOf hZ ez1_7 dlz1_7.1
    obtain ⟨_, _, ⟨Tz2_1, Lz2_1, kz2_1, nz2_1⟩, -, Xz2_1, ⟨Lcz2_1, hQz2_1, lz2_1, yz2_1, zz2_1⟩, stz2_1⟩ := Xz1_7.virtualBack hx (y := (⟨"com/example/careful_lock/carefullock/Deadline", "startNanos", "()J"⟩ : MethodName)) (z := (⟨"com/example/careful_lock/carefullock/Deadline", "startNanos", "()J"⟩ : MethodName)) hown (mvT hZ (hw _ (List.mem_of_getElem? (i := 27) rfl))) (mvT hZ (hw _ (List.mem_of_getElem? (i := 28) rfl))) (notFace_of_selects (args := #[]) (mvT hZ (hw _ (List.mem_of_getElem? (i := 30) rfl)))) (mvT hZ (hw _ (List.mem_of_getElem? (i := 30) rfl))) (mvT hZ (hw _ (List.mem_of_getElem? (i := 29) rfl))) (by decide) (backOf (W := 0) (rm5 l Z a0 hw [] hz1_5.size x0 t0 (0 : Int32) hz1_7 n0 Zz1_7 dlz1_7) hZ (hw _ (List.mem_of_getElem? (i := 31) rfl)) (hw _ (List.mem_of_getElem? (i := 2) rfl)) (by decide) (by decide)) qz2_1a qz2_1c (g := (mkF m 53 #[.val (.long x0), .second, .val (.long x2), .second, .val (.int x4), .val (.int x5), .val (.long t0), .second, .val (.ref bz1_1), .val (.ref hz1_5.size), .unset, .unset, .unset, .unset, .unset] [(.ref hz1_5.size)])) rfl (by rw [hml]; rfl) (Steps.refl _) (argsL := []) (rest := []) (lenOf pd_3 rfl) rfl (by show 2 * 0 + _ ≤ _; exact Nat.le_of_eq rfl) (hb hby at_53) (fun _ _ => ⟨rfl, ez1_7, (by decide : 2 + 0 ≤ _), (by decide : 6 + 0 ≤ _)⟩)
    dsimp only [Pt.U, Pt.locs, Pt.cells, Pt.slots] at Xz2_1 lz2_1 yz2_1 zz2_1 stz2_1 hQz2_1
    subst lz2_1 yz2_1 zz2_1
    obtain ⟨rfl, Nz2_1q, ez2_1⟩ := hQz2_1
    have Nz2_1 := Fr.app Nz1_7 Nz2_1q
    refine own_step (T' := Tz2_1) (g' := (mkF m 56 #[.val (.long x0), .second, .val (.long x2), .second, .val (.int x4), .val (.int x5), .val (.long t0), .second, .val (.ref bz1_1), .val (.ref hz1_5.size), .unset, .unset, .unset, .unset, .unset] [(.long x0)])) (fun _ k => stz2_1.trans k) ?_
    refine own_step (T' := Tz2_1) (g' := (mkF m 57 #[.val (.long x0), .second, .val (.long x2), .second, .val (.int x4), .val (.int x5), .val (.long t0), .second, .val (.ref bz1_1), .val (.ref hz1_5.size), .unset, .unset, .unset, .unset, .unset] [(.long x0), (.long x0)])) (fun _ k => XS.lloadN Xz2_1.here hx rfl (hb hby at_56) rfl k) ?_
    refine own_step (T' := Tz2_1) (g' := (mkF m 58 #[.val (.long x0), .second, .val (.long x2), .second, .val (.int x4), .val (.int x5), .val (.long t0), .second, .val (.ref bz1_1), .val (.ref hz1_5.size), .unset, .unset, .unset, .unset, .unset] [(.int (lcmpW x0 x0))])) (fun _ k => XS.lcmp Xz2_1.here hx rfl (hb hby at_57) rfl k) ?_
    by_cases hc : (lcmpW x0 x0) = (0 : Int32)
    · refine own_step (T' := Tz2_1) (g' := (mkF m 61 #[.val (.long x0), .second, .val (.long x2), .second, .val (.int x4), .val (.int x5), .val (.long t0), .second, .val (.ref bz1_1), .val (.ref hz1_5.size), .unset, .unset, .unset, .unset, .unset] [])) (fun _ k => XS.ifNo Xz2_1.here hx rfl (hb hby at_58) rfl ((if0 _ _).trans (teq hc).2) k) ?_
      exact B61 Tz2_1 _ x0 x2 x4 x5 t0 bz1_1 hz1_5.size hz1_7 Zz1_7 qz1_12 dlz1_7 Xz2_1 ez2_1 Nz2_1 ((if_pos hc).symm.trans hf)
    · refine own_step (T' := Tz2_1) (g' := (mkF m 65 #[.val (.long x0), .second, .val (.long x2), .second, .val (.int x4), .val (.int x5), .val (.long t0), .second, .val (.ref bz1_1), .val (.ref hz1_5.size), .unset, .unset, .unset, .unset, .unset] [])) (fun _ k => XS.ifYes Xz2_1.here hx rfl (pc0 := 58) (pc' := 65) rfl (hb hby at_58) rfl ((if0 _ _).trans (feq hc).2) (by decide) (by decide) k) ?_
      exact B65 Tz2_1 _ x0 x2 x4 x5 t0 bz1_1 hz1_5.size hz1_7 Zz1_7 qz1_12 dlz1_7 Xz2_1 ez2_1 Nz2_1 ((if_neg hc).symm.trans hf)
  have B27 : ∀ (T0 : State) (locs : List Loc) (x0 : Int64) (x2 : Int64) (x4 : Int32) (x5 : Int32) (hh : Heap), n0 ≤ hh.size → Stand p l e room_1 s m #[(.long p0), (.long p2), (.int p4)] below meth c T0 locs 0 0 → T0.heap = hh → Fr n0 locs → f0_27 x0 x2 x5 = 1 → own_Goes p e below s (own_Law n0) 16 128 T0 (mkF m 27 #[.val (.long x0), .second, .val (.long x2), .second, .val (.int x4), .val (.int x5), .unset, .unset, .unset, .unset, .unset, .unset, .unset, .unset, .unset] []) := by
    intro T0 locs x0 x2 x4 x5 hh Zh  X0 e0 N0 hf
    refine own_step (T' := T0) (g' := (mkF m 28 #[.val (.long x0), .second, .val (.long x2), .second, .val (.int x4), .val (.int x5), .unset, .unset, .unset, .unset, .unset, .unset, .unset, .unset, .unset] [(.long x2)])) (fun _ k => XS.lloadN X0.here hx rfl (hb hby at_27) rfl k) ?_
    exact B28 T0 _ x0 x2 x4 x5 x2 hh Zh  X0 e0 N0 hf
  have B21 : ∀ (T0 : State) (locs : List Loc) (x0 : Int64) (x2 : Int64) (x4 : Int32) (x5 : Int32) (hh : Heap), n0 ≤ hh.size → Stand p l e room_1 s m #[(.long p0), (.long p2), (.int p4)] below meth c T0 locs 0 0 → T0.heap = hh → Fr n0 locs → f0_21 x0 x5 = 1 → own_Goes p e below s (own_Law n0) 16 128 T0 (mkF m 21 #[.val (.long x0), .second, .val (.long x2), .second, .val (.int x4), .val (.int x5), .unset, .unset, .unset, .unset, .unset, .unset, .unset, .unset, .unset] []) := by
    intro T0 locs x0 x2 x4 x5 hh Zh  X0 e0 N0 hf
    refine own_step (T' := T0) (g' := (mkF m 24 #[.val (.long x0), .second, .val (.long x2), .second, .val (.int x4), .val (.int x5), .unset, .unset, .unset, .unset, .unset, .unset, .unset, .unset, .unset] [(.long (9223372036854775807 : Int64))])) (fun _ k => X0.ldc2Long hx hown (mvT hZ (hw _ (List.mem_of_getElem? (i := 48) rfl))) (g := (mkF m 21 #[.val (.long x0), .second, .val (.long x2), .second, .val (.int x4), .val (.int x5), .unset, .unset, .unset, .unset, .unset, .unset, .unset, .unset, .unset] [])) rfl (hb hby at_21) _ k) ?_
    refine own_step (T' := T0) (g' := (mkF m 28 #[.val (.long x0), .second, .val (.long x2), .second, .val (.int x4), .val (.int x5), .unset, .unset, .unset, .unset, .unset, .unset, .unset, .unset, .unset] [(.long (9223372036854775807 : Int64))])) (fun _ k => XS.goto X0.here hx rfl (pc0 := 24) (pc' := 28) rfl (hb hby at_24) (by decide) (by decide) k) ?_
    exact B28 T0 _ x0 x2 x4 x5 (9223372036854775807 : Int64) hh Zh  X0 e0 N0 hf
  have B12 : ∀ (T0 : State) (locs : List Loc) (x0 : Int64) (x2 : Int64) (x4 : Int32) (t0 : Int32) (hh : Heap), n0 ≤ hh.size → Stand p l e room_1 s m #[(.long p0), (.long p2), (.int p4)] below meth c T0 locs 0 0 → T0.heap = hh → Fr n0 locs → f0_12 x0 x2 x4 t0 = 1 → own_Goes p e below s (own_Law n0) 16 128 T0 (mkF m 12 #[.val (.long x0), .second, .val (.long x2), .second, .val (.int x4), .unset, .unset, .unset, .unset, .unset, .unset, .unset, .unset, .unset, .unset] [(.int t0)]) := by
    intro T0 locs x0 x2 x4 t0 hh Zh  X0 e0 N0 hf
    refine own_step (T' := T0) (g' := (mkF m 14 #[.val (.long x0), .second, .val (.long x2), .second, .val (.int x4), .val (.int t0), .unset, .unset, .unset, .unset, .unset, .unset, .unset, .unset, .unset] [])) (fun _ k => XS.istore X0.here hx rfl (hb hby at_12) rfl (l' := #[.val (.long x0), .second, .val (.long x2), .second, .val (.int x4), .val (.int t0), .unset, .unset, .unset, .unset, .unset, .unset, .unset, .unset, .unset]) rfl k) ?_
    refine own_step (T' := T0) (g' := (mkF m 16 #[.val (.long x0), .second, .val (.long x2), .second, .val (.int x4), .val (.int t0), .unset, .unset, .unset, .unset, .unset, .unset, .unset, .unset, .unset] [(.int x4)])) (fun _ k => XS.iload X0.here hx rfl (hb hby at_14) rfl k) ?_
    refine own_step (T' := T0) (g' := (mkF m 17 #[.val (.long x0), .second, .val (.long x2), .second, .val (.int x4), .val (.int t0), .unset, .unset, .unset, .unset, .unset, .unset, .unset, .unset, .unset] [(.int (2 : Int32)), (.int x4)])) (fun _ k => XS.iconst X0.here hx rfl (hb hby at_16) k) ?_
    refine own_step (T' := T0) (g' := (mkF m 18 #[.val (.long x0), .second, .val (.long x2), .second, .val (.int x4), .val (.int t0), .unset, .unset, .unset, .unset, .unset, .unset, .unset, .unset, .unset] [(.int (x4 &&& (2 : Int32)))])) (fun _ k => XS.iand X0.here hx rfl (hb hby at_17) rfl k) ?_
    by_cases hc : (x4 &&& (2 : Int32)) = (0 : Int32)
    · refine own_step (T' := T0) (g' := (mkF m 27 #[.val (.long x0), .second, .val (.long x2), .second, .val (.int x4), .val (.int t0), .unset, .unset, .unset, .unset, .unset, .unset, .unset, .unset, .unset] [])) (fun _ k => XS.ifYes X0.here hx rfl (pc0 := 18) (pc' := 27) rfl (hb hby at_18) rfl ((if0 _ _).trans (teq hc).1) (by decide) (by decide) k) ?_
      exact B27 T0 _ x0 x2 x4 t0 hh Zh  X0 e0 N0 ((if_pos hc).symm.trans hf)
    · refine own_step (T' := T0) (g' := (mkF m 21 #[.val (.long x0), .second, .val (.long x2), .second, .val (.int x4), .val (.int t0), .unset, .unset, .unset, .unset, .unset, .unset, .unset, .unset, .unset] [])) (fun _ k => XS.ifNo X0.here hx rfl (hb hby at_18) rfl ((if0 _ _).trans (feq hc).1) k) ?_
      exact B21 T0 _ x0 x2 x4 t0 hh Zh  X0 e0 N0 ((if_neg hc).symm.trans hf)
  have B11 : ∀ (T0 : State) (locs : List Loc) (x0 : Int64) (x2 : Int64) (x4 : Int32) (hh : Heap), n0 ≤ hh.size → Stand p l e room_1 s m #[(.long p0), (.long p2), (.int p4)] below meth c T0 locs 0 0 → T0.heap = hh → Fr n0 locs → f0_11 x0 x2 x4 = 1 → own_Goes p e below s (own_Law n0) 16 128 T0 (mkF m 11 #[.val (.long x0), .second, .val (.long x2), .second, .val (.int x4), .unset, .unset, .unset, .unset, .unset, .unset, .unset, .unset, .unset, .unset] []) := by
    intro T0 locs x0 x2 x4 hh Zh  X0 e0 N0 hf
    refine own_step (T' := T0) (g' := (mkF m 12 #[.val (.long x0), .second, .val (.long x2), .second, .val (.int x4), .unset, .unset, .unset, .unset, .unset, .unset, .unset, .unset, .unset, .unset] [(.int (0 : Int32))])) (fun _ k => XS.iconst X0.here hx rfl (hb hby at_11) k) ?_
    exact B12 T0 _ x0 x2 x4 (0 : Int32) hh Zh  X0 e0 N0 hf
  have B7 : ∀ (T0 : State) (locs : List Loc) (x0 : Int64) (x2 : Int64) (x4 : Int32) (hh : Heap), n0 ≤ hh.size → Stand p l e room_1 s m #[(.long p0), (.long p2), (.int p4)] below meth c T0 locs 0 0 → T0.heap = hh → Fr n0 locs → f0_7 x0 x2 x4 = 1 → own_Goes p e below s (own_Law n0) 16 128 T0 (mkF m 7 #[.val (.long x0), .second, .val (.long x2), .second, .val (.int x4), .unset, .unset, .unset, .unset, .unset, .unset, .unset, .unset, .unset, .unset] []) := by
    intro T0 locs x0 x2 x4 hh Zh  X0 e0 N0 hf
    refine own_step (T' := T0) (g' := (mkF m 8 #[.val (.long x0), .second, .val (.long x2), .second, .val (.int x4), .unset, .unset, .unset, .unset, .unset, .unset, .unset, .unset, .unset, .unset] [(.int (1 : Int32))])) (fun _ k => XS.iconst X0.here hx rfl (hb hby at_7) k) ?_
    refine own_step (T' := T0) (g' := (mkF m 12 #[.val (.long x0), .second, .val (.long x2), .second, .val (.int x4), .unset, .unset, .unset, .unset, .unset, .unset, .unset, .unset, .unset, .unset] [(.int (1 : Int32))])) (fun _ k => XS.goto X0.here hx rfl (pc0 := 8) (pc' := 12) rfl (hb hby at_8) (by decide) (by decide) k) ?_
    exact B12 T0 _ x0 x2 x4 (1 : Int32) hh Zh  X0 e0 N0 hf
  have B0 : ∀ (T0 : State) (locs : List Loc) (x0 : Int64) (x2 : Int64) (x4 : Int32) (hh : Heap), n0 ≤ hh.size → Stand p l e room_1 s m #[(.long p0), (.long p2), (.int p4)] below meth c T0 locs 0 0 → T0.heap = hh → Fr n0 locs → f0_0 x0 x2 x4 = 1 → own_Goes p e below s (own_Law n0) 16 128 T0 (mkF m 0 #[.val (.long x0), .second, .val (.long x2), .second, .val (.int x4), .unset, .unset, .unset, .unset, .unset, .unset, .unset, .unset, .unset, .unset] []) := by
    intro T0 locs x0 x2 x4 hh Zh  X0 e0 N0 hf
    refine own_step (T' := T0) (g' := (mkF m 2 #[.val (.long x0), .second, .val (.long x2), .second, .val (.int x4), .unset, .unset, .unset, .unset, .unset, .unset, .unset, .unset, .unset, .unset] [(.int x4)])) (fun _ k => XS.iload X0.here hx rfl (hb hby at_0) rfl k) ?_
    refine own_step (T' := T0) (g' := (mkF m 3 #[.val (.long x0), .second, .val (.long x2), .second, .val (.int x4), .unset, .unset, .unset, .unset, .unset, .unset, .unset, .unset, .unset, .unset] [(.int (1 : Int32)), (.int x4)])) (fun _ k => XS.iconst X0.here hx rfl (hb hby at_2) k) ?_
    refine own_step (T' := T0) (g' := (mkF m 4 #[.val (.long x0), .second, .val (.long x2), .second, .val (.int x4), .unset, .unset, .unset, .unset, .unset, .unset, .unset, .unset, .unset, .unset] [(.int (x4 &&& (1 : Int32)))])) (fun _ k => XS.iand X0.here hx rfl (hb hby at_3) rfl k) ?_
    by_cases hc : (x4 &&& (1 : Int32)) = (0 : Int32)
    · refine own_step (T' := T0) (g' := (mkF m 11 #[.val (.long x0), .second, .val (.long x2), .second, .val (.int x4), .unset, .unset, .unset, .unset, .unset, .unset, .unset, .unset, .unset, .unset] [])) (fun _ k => XS.ifYes X0.here hx rfl (pc0 := 4) (pc' := 11) rfl (hb hby at_4) rfl ((if0 _ _).trans (teq hc).1) (by decide) (by decide) k) ?_
      exact B11 T0 _ x0 x2 x4 hh Zh  X0 e0 N0 ((if_pos hc).symm.trans hf)
    · refine own_step (T' := T0) (g' := (mkF m 7 #[.val (.long x0), .second, .val (.long x2), .second, .val (.int x4), .unset, .unset, .unset, .unset, .unset, .unset, .unset, .unset, .unset, .unset] [])) (fun _ k => XS.ifNo X0.here hx rfl (hb hby at_4) rfl ((if0 _ _).trans (feq hc).1) k) ?_
      exact B7 T0 _ x0 x2 x4 hh Zh  X0 e0 N0 ((if_neg hc).symm.trans hf)
  have hB := B0 s₁ [] p0 p2 p4 h0 Z0 X00 e00 (Fr.nil n0) hlaw
  obtain ⟨s₂, o, q1, q2, q3, v, L, q4, q5, q6⟩ := hB
  exact ⟨s₂, o, castTop (ef_0 m p0 p2 p4) q1, q2, q3, v, L, q4, q5, q6⟩
set_option maxRecDepth 65536 in
set_option maxHeartbeats 40000000 in
theorem comes_1 {Post : Tables → Env → Array Value → State → Outcome → State → Prop} (hpost : ∀ tb e args s v u, (limb_1_1.after args s (.returned v) u = true ∧ limb_1_2.after args s (.returned v) u = true ∧ True) → FrameEnd s (.returned v) u (Jvm.fieldLocs frame_1_writes args s ++ Jvm.arrayLocs frame_1_arrays args s ++ Jvm.staticLocs frame_1_statics s) 16 128 → Post tb e args s (.returned v) u) :
    ArmFor flags0 classFile x code maxLocals ret World_1 tables_1 room_1 Calls_1 rest_1 Pre_1 Post := by
  intro l hfl _ _ p e ha hc hk s m args below hf hA hF happ hP
  obtain ⟨hcalls, hrest, hpre⟩ := hP
  obtain ⟨-, -, -, hnamed, -, -, -, hat⟩ := (Spec.applies_iff hf).mp happ
  obtain ⟨hg, hn⟩ := and_e (Cond.before_iff.mp (show (Jvm.Cond.and given_1 narrow_1).before args s = true from hpre))
  obtain ⟨hcnt, g0⟩ := and_e hg
  obtain ⟨a0, g1⟩ := and_e g0
  obtain ⟨a1, g2⟩ := and_e g1
  obtain ⟨w0, w1, w2, rfl⟩ : ∃ w0 w1 w2 : Value, args = #[w0, w1, w2] := by
    have hs : args.size = 3 := by simpa [Cond.value, given_1] using hcnt
    obtain ⟨L⟩ := args
    match L, hs with
    | [w0, w1, w2], _ => exact ⟨w0, w1, w2, rfl⟩
  have hw := fun d (hd : d ∈ tables_1) => atoms_spec (ws := Jvm.Cond.code x code maxLocals ret :: tables_1) hat d (List.mem_cons_of_mem _ hd)
  obtain ⟨i0, ei0⟩ := isL_v a0
  obtain rfl : w0 = (.long i0) := Option.some.inj ei0
  obtain ⟨i1, ei1⟩ := isL_v a1
  obtain rfl : w1 = (.long i1) := Option.some.inj ei1
  obtain ⟨i2, ei2⟩ := is_v g2
  obtain rfl : w2 = (.int i2) := Option.some.inj ei2
  obtain ⟨n, o, h1, h2, h3, _, L, rfl, ⟨rfl, N⟩, hq⟩ := rm0 l s _ hw tables_1 i0 i1 i2 s.heap s.heap.size (Nat.le_refl _) (own_law i0 i1 i2) p e ha hc hk s m _ below hf ((Spec.applies_iff_loose hf).mp happ).1 ⟨rfl, State.Warmed39.refl s, rfl⟩ trivial
  refine ⟨n, _, h1, h2, h3, hpost _ _ _ _ _ _ ⟨Cond.after_iff.mpr rfl, Cond.after_iff.mpr (eq_i res_at (Term.int_eval (1)) rfl), trivial⟩ ⟨hq.1, hq.2.1, (hq.2.2.sift fun y hy => Or.inr (N y hy)).mono (by decide) (by decide)⟩⟩
theorem main_1_1 : Claimed_1_1 := comes_1 fun _ _ _ _ _ _ h hF => ⟨h.1, hF⟩
theorem main_1_2 : Claimed_1_2 := comes_1 fun _ _ _ _ _ _ h hF => ⟨h.2.1, hF⟩
end Jvm.Pilot.@@N@@
namespace Jvm.Pilot.@@N@@
open Jvm Jvm.ClassFile Sem Op Lib Jvm.Free Jvm.Stand Jvm.Pilot.@@N@@.Jvm.D
/-! MADE BY PROGRAM (witnessworld.py) out of the Statement's table words and the real class files: 10 classes; the members and pool entries that the words name. The judged class is class 1, her method 1. -/
namespace start1
open Jvm.ClassFile
def u (s : String) : CpInfo := .utf8 (stringToUtf16 s)
/-- a pool by its gaps: so many unusable entries, then the entry; so many at the end -/
def gap : Nat → List CpInfo → List CpInfo
  | 0, r => r
  | n + 1, r => .unusable :: gap n r
def poolList (es : List (Nat × CpInfo)) (last : Nat) : List CpInfo := es.foldr (fun e r => gap e.1 (e.2 :: r)) (gap last [])
def pool (es : List (Nat × CpInfo)) (last : Nat) : Array CpInfo := ⟨poolList es last⟩
def fileOf (pool : Array CpInfo) (this : Nat) (attrs : Array Attribute := #[]) (ms : Array MethodInfo := #[]) (fl : Nat := 33) (sup : Nat := 0) (ifs : Array Nat := #[]) (fds : Array FieldInfo := #[]) : ClassFile where
  minorVersion := 0
  majorVersion := 65
  constantPool := pool
  accessFlags := fl
  thisClass := this
  superClass := sup
  interfaces := ifs
  fields := fds
  methods := ms
  attributes := attrs
def plain (name : String) (sup : Option ClassId) : Class where
  name := name
  kind := .ordinary
  loader := none
  accessFlags := 33
  super := sup
  interfaces := #[]
  cf := none
  fields := #[]
  methods := #[]
  instanceTypes := #[]
  staticTypes := #[]
  resolved := #[]
  callSites := []
  init := .initialized
  statics := none
  mirror := none

def pool0 : Array CpInfo := pool [(5, u "<init>"), (0, u "()V"), (1, .class_ 10), (1, u "java/lang/Object")] 113

def k0c0 : Code := { maxStack := 0, maxLocals := 1, code := object_method_1_code, exceptionTable := #[], attributes := #[] }
def k0m0 : Method := { name := "<init>", desc := "()V", sig := { parameters := [], returnType := none }, accessFlags := 1, code := some k0c0 }
/-- java/lang/Object -/
def k0 : Class := { plain "java/lang/Object" none with
  accessFlags := 33
  interfaces := #[]
  cf := some (fileOf pool0 8 #[] #[{ accessFlags := 1, nameIndex := 5, descriptorIndex := 6, attributes := #[] }] 33 0 #[] #[])
  fields := #[]
  methods := #[k0m0]
  instanceTypes := #[]
  staticTypes := #[]
  resolved := Array.replicate 124 none
  statics := none }

def pool1 : Array CpInfo := pool [(2, .class_ 4), (1, u "java/lang/Object"), (0, u "<init>"), (0, u "()V"), (2, .long 9223372036854775807), (1, .class_ 12), (0, u "com/example/careful_lock/carefullock/Deadline"), (0, .methodref 11 14), (0, .nameAndType 5 15), (0, u "(JJZ)V"), (0, .methodref 11 17), (0, .nameAndType 18 19), (0, u "uninterruptible"), (0, u "()Lcom/example/careful_lock/carefullock/Deadline;"), (0, .methodref 11 21), (0, .nameAndType 22 23), (0, u "startNanos"), (0, u "()J"), (0, .methodref 11 25), (0, .nameAndType 26 23), (0, u "timeoutNanos"), (0, .methodref 11 28), (0, .nameAndType 29 30), (0, u "interruptible"), (0, u "()Z"), (0, .methodref 11 32), (0, .nameAndType 33 30), (0, u "isNever"), (0, .class_ 35), (0, u "com/example/careful_lock/carefullock/DeadlineUninterruptiblePinLaw"), (2, u "law"), (0, u "(JJI)Z")] 3

def k1m0 : Method := { name := "<init>", desc := "()V", sig := { parameters := [], returnType := none }, accessFlags := 1, code := none }
def k1c1 : Code := { maxStack := 7, maxLocals := 15, code := code, exceptionTable := #[], attributes := #[] }
def k1m1 : Method := { name := "law", desc := "(JJI)Z", sig := { parameters := [.long, .long, .int], returnType := some .boolean }, accessFlags := 9, code := some k1c1 }
/-- com/example/careful_lock/carefullock/DeadlineUninterruptiblePinLaw -/
def k1 : Class := { plain "com/example/careful_lock/carefullock/DeadlineUninterruptiblePinLaw" (some 0) with
  accessFlags := 49
  interfaces := #[]
  cf := some (fileOf pool1 34 #[] #[{ accessFlags := 1, nameIndex := 5, descriptorIndex := 6, attributes := #[] }, { accessFlags := 9, nameIndex := 38, descriptorIndex := 39, attributes := #[] }] 49 2 #[] #[])
  fields := #[]
  methods := #[k1m0, k1m1]
  instanceTypes := #[]
  staticTypes := #[]
  resolved := Array.replicate 43 none
  statics := none }

def pool2 : Array CpInfo := pool [(1, .methodref 2 3), (0, .class_ 4), (0, .nameAndType 5 6), (0, u "java/lang/Object"), (0, u "<init>"), (0, u "()V"), (0, .class_ 8), (0, u "java/lang/Record")] 13

def k2c0 : Code := { maxStack := 1, maxLocals := 1, code := jdk_30_method_1_code, exceptionTable := #[], attributes := #[] }
def k2m0 : Method := { name := "<init>", desc := "()V", sig := { parameters := [], returnType := none }, accessFlags := 4, code := some k2c0 }
/-- java/lang/Record -/
def k2 : Class := { plain "java/lang/Record" (some 0) with
  accessFlags := 1057
  interfaces := #[]
  cf := some (fileOf pool2 7 #[] #[{ accessFlags := 4, nameIndex := 5, descriptorIndex := 6, attributes := #[] }] 1057 2 #[] #[])
  fields := #[]
  methods := #[k2m0]
  instanceTypes := #[]
  staticTypes := #[]
  resolved := Array.replicate 22 none
  statics := none }

def pool3 : Array CpInfo := pool [(3, .methodref 4 5), (0, .class_ 6), (0, .nameAndType 7 8), (0, u "java/lang/Record"), (0, u "<init>"), (0, u "()V"), (0, .fieldref 10 11), (0, .class_ 12), (0, .nameAndType 13 14), (0, u "com/example/careful_lock/carefullock/Deadline"), (0, u "startNanos"), (0, u "J"), (0, .fieldref 10 16), (0, .nameAndType 17 14), (0, u "timeoutNanos"), (0, .fieldref 10 19), (0, .nameAndType 20 21), (0, u "interruptible"), (0, u "Z"), (5, u "()J"), (0, .methodref 10 29), (0, .nameAndType 7 30), (0, u "(JJZ)V"), (0, .long 9223372036854775807), (17, u "NEVER"), (5, u "()Lcom/example/careful_lock/carefullock/Deadline;"), (0, u "uninterruptible"), (0, u "isNever"), (0, u "()Z")] 27

def k3c0 : Code := { maxStack := 3, maxLocals := 6, code := prog_3_method_1_code, exceptionTable := #[], attributes := #[] }
def k3m0 : Method := { name := "<init>", desc := "(JJZ)V", sig := { parameters := [.long, .long, .boolean], returnType := none }, accessFlags := 0, code := some k3c0 }
def k3c1 : Code := { maxStack := 7, maxLocals := 1, code := prog_3_method_4_code, exceptionTable := #[], attributes := #[] }
def k3m1 : Method := { name := "uninterruptible", desc := "()Lcom/example/careful_lock/carefullock/Deadline;", sig := { parameters := [], returnType := some (.object "com/example/careful_lock/carefullock/Deadline") }, accessFlags := 0, code := some k3c1 }
def k3c2 : Code := { maxStack := 4, maxLocals := 1, code := prog_3_method_5_code, exceptionTable := #[], attributes := #[] }
def k3m2 : Method := { name := "isNever", desc := "()Z", sig := { parameters := [], returnType := some .boolean }, accessFlags := 0, code := some k3c2 }
def k3c3 : Code := { maxStack := 2, maxLocals := 1, code := prog_3_method_10_code, exceptionTable := #[], attributes := #[] }
def k3m3 : Method := { name := "startNanos", desc := "()J", sig := { parameters := [], returnType := some .long }, accessFlags := 1, code := some k3c3 }
def k3c4 : Code := { maxStack := 2, maxLocals := 1, code := prog_3_method_11_code, exceptionTable := #[], attributes := #[] }
def k3m4 : Method := { name := "timeoutNanos", desc := "()J", sig := { parameters := [], returnType := some .long }, accessFlags := 1, code := some k3c4 }
def k3c5 : Code := { maxStack := 1, maxLocals := 1, code := prog_3_method_12_code, exceptionTable := #[], attributes := #[] }
def k3m5 : Method := { name := "interruptible", desc := "()Z", sig := { parameters := [], returnType := some .boolean }, accessFlags := 1, code := some k3c5 }
/-- com/example/careful_lock/carefullock/Deadline -/
def k3 : Class := { plain "com/example/careful_lock/carefullock/Deadline" (some 2) with
  accessFlags := 48
  interfaces := #[]
  cf := some (fileOf pool3 10 #[] #[{ accessFlags := 0, nameIndex := 7, descriptorIndex := 30, attributes := #[] }, { accessFlags := 0, nameIndex := 56, descriptorIndex := 55, attributes := #[] }, { accessFlags := 0, nameIndex := 57, descriptorIndex := 58, attributes := #[] }, { accessFlags := 1, nameIndex := 13, descriptorIndex := 27, attributes := #[] }, { accessFlags := 1, nameIndex := 17, descriptorIndex := 27, attributes := #[] }, { accessFlags := 1, nameIndex := 20, descriptorIndex := 58, attributes := #[] }] 48 4 #[] #[{ accessFlags := 18, nameIndex := 13, descriptorIndex := 14, attributes := #[] }, { accessFlags := 18, nameIndex := 17, descriptorIndex := 14, attributes := #[] }, { accessFlags := 18, nameIndex := 20, descriptorIndex := 21, attributes := #[] }, { accessFlags := 24, nameIndex := 49, descriptorIndex := 14, attributes := #[] }])
  fields := #[{ name := "startNanos", type := .long, accessFlags := 18, slot := 0, constantValue := 0 }, { name := "timeoutNanos", type := .long, accessFlags := 18, slot := 1, constantValue := 0 }, { name := "interruptible", type := .boolean, accessFlags := 18, slot := 2, constantValue := 0 }, { name := "NEVER", type := .long, accessFlags := 24, slot := 0, constantValue := 0 }]
  methods := #[k3m0, k3m1, k3m2, k3m3, k3m4, k3m5]
  instanceTypes := #[.long, .long, .boolean]
  staticTypes := #[.long]
  resolved := Array.replicate 86 none
  statics := none }

def pool4 : Array CpInfo := pool [(1, u "java/lang/Cloneable"), (0, .class_ 1), (0, u "java/lang/Object"), (0, .class_ 3)] 3

/-- java/lang/Cloneable -/
def k4 : Class := { plain "java/lang/Cloneable" (some 0) with
  accessFlags := 1537
  interfaces := #[]
  cf := some (fileOf pool4 2 #[] #[] 1537 4 #[] #[])
  fields := #[]
  methods := #[]
  instanceTypes := #[]
  staticTypes := #[]
  resolved := Array.replicate 8 none
  statics := none }

def pool5 : Array CpInfo := pool [(1, u "java/io/Serializable"), (0, .class_ 1), (0, u "java/lang/Object"), (0, .class_ 3)] 3

/-- java/io/Serializable -/
def k5 : Class := { plain "java/io/Serializable" (some 0) with
  accessFlags := 1537
  interfaces := #[]
  cf := some (fileOf pool5 2 #[] #[] 1537 4 #[] #[])
  fields := #[]
  methods := #[]
  instanceTypes := #[]
  staticTypes := #[]
  resolved := Array.replicate 8 none
  statics := none }

/-- the primitive byte -/
def k6 : Class := { plain "byte" none with kind := .primitive 'B', accessFlags := 0x411 }
/-- [B -/
def k7 : Class := { plain "[B" (some 0) with kind := .array 6 .byte, interfaces := #[4, 5], accessFlags := 1041 }

/-- the primitive int -/
def k8 : Class := { plain "int" none with kind := .primitive 'I', accessFlags := 0x411 }
/-- [I -/
def k9 : Class := { plain "[I" (some 0) with kind := .array 8 .int, interfaces := #[4, 5], accessFlags := 1041 }

def heap : Heap := #[]
def classes : Array Class := #[k0, k1, k2, k3, k4, k5, k6, k7, k8, k9]
def interned : List (Array UInt16 × Addr) := []
def slotsUsed : Nat := 0
def theMethod : MethodId := ⟨1, 1⟩
def args0 : Array Value := #[.long 5, .long 6, .int 7]
def aboutOver (below : List Frame) : State where
  vm := { classes := classes, interned := interned.toArray }
  heap := heap
  slotsUsed := slotsUsed
  threads := #[{ frames := .invoking theMethod args0 :: below }]
def below0 : List Frame := [.native { method := ⟨0, 0⟩, args := #[] }]
def about1 : State := aboutOver below0
def p0 : Program := .bare "" "" ""
def e0 : Env := launch0.env 0 0 0
theorem w_frames : about1.frames = Frame.invoking theMethod args0 :: below0 := rfl
set_option maxRecDepth 65536 in
theorem w_args : argsFit about1.vm theMethod args0 = true := by decide +kernel
set_option maxRecDepth 65536 in
theorem w_heap : heapFits about1 = true := by decide +kernel
set_option maxRecDepth 65536 in
theorem w_runnable : about1.curStatus? = some .runnable := by decide +kernel
set_option maxRecDepth 65536 in
theorem w_alone : about1.alone = true := by decide +kernel
set_option maxRecDepth 65536 in
theorem w_named : about1.methodNamed? x = some theMethod := by decide +kernel
set_option maxRecDepth 65536 in
theorem w_hears : about1.hears theMethod below0 = true := by decide +kernel
set_option maxRecDepth 65536 in
theorem w_ripe : about1.ripe theMethod args0 below0 = true := by decide +kernel
theorem w_running : about1.status = .running := rfl
set_option maxRecDepth 65536 in
theorem w_room : about1.hasRoom e0.platform room_1 = true :=
  launch0.hasRoom_least _ room_1 (by decide +kernel) (by decide +kernel) (by decide +kernel) (by decide +kernel) (by decide +kernel) (by decide +kernel)
theorem allAtoms_all (ts : List Jvm.Cond) (a : Array Jvm.Value) (st : Jvm.State) : (allAtoms ts).before a st = ts.all (fun c => c.before a st) := by
  induction ts with
  | nil => rfl
  | cons c t ih =>
    show (Jvm.Cond.and c (allAtoms t)).before a st = _
    rw [Jvm.Cond.before_and, ih, List.all_cons]
def words1 : List Jvm.Cond := Jvm.Cond.code x code maxLocals ret :: tables_1
/-- a 'code' word, met by the world's own term for the bytes: nothing is compared byte by byte -/
theorem code_word {y : MethodName} {bytes : ByteArray} {mx : Nat} {rt : Option FieldType} {a : Array Value} {s : State} {m : MethodId} {meth : Method} {c : Code} (h1 : s.methodNamed? y = some m) (h2 : s.vm.method? m = some meth) (h3 : meth.code = some c) (h4 : c.code = bytes)
    (h5 : (c.maxLocals == mx && c.exceptionTable.isEmpty && decide (c.maxStack ≤ mostOperands) && decide (meth.sig.returnType = rt) && !meth.locks && decide (parseMethodDescriptor y.desc = some meth.sig)) = true) : (Jvm.Cond.code y bytes mx rt).before a s = true := by
  simp only [Bool.and_eq_true, beq_iff_eq, Bool.not_eq_true', decide_eq_true_eq] at h5
  obtain ⟨⟨⟨⟨⟨g1, g2⟩, g3⟩, g4⟩, g5⟩, g6⟩ := h5
  simp [Cond.before, Cond.holds, Cond.value, h1, h2, h3, h4, g1, g2, g3, g4, g5, g6]
def isCode : Jvm.Cond → Bool
  | .code _ _ _ _ => true
  | _ => false
theorem all_split {L : List Jvm.Cond} {P : Jvm.Cond → Bool} (h1 : L.all (fun c => isCode c || P c) = true) (h2 : ∀ c ∈ L.filter isCode, P c = true) : L.all P = true := by
  refine List.all_eq_true.mpr fun c hc => ?_
  have h := List.all_eq_true.mp h1 c hc
  rcases Bool.eq_false_or_eq_true (isCode c) with hi | hi
  · exact h2 c (List.mem_filter.mpr ⟨hc, hi⟩)
  · simpa [hi] using h
set_option maxRecDepth 65536 in
theorem w_c0 : (Jvm.Cond.code x code maxLocals ret).before args0 about1 = true := code_word (m := ⟨1, 1⟩) (meth := k1m1) (c := k1c1) (by decide +kernel) rfl rfl rfl (by decide +kernel)
set_option maxRecDepth 65536 in
theorem w_c1 : (Jvm.Cond.code ({ cls := "com/example/careful_lock/carefullock/Deadline", name := "<init>", desc := "(JJZ)V" } : Jvm.MethodName) prog_3_method_1_code (6 : Nat) (Option.none : Option Jvm.ClassFile.FieldType)).before args0 about1 = true := code_word (m := ⟨3, 0⟩) (meth := k3m0) (c := k3c0) (by decide +kernel) rfl rfl rfl (by decide +kernel)
set_option maxRecDepth 65536 in
theorem w_c2 : (Jvm.Cond.code ({ cls := "java/lang/Record", name := "<init>", desc := "()V" } : Jvm.MethodName) jdk_30_method_1_code (1 : Nat) (Option.none : Option Jvm.ClassFile.FieldType)).before args0 about1 = true := code_word (m := ⟨2, 0⟩) (meth := k2m0) (c := k2c0) (by decide +kernel) rfl rfl rfl (by decide +kernel)
set_option maxRecDepth 65536 in
theorem w_c3 : (Jvm.Cond.code ({ cls := "java/lang/Object", name := "<init>", desc := "()V" } : Jvm.MethodName) object_method_1_code (1 : Nat) (Option.none : Option Jvm.ClassFile.FieldType)).before args0 about1 = true := code_word (m := ⟨0, 0⟩) (meth := k0m0) (c := k0c0) (by decide +kernel) rfl rfl rfl (by decide +kernel)
set_option maxRecDepth 65536 in
theorem w_c4 : (Jvm.Cond.code ({ cls := "com/example/careful_lock/carefullock/Deadline", name := "uninterruptible", desc := "()Lcom/example/careful_lock/carefullock/Deadline;" } : Jvm.MethodName) prog_3_method_4_code (1 : Nat) (Option.some (Jvm.ClassFile.FieldType.object "com/example/careful_lock/carefullock/Deadline"))).before args0 about1 = true := code_word (m := ⟨3, 1⟩) (meth := k3m1) (c := k3c1) (by decide +kernel) rfl rfl rfl (by decide +kernel)
set_option maxRecDepth 65536 in
theorem w_c5 : (Jvm.Cond.code ({ cls := "com/example/careful_lock/carefullock/Deadline", name := "startNanos", desc := "()J" } : Jvm.MethodName) prog_3_method_10_code (1 : Nat) (Option.some Jvm.ClassFile.FieldType.long)).before args0 about1 = true := code_word (m := ⟨3, 3⟩) (meth := k3m3) (c := k3c3) (by decide +kernel) rfl rfl rfl (by decide +kernel)
set_option maxRecDepth 65536 in
theorem w_c6 : (Jvm.Cond.code ({ cls := "com/example/careful_lock/carefullock/Deadline", name := "timeoutNanos", desc := "()J" } : Jvm.MethodName) prog_3_method_11_code (1 : Nat) (Option.some Jvm.ClassFile.FieldType.long)).before args0 about1 = true := code_word (m := ⟨3, 4⟩) (meth := k3m4) (c := k3c4) (by decide +kernel) rfl rfl rfl (by decide +kernel)
set_option maxRecDepth 65536 in
theorem w_c7 : (Jvm.Cond.code ({ cls := "com/example/careful_lock/carefullock/Deadline", name := "interruptible", desc := "()Z" } : Jvm.MethodName) prog_3_method_12_code (1 : Nat) (Option.some Jvm.ClassFile.FieldType.boolean)).before args0 about1 = true := code_word (m := ⟨3, 5⟩) (meth := k3m5) (c := k3c5) (by decide +kernel) rfl rfl rfl (by decide +kernel)
set_option maxRecDepth 65536 in
theorem w_c8 : (Jvm.Cond.code ({ cls := "com/example/careful_lock/carefullock/Deadline", name := "isNever", desc := "()Z" } : Jvm.MethodName) prog_3_method_5_code (1 : Nat) (Option.some Jvm.ClassFile.FieldType.boolean)).before args0 about1 = true := code_word (m := ⟨3, 2⟩) (meth := k3m2) (c := k3c2) (by decide +kernel) rfl rfl rfl (by decide +kernel)
def codes1 : List Jvm.Cond := [Jvm.Cond.code x code maxLocals ret, Jvm.Cond.code ({ cls := "com/example/careful_lock/carefullock/Deadline", name := "<init>", desc := "(JJZ)V" } : Jvm.MethodName) prog_3_method_1_code (6 : Nat) (Option.none : Option Jvm.ClassFile.FieldType), Jvm.Cond.code ({ cls := "java/lang/Record", name := "<init>", desc := "()V" } : Jvm.MethodName) jdk_30_method_1_code (1 : Nat) (Option.none : Option Jvm.ClassFile.FieldType), Jvm.Cond.code ({ cls := "java/lang/Object", name := "<init>", desc := "()V" } : Jvm.MethodName) object_method_1_code (1 : Nat) (Option.none : Option Jvm.ClassFile.FieldType), Jvm.Cond.code ({ cls := "com/example/careful_lock/carefullock/Deadline", name := "uninterruptible", desc := "()Lcom/example/careful_lock/carefullock/Deadline;" } : Jvm.MethodName) prog_3_method_4_code (1 : Nat) (Option.some (Jvm.ClassFile.FieldType.object "com/example/careful_lock/carefullock/Deadline")), Jvm.Cond.code ({ cls := "com/example/careful_lock/carefullock/Deadline", name := "startNanos", desc := "()J" } : Jvm.MethodName) prog_3_method_10_code (1 : Nat) (Option.some Jvm.ClassFile.FieldType.long), Jvm.Cond.code ({ cls := "com/example/careful_lock/carefullock/Deadline", name := "timeoutNanos", desc := "()J" } : Jvm.MethodName) prog_3_method_11_code (1 : Nat) (Option.some Jvm.ClassFile.FieldType.long), Jvm.Cond.code ({ cls := "com/example/careful_lock/carefullock/Deadline", name := "interruptible", desc := "()Z" } : Jvm.MethodName) prog_3_method_12_code (1 : Nat) (Option.some Jvm.ClassFile.FieldType.boolean), Jvm.Cond.code ({ cls := "com/example/careful_lock/carefullock/Deadline", name := "isNever", desc := "()Z" } : Jvm.MethodName) prog_3_method_5_code (1 : Nat) (Option.some Jvm.ClassFile.FieldType.boolean)]
set_option maxRecDepth 65536 in
theorem codes_eq : words1.filter isCode = codes1 := rfl
theorem w_codes : ∀ c ∈ words1.filter isCode, c.before args0 about1 = true := by
  rw [codes_eq]
  intro c hc
  simp only [codes1, List.mem_cons, List.not_mem_nil, or_false] at hc
  rcases hc with rfl | rfl | rfl | rfl | rfl | rfl | rfl | rfl | rfl
  · exact w_c0
  · exact w_c1
  · exact w_c2
  · exact w_c3
  · exact w_c4
  · exact w_c5
  · exact w_c6
  · exact w_c7
  · exact w_c8
set_option maxRecDepth 65536 in
theorem w_t1 : (words1.take 24).all (fun c => isCode c || c.before args0 about1) = true := by decide +kernel
set_option maxRecDepth 65536 in
theorem w_t2 : ((words1.drop 24).take 24).all (fun c => isCode c || c.before args0 about1) = true := by decide +kernel
set_option maxRecDepth 65536 in
theorem w_t3 : ((words1.drop 24).drop 24).all (fun c => isCode c || c.before args0 about1) = true := by decide +kernel
theorem w_tables : (allAtoms (Jvm.Cond.code x code maxLocals ret :: tables_1)).before args0 about1 = true := by
  rw [allAtoms_all]
  show words1.all (fun c => c.before args0 about1) = true
  refine all_split ?_ w_codes
  rw [← List.take_append_drop 24 words1, List.all_append, w_t1, ← List.take_append_drop 24 (words1.drop 24), List.all_append, w_t2, w_t3]
  rfl
set_option maxRecDepth 65536 in
theorem w_case : (Jvm.Cond.and given_1 narrow_1).before args0 about1 = true := by decide +kernel
theorem w_applies : (headSpec (Jvm.Cond.code x code maxLocals ret :: tables_1) room_1).applies x e0.platform about1 = true :=
  (Spec.applies_iff w_frames).mpr ⟨w_running, w_runnable, w_alone, w_named, w_hears, w_ripe, w_room, w_tables⟩
theorem atStart : AtStart classFile x code maxLocals ret World_1 tables_1 room_1 Calls_1 rest_1 Pre_1 launch0 p0 e0 about1 theMethod args0 below0 :=
  ⟨lists_1, trivial, launch0.admits_env _ _ _, launch0.least_env, fairChoices_fair.cas, fairChoices_fair.clock, w_frames, w_args, w_heap, w_applies, trivial, trivial, w_case⟩
end start1
theorem witness_1 : WitnessClaimed_1 := ⟨start1.p0, start1.e0, start1.about1, start1.theMethod, start1.args0, start1.below0, start1.atStart⟩
end Jvm.Pilot.@@N@@
