import JvmDerived
import JvmDerived.Pilot.@@N@@Statement
import JvmDerived.Pilot.@@N@@Code
set_option linter.unusedVariables false
set_option linter.unusedSimpArgs false
namespace Jvm.RoadKit
open Sem ClassFile Op Lib Jvm.Stand Jvm.Free Jvm.LawKit
section New
variable {p : Program} {l : Launch} {e : Env} {R : Room} {s : State} {m : MethodId} {args : Array Value} {below : List Frame} {meth : Method} {c : Code} {T : State} {locs : List Loc} {cells slots : Nat}
theorem retI (X : Stand p l e R s m args below meth c T locs cells slots) (hx : p.tables.exec = Jvm.exec) {pc : Nat} {Ls : Array Slot} {z : Int32} {rest : List Value} (hret : meth.sig.returnType = some .int) (hd : decode c.code pc = .ok (.ireturn, 1)) {fs : List Frame}
    (hl : ∀ (f : JFrame) (acts : List Action), f.method = m → f.locked = none → f.entered = [] → (doReturn e (T.setTop f) acts (some (.int z))).1 = T.setFrames fs) : Steps p.tables e below (T.setTop (mkF m pc Ls (.int z :: rest))) (T.setFrames fs) := by
  have hm' : T.vm.method? m = some meth := X.method'
  have hn : narrow .int (.int z) = .int z := rfl
  show Steps p.tables e below (T.setTop { method := m, pc := pc, locals := Ls, stack := _ :: rest, locked := none }) _
  jvm_step X.here [X.here.top, hx, hd, hm', hret, hn]
  first | (intro acts; rw [hl _ acts rfl rfl rfl]) | rw [hl _ _ rfl rfl rfl]
  exact Steps.refl _
theorem own_retL (X : Stand p l e R s m args below meth c T locs cells slots) (hx : p.tables.exec = Jvm.exec) {pc : Nat} {Ls : Array Slot} {z : Int64} {rest : List Value} (hret : meth.sig.returnType = some .long) (hd : decode c.code pc = .ok (.lreturn, 1)) {fs : List Frame}
    (hl : ∀ (f : JFrame) (acts : List Action), f.method = m → f.locked = none → f.entered = [] → (doReturn e (T.setTop f) acts (some (.long z))).1 = T.setFrames fs) : Steps p.tables e below (T.setTop (mkF m pc Ls (.long z :: rest))) (T.setFrames fs) :=
  retOut X hx hret rfl (Or.inr (Or.inl ⟨rfl, rfl, z, rfl⟩)) hd hl
/-- from the state T with the frame g on top the run comes to the invocation's end, returns v, and Q and the frame's bounds hold there -/
def own_Goes (p : Program) (e : Env) (below : List Frame) (s : State) (Q : Option Value → Heap → List Loc → Prop) (k n : Nat) (T : State) (g : JFrame) : Prop :=
  ∃ s₂ o, Steps p.tables e below (T.setTop g) s₂ ∧ s₂.status = .running ∧ Ended s₂ below o ∧ ∃ v L, o = .returned v ∧ Q v s₂.heap L ∧ FrameEnd s o s₂ L k n
theorem own_step {Q : Option Value → Heap → List Loc → Prop} {k n : Nat} {T T' : State} {g g' : JFrame} (h : ∀ t, Steps p.tables e below (T'.setTop g') t → Steps p.tables e below (T.setTop g) t) (w : own_Goes p e below s Q k n T' g') : own_Goes p e below s Q k n T g := by
  obtain ⟨s₂, o, h1, r⟩ := w
  exact ⟨s₂, o, h _ h1, r⟩
theorem own_ret {x : MethodName} {S : Spec} {code : ByteArray} {maxLocals : Nat} {ret : Option FieldType} {s₁ : State} (X : Stand p l e R s m args below meth c T locs cells slots) (Bd : BodyLoose p l x S code maxLocals ret e s m args below meth c s₁) {v : Option Value} (hv : meth.sig.returnType = none → v = none) {g : JFrame}
    (hst : ∀ fs, (∀ (f : JFrame) (acts : List Action), f.method = m → f.locked = none → f.entered = [] → (doReturn e (T.setTop f) acts v).1 = T.setFrames fs) → Steps p.tables e below (T.setTop g) (T.setFrames fs)) {Q : Option Value → Heap → List Loc → Prop} (hQ : Q v T.heap locs) {k n : Nat} (hk : cells ≤ k) (hn : slots ≤ n) : own_Goes p e below s Q k n T g := by
  obtain ⟨fs, hr, hrun, hended, hW, hsame⟩ := X.leave (v := v) hv
  exact ⟨_, _, hst fs hr, hrun, hended, _, _, rfl, hQ, ⟨_, rfl⟩, hW, hsame.mono hk hn⟩
/-- what a body leaves that writes nothing: the value r, the heap as it was -/
def own_Pure (r : Value) (h0 : Heap) (n0 : Nat) (v : Option Value) (h : Heap) (L : List Loc) : Prop := v = some r ∧ Fr n0 L ∧ h = h0
/-- what the law leaves -/
def own_Law (n0 : Nat) (v : Option Value) (_ : Heap) (L : List Loc) : Prop := v = some (.int 1) ∧ Fr n0 L
end New
theorem own_getD (ws : List Int32) (i : Nat) : (ws.map Value.int).getD i (.int (0 : Int32)) = .int (ws.getD i (0 : Int32)) := by
  induction ws generalizing i with
  | nil => rfl
  | cons a r ih => cases i with
    | zero => rfl
    | succ j => exact ih j
end Jvm.RoadKit
namespace Jvm.Pilot.@@N@@
open Jvm Jvm.ClassFile Sem Op Lib Jvm.Free Jvm.Stand Jvm.LawKit Jvm.RoadKit Bundle Jvm.Pilot.@@N@@.Jvm.D
theorem pd_0 : parseMethodDescriptor "()V" = some ⟨[], none⟩ := by decide +kernel
theorem pd_1 : parseMethodDescriptor "(JI)J" = some ⟨[.long, .int], some .long⟩ := by decide +kernel
theorem pd_2 : parseMethodDescriptor "(JJZ)V" = some ⟨[.long, .long, .boolean], none⟩ := by decide +kernel
theorem pd_3 : parseMethodDescriptor "()Z" = some ⟨[], some .boolean⟩ := by decide +kernel
theorem d3_0 : decode jdk_30_method_1_code 0 = .ok (.aload_n 0, 1) := by decide +kernel
theorem d3_1 : decode jdk_30_method_1_code 1 = .ok (.invokespecial 1, 3) := by decide +kernel
theorem d3_4 : decode jdk_30_method_1_code 4 = .ok (.return_, 1) := by decide +kernel
theorem pn_3 : plainName "java/lang/Record" = true := by first | (simp [plainName, overriddenIn]; done) | decide +kernel
theorem ef_3 (m : MethodId) (x0 : Addr) : entryFrame m #[(.ref x0)] 1 = mkF m 0 #[.val (.ref x0)] [] := by first | (simp [entryFrame, mkF, argsToLocals, Value.category]; done) | rfl
theorem d2_0 : decode prog_3_method_1_code 0 = .ok (.aload_n 0, 1) := by decide +kernel
theorem d2_1 : decode prog_3_method_1_code 1 = .ok (.invokespecial 3, 3) := by decide +kernel
theorem d2_4 : decode prog_3_method_1_code 4 = .ok (.aload_n 0, 1) := by decide +kernel
theorem d2_5 : decode prog_3_method_1_code 5 = .ok (.lload_n 1, 1) := by decide +kernel
theorem d2_6 : decode prog_3_method_1_code 6 = .ok (.putfield 9, 3) := by decide +kernel
theorem d2_9 : decode prog_3_method_1_code 9 = .ok (.aload_n 0, 1) := by decide +kernel
theorem d2_10 : decode prog_3_method_1_code 10 = .ok (.lload_n 3, 1) := by decide +kernel
theorem d2_11 : decode prog_3_method_1_code 11 = .ok (.putfield 15, 3) := by decide +kernel
theorem d2_14 : decode prog_3_method_1_code 14 = .ok (.aload_n 0, 1) := by decide +kernel
theorem d2_15 : decode prog_3_method_1_code 15 = .ok (.iload 5, 2) := by decide +kernel
theorem d2_17 : decode prog_3_method_1_code 17 = .ok (.putfield 18, 3) := by decide +kernel
theorem d2_20 : decode prog_3_method_1_code 20 = .ok (.return_, 1) := by decide +kernel
theorem pn_2 : plainName "com/example/careful_lock/carefullock/Deadline" = true := by first | (simp [plainName, overriddenIn]; done) | decide +kernel
theorem ef_2 (m : MethodId) (x0 : Addr) (x1 : Int64) (x3 : Int64) (x5 : Int32) : entryFrame m #[(.ref x0), (.long x1), (.long x3), (.int x5)] 6 = mkF m 0 #[.val (.ref x0), .val (.long x1), .second, .val (.long x3), .second, .val (.int x5)] [] := by first | (simp [entryFrame, mkF, argsToLocals, Value.category]; done) | rfl
def own_never (tm : Int64) : Int32 := if lcmpW tm (9223372036854775807 : Int64) = 0 then 1 else 0
theorem d5_0 : decode prog_3_method_5_code 0 = .ok (.aload_n 0, 1) := by decide +kernel
theorem d5_1 : decode prog_3_method_5_code 1 = .ok (.getfield 15, 3) := by decide +kernel
theorem d5_4 : decode prog_3_method_5_code 4 = .ok (.ldc2_w 31, 3) := by decide +kernel
theorem d5_7 : decode prog_3_method_5_code 7 = .ok (.lcmp, 1) := by decide +kernel
theorem d5_8 : decode prog_3_method_5_code 8 = .ok (.ifCond .ne 7, 3) := by decide +kernel
theorem d5_11 : decode prog_3_method_5_code 11 = .ok (.iconst 1, 1) := by decide +kernel
theorem d5_12 : decode prog_3_method_5_code 12 = .ok (.goto 4, 3) := by decide +kernel
theorem d5_15 : decode prog_3_method_5_code 15 = .ok (.iconst 0, 1) := by decide +kernel
theorem d5_16 : decode prog_3_method_5_code 16 = .ok (.ireturn, 1) := by decide +kernel
theorem pn_5 : plainName "com/example/careful_lock/carefullock/Deadline" = true := by first | (simp [plainName, overriddenIn]; done) | decide +kernel
theorem ef_5 (m : MethodId) (x0 : Addr) : entryFrame m #[(.ref x0)] 1 = mkF m 0 #[.val (.ref x0)] [] := by first | (simp [entryFrame, mkF, argsToLocals, Value.category]; done) | rfl
theorem d1_0 : decode method_2_code 0 = .ok (.iload_n 2, 1) := by decide +kernel
theorem d1_1 : decode method_2_code 1 = .ok (.iconst 1, 1) := by decide +kernel
theorem d1_2 : decode method_2_code 2 = .ok (.iushr, 1) := by decide +kernel
theorem d1_3 : decode method_2_code 3 = .ok (.iconst 3, 1) := by decide +kernel
theorem d1_4 : decode method_2_code 4 = .ok (.iand, 1) := by decide +kernel
theorem d1_5 : decode method_2_code 5 = .ok (.istore_n 3, 1) := by decide +kernel
theorem d1_6 : decode method_2_code 6 = .ok (.iload_n 3, 1) := by decide +kernel
theorem d1_7 : decode method_2_code 7 = .ok (.iconst 1, 1) := by decide +kernel
theorem d1_8 : decode method_2_code 8 = .ok (.if_icmp .ne 7, 3) := by decide +kernel
theorem d1_11 : decode method_2_code 11 = .ok (.ldc2_w 9, 3) := by decide +kernel
theorem d1_14 : decode method_2_code 14 = .ok (.lreturn, 1) := by decide +kernel
theorem d1_15 : decode method_2_code 15 = .ok (.iload_n 3, 1) := by decide +kernel
theorem d1_16 : decode method_2_code 16 = .ok (.iconst 2, 1) := by decide +kernel
theorem d1_17 : decode method_2_code 17 = .ok (.if_icmp .ne 7, 3) := by decide +kernel
theorem d1_20 : decode method_2_code 20 = .ok (.ldc2_w 11, 3) := by decide +kernel
theorem d1_23 : decode method_2_code 23 = .ok (.lreturn, 1) := by decide +kernel
theorem d1_24 : decode method_2_code 24 = .ok (.iload_n 3, 1) := by decide +kernel
theorem d1_25 : decode method_2_code 25 = .ok (.iconst 3, 1) := by decide +kernel
theorem d1_26 : decode method_2_code 26 = .ok (.if_icmp .ne 7, 3) := by decide +kernel
theorem d1_29 : decode method_2_code 29 = .ok (.ldc2_w 13, 3) := by decide +kernel
theorem d1_32 : decode method_2_code 32 = .ok (.lreturn, 1) := by decide +kernel
theorem d1_33 : decode method_2_code 33 = .ok (.lload_n 0, 1) := by decide +kernel
theorem d1_34 : decode method_2_code 34 = .ok (.lreturn, 1) := by decide +kernel
theorem pn_1 : plainName "com/example/careful_lock/carefullock/DeadlineIsNeverPinLaw" = true := by first | (simp [plainName, overriddenIn]; done) | decide +kernel
theorem ef_1 (m : MethodId) (x0 : Int64) (x2 : Int32) : entryFrame m #[(.long x0), (.int x2)] 4 = mkF m 0 #[.val (.long x0), .second, .val (.int x2), .unset] [] := by first | (simp [entryFrame, mkF, argsToLocals, Value.category]; done) | rfl
def f1_33 (x0 : Int64) : Int64 := x0
def f1_29 : Int64 := (-9223372036854775808 : Int64)
def f1_24 (x0 : Int64) (x3 : Int32) : Int64 := if x3 = (3 : Int32) then f1_29 else f1_33 x0
def f1_20 : Int64 := (9223372036854775806 : Int64)
def f1_15 (x0 : Int64) (x3 : Int32) : Int64 := if x3 = (2 : Int32) then f1_20 else f1_24 x0 x3
def f1_11 : Int64 := (9223372036854775807 : Int64)
def f1_0 (x0 : Int64) (x2 : Int32) : Int64 := if (((x2.toUInt32 >>> ((1 : Int32) &&& 31).toUInt32).toInt32) &&& (3 : Int32)) = (1 : Int32) then f1_11 else f1_15 x0 (((x2.toUInt32 >>> ((1 : Int32) &&& 31).toUInt32).toInt32) &&& (3 : Int32))
theorem pn_0 : plainName "com/example/careful_lock/carefullock/DeadlineIsNeverPinLaw" = true := by first | (simp [plainName, overriddenIn]; done) | decide +kernel
theorem ef_0 (m : MethodId) (x0 : Int64) (x2 : Int64) (x4 : Int32) : entryFrame m #[(.long x0), (.long x2), (.int x4)] maxLocals = mkF m 0 #[.val (.long x0), .second, .val (.long x2), .second, .val (.int x4), .unset, .unset, .unset, .unset, .unset] [] := by first | (simp [entryFrame, mkF, argsToLocals, Value.category, maxLocals]; done) | rfl
def f0_67 (t0 : Int32) : Int32 := (t0 &&& 1)
def f0_66 : Int32 := f0_67 (0 : Int32)
def f0_62 : Int32 := f0_67 (1 : Int32)
def f0_50 (x6 : Int64) (t0 : Int32) : Int32 := if (own_never x6) = t0 then f0_62 else f0_66
def f0_49 (x6 : Int64) : Int32 := f0_50 x6 (0 : Int32)
def f0_45 (x6 : Int64) : Int32 := f0_50 x6 (1 : Int32)
def f0_12 (x2 : Int64) (x4 : Int32) (t0 : Int32) : Int32 := if (lcmpW (f1_0 x2 x4) (9223372036854775807 : Int64)) = (0 : Int32) then f0_45 (f1_0 x2 x4) else f0_49 (f1_0 x2 x4)
def f0_11 (x2 : Int64) (x4 : Int32) : Int32 := f0_12 x2 x4 (0 : Int32)
def f0_7 (x2 : Int64) (x4 : Int32) : Int32 := f0_12 x2 x4 (1 : Int32)
def f0_0 (x0 : Int64) (x2 : Int64) (x4 : Int32) : Int32 := if (x4 &&& (1 : Int32)) = (0 : Int32) then f0_11 x2 x4 else f0_7 x2 x4
/-- what the heap says of a Deadline: its class, its three fields -/
def own_DL (Z : State) (h : Heap) (a : Addr) (st tm : Int64) (it : Int32) : Prop := Exa Z h a "com/example/careful_lock/carefullock/Deadline" ∧ Fld Z h a "com/example/careful_lock/carefullock/Deadline" "startNanos" "J" (.long st) ∧ Fld Z h a "com/example/careful_lock/carefullock/Deadline" "timeoutNanos" "J" (.long tm) ∧ Fld Z h a "com/example/careful_lock/carefullock/Deadline" "interruptible" "Z" (.int it)
def own_Void (h0 : Heap) (n0 : Nat) (v : Option Value) (h : Heap) (L : List Loc) : Prop := v = none ∧ Fr n0 L ∧ h = h0
def own_Made (Z : State) (a : Addr) (st tm : Int64) (it : Int32) (h0 : Heap) (n0 : Nat) (v : Option Value) (h : Heap) (L : List Loc) : Prop := v = none ∧ Fr n0 L ∧ Keep h0 h [a] ∧ own_DL Z h a st tm (it &&& 1)
def own_Twin (Z : State) (b : Addr) (st tm : Int64) (h0 : Heap) (n0 : Nat) (v : Option Value) (h : Heap) (L : List Loc) : Prop := v = some (.ref b) ∧ Fr n0 L ∧ Keep h0 h [] ∧ own_DL Z h b st tm 0
theorem own_law (a b : Int64) (k : Int32) : f0_0 a b k = 1 := by
  have h : ∀ t, f0_12 b k t = 1 := by
    intro t
    by_cases q : lcmpW (f1_0 b k) (9223372036854775807 : Int64) = 0
    · have e : own_never (f1_0 b k) = 1 := if_pos q
      have r : f0_12 b k t = f0_45 (f1_0 b k) := if_pos q
      rw [r, f0_45, f0_50, e]; decide
    · have e : own_never (f1_0 b k) = 0 := if_neg q
      have r : f0_12 b k t = f0_49 (f1_0 b k) := if_neg q
      rw [r, f0_49, f0_50, e]; decide
  simp only [f0_0, f0_7, f0_11, h, ite_self]
set_option maxRecDepth 65536 in
set_option maxHeartbeats 40000000 in
theorem rm3 (l : Launch) (Z : State) (a0 : Array Value) (hw : ∀ d ∈ tables_1, d.before a0 Z = true) (ws : List Jvm.Cond) (x0 : Addr) (h0 : Heap) (n0 : Nat) (Z0 : n0 ≤ h0.size) :
    MetFree l (⟨"java/lang/Record", "<init>", "()V"⟩ : MethodName) (head1 (Jvm.Cond.code (⟨"java/lang/Record", "<init>", "()V"⟩ : MethodName) jdk_30_method_1_code 1 none :: ws) ({ frames := 1, cells := 0, slots := 0, locals := 12 } : Room)) (fun a U => a = #[(.ref x0)] ∧ Z.Warmed39 U.vm ∧ U.heap = h0) (fun _ _ _ _ _ => True) (fun _ U o U' => ∃ v L, o = .returned v ∧ own_Void h0 n0 v U'.heap L ∧ FrameEnd U o U' L ({ frames := 1, cells := 0, slots := 0, locals := 12 } : Room).cells ({ frames := 1, cells := 0, slots := 0, locals := 12 } : Room).slots) := by
  refine MetFree.of_bodySF (plainFor_of_name pn_3) hisR ?_
  intro p e s m args below meth c s₁ Bd hml0 hP hK
  obtain ⟨rfl, hZ, hh0⟩ := hP
  have hx := Bd.exec
  have hby := Bd.bytes
  have hml : c.maxLocals = 1 := hml0
  have hown : s.vm.findClass "java/lang/Record" = some m.cls := findClass_of_methodNamed Bd.named
  have hnm := (name_of_methodNamed Bd.named Bd.method).1
  have X00 : Stand p l e ({ frames := 1, cells := 0, slots := 0, locals := 12 } : Room) s m #[(.ref x0)] below meth c s₁ [] 0 0 := Stand.of_body Bd
  have e00 : s₁.heap = h0 := by rw [← hh0, Bd.state]; rfl
  have N00 := Fr.nil n0
  have hB : own_Goes p e below s (own_Void h0 n0) ({ frames := 1, cells := 0, slots := 0, locals := 12 } : Room).cells ({ frames := 1, cells := 0, slots := 0, locals := 12 } : Room).slots s₁ (mkF m 0 #[.val (.ref x0)] []) := by
    refine own_step (T' := s₁) (g' := (mkF m 1 #[.val (.ref x0)] [(.ref x0)])) (fun _ k => XS.aloadN X00.here hx rfl (hb hby d3_0) rfl rfl k) ?_
    obtain ⟨T1, X1, e1, st1⟩ := initO X00 hx hZ hown (hw _ (List.mem_of_getElem? (i := 15) rfl)) (hw _ (List.mem_of_getElem? (i := 16) rfl)) (hw _ (List.mem_of_getElem? (i := 17) rfl)) e00 (g := (mkF m 1 #[.val (.ref x0)] [(.ref x0)])) rfl (by rw [hml]; rfl) rfl (hb hby d3_1) (by decide) (W := 0) (by show 2 * 0 + _ ≤ _; exact Nat.le_of_eq rfl) (by decide)
    refine own_step (T' := T1) (g' := (mkF m 4 #[.val (.ref x0)] [])) (fun _ k => st1 _ k) ?_
    exact own_ret X1 Bd (v := none) (fun _ => rfl) (fun fs q => X1.returnOut hx Bd.returns (hb hby d3_4) q) (show own_Void h0 n0 _ _ _ from ⟨rfl, N00, e1⟩) (by decide) (by decide)
  obtain ⟨s₂, o, q1, q2, q3, v, L, q4, q5, q6⟩ := hB
  exact ⟨s₂, o, castTop (ef_3 m x0) q1, q2, q3, v, L, q4, q5, q6⟩
set_option maxRecDepth 65536 in
set_option maxHeartbeats 40000000 in
theorem rm2 (l : Launch) (Z : State) (a0 : Array Value) (hw : ∀ d ∈ tables_1, d.before a0 Z = true) (ws : List Jvm.Cond) (x0 : Addr) (x1 : Int64) (x3 : Int64) (x5 : Int32) (u_st u_tm u_it : Value) (h0 : Heap) (n0 : Nat) (Z0 : n0 ≤ h0.size) (E0 : Exa Z h0 x0 "com/example/careful_lock/carefullock/Deadline") (g0 : n0 ≤ x0) (F_st : Fld Z h0 x0 "com/example/careful_lock/carefullock/Deadline" "startNanos" "J" u_st) (F_tm : Fld Z h0 x0 "com/example/careful_lock/carefullock/Deadline" "timeoutNanos" "J" u_tm) (F_it : Fld Z h0 x0 "com/example/careful_lock/carefullock/Deadline" "interruptible" "Z" u_it) :
    MetFree l (⟨"com/example/careful_lock/carefullock/Deadline", "<init>", "(JJZ)V"⟩ : MethodName) (head1 (Jvm.Cond.code (⟨"com/example/careful_lock/carefullock/Deadline", "<init>", "(JJZ)V"⟩ : MethodName) prog_3_method_1_code 6 none :: ws) ({ frames := 2, cells := 0, slots := 0, locals := 24 } : Room)) (fun a U => a = #[(.ref x0), (.long x1), (.long x3), (.int x5)] ∧ Z.Warmed39 U.vm ∧ U.heap = h0) (fun _ _ _ _ _ => True) (fun _ U o U' => ∃ v L, o = .returned v ∧ own_Made Z x0 x1 x3 x5 h0 n0 v U'.heap L ∧ FrameEnd U o U' L ({ frames := 2, cells := 0, slots := 0, locals := 24 } : Room).cells ({ frames := 2, cells := 0, slots := 0, locals := 24 } : Room).slots) := by
  refine MetFree.of_bodySF (plainFor_of_name pn_2) hisR ?_
  intro p e s m args below meth c s₁ Bd hml0 hP hK
  obtain ⟨rfl, hZ, hh0⟩ := hP
  have hx := Bd.exec
  have hby := Bd.bytes
  have hml : c.maxLocals = 6 := hml0
  have hown : s.vm.findClass "com/example/careful_lock/carefullock/Deadline" = some m.cls := findClass_of_methodNamed Bd.named
  have hnm := (name_of_methodNamed Bd.named Bd.method).1
  have X00 : Stand p l e ({ frames := 2, cells := 0, slots := 0, locals := 24 } : Room) s m #[(.ref x0), (.long x1), (.long x3), (.int x5)] below meth c s₁ [] 0 0 := Stand.of_body Bd
  have e00 : s₁.heap = h0 := by rw [← hh0, Bd.state]; rfl
  have N00 := Fr.nil n0
  have hB : own_Goes p e below s (own_Made Z x0 x1 x3 x5 h0 n0) ({ frames := 2, cells := 0, slots := 0, locals := 24 } : Room).cells ({ frames := 2, cells := 0, slots := 0, locals := 24 } : Room).slots s₁ (mkF m 0 #[.val (.ref x0), .val (.long x1), .second, .val (.long x3), .second, .val (.int x5)] []) := by
    refine own_step (T' := s₁) (g' := (mkF m 1 #[.val (.ref x0), .val (.long x1), .second, .val (.long x3), .second, .val (.int x5)] [(.ref x0)])) (fun _ k => XS.aloadN X00.here hx rfl (hb hby d2_0) rfl rfl k) ?_
    obtain ⟨_, _, ⟨T1, L1, k1, n1⟩, -, X1, ⟨Lc1, hQ1, l1, y1, z1⟩, st1⟩ := X00.specialBack hx (y := (⟨"java/lang/Record", "<init>", "()V"⟩ : MethodName)) rfl hown (mvT hZ (hw _ (List.mem_of_getElem? (i := 10) rfl))) (mvT hZ (hw _ (List.mem_of_getElem? (i := 11) rfl))) (mvT hZ (hw _ (List.mem_of_getElem? (i := 14) rfl))) (by decide) (backOf (W := 0) (rm3 l Z a0 hw [] x0 h0 n0 Z0) hZ (hw _ (List.mem_of_getElem? (i := 14) rfl)) (hw _ (List.mem_of_getElem? (i := 13) rfl)) (by decide) (by decide)) (g := (mkF m 1 #[.val (.ref x0), .val (.long x1), .second, .val (.long x3), .second, .val (.int x5)] [(.ref x0)])) rfl (by rw [hml]; rfl) (Steps.refl _) (a := x0) (argsL := []) (rest := []) (lenOf pd_0 rfl) rfl (by show 2 * 0 + _ ≤ _; exact Nat.le_of_eq rfl) (hb hby d2_1) (fun _ _ => ⟨rfl, e00, (by decide : 0 + 0 ≤ _), (by decide : 0 + 0 ≤ _)⟩)
    dsimp only [Pt.U, Pt.locs, Pt.cells, Pt.slots] at X1 l1 y1 z1 st1 hQ1
    subst l1 y1 z1
    obtain ⟨rfl, N1q, e1⟩ := hQ1
    have N1 := Fr.app N00 N1q
    refine own_step (T' := T1) (g' := (mkF m 4 #[.val (.ref x0), .val (.long x1), .second, .val (.long x3), .second, .val (.int x5)] [])) (fun _ k => st1.trans k) ?_
    refine own_step (T' := T1) (g' := (mkF m 5 #[.val (.ref x0), .val (.long x1), .second, .val (.long x3), .second, .val (.int x5)] [(.ref x0)])) (fun _ k => XS.aloadN X1.here hx rfl (hb hby d2_4) rfl rfl k) ?_
    refine own_step (T' := T1) (g' := (mkF m 6 #[.val (.ref x0), .val (.long x1), .second, .val (.long x3), .second, .val (.int x5)] [(.long x1), (.ref x0)])) (fun _ k => XS.lloadN X1.here hx rfl (hb hby d2_5) rfl k) ?_
    obtain ⟨T2, h2, X2, e2, W2, st2⟩ := putF X1 hx hZ hown (host := "") (Or.inl (hw _ (List.mem_of_getElem? (i := 18) rfl))) Via.refl e1 F_st E0 (Or.inr ⟨(hw _ (List.mem_of_getElem? (i := 19) rfl)), rfl, hnm⟩) (hw _ (List.mem_of_getElem? (i := 5) rfl)) (ty := .long) (by decide) rfl rfl (g := (mkF m 6 #[.val (.ref x0), .val (.long x1), .second, .val (.long x3), .second, .val (.int x5)] [(.long x1), (.ref x0)])) rfl rfl (hb hby d2_6)
    have q3 : Fld Z h2 x0 "com/example/careful_lock/carefullock/Deadline" "startNanos" "J" (.long x1) := F_st.same W2
    have q4 : Fld Z h2 x0 "com/example/careful_lock/carefullock/Deadline" "timeoutNanos" "J" u_tm := F_tm.other W2 (Or.inr (slot_ne (Or.inr (hw _ (List.mem_of_getElem? (i := 21) rfl))) (Or.inr (hw _ (List.mem_of_getElem? (i := 19) rfl))) (by decide) (t := .long) (t' := .long) (by decide) (by decide)))
    have q5 : Fld Z h2 x0 "com/example/careful_lock/carefullock/Deadline" "interruptible" "Z" u_it := F_it.other W2 (Or.inr (slot_ne (Or.inr (hw _ (List.mem_of_getElem? (i := 23) rfl))) (Or.inr (hw _ (List.mem_of_getElem? (i := 19) rfl))) (by decide) (t := .boolean) (t' := .long) (by decide) (by decide)))
    have q6 : Exa Z h2 x0 "com/example/careful_lock/carefullock/Deadline" := E0.wr W2
    have Z2 : n0 ≤ h2.size := Nat.le_trans Z0 (Keep.of_wr W2).1
    have N2 := Fr.snoc X2 N1 g0
    have Kp2 : Keep h0 h2 [x0] := (Keep.refl h0 [x0]).wr W2 (Or.inl (List.mem_of_getElem? (i := 0) rfl))
    refine own_step (T' := T2) (g' := (mkF m 9 #[.val (.ref x0), .val (.long x1), .second, .val (.long x3), .second, .val (.int x5)] [])) (fun _ k => st2 _ k) ?_
    refine own_step (T' := T2) (g' := (mkF m 10 #[.val (.ref x0), .val (.long x1), .second, .val (.long x3), .second, .val (.int x5)] [(.ref x0)])) (fun _ k => XS.aloadN X2.here hx rfl (hb hby d2_9) rfl rfl k) ?_
    refine own_step (T' := T2) (g' := (mkF m 11 #[.val (.ref x0), .val (.long x1), .second, .val (.long x3), .second, .val (.int x5)] [(.long x3), (.ref x0)])) (fun _ k => XS.lloadN X2.here hx rfl (hb hby d2_10) rfl k) ?_
    obtain ⟨T7, h7, X7, e7, W7, st7⟩ := putF X2 hx hZ hown (host := "") (Or.inl (hw _ (List.mem_of_getElem? (i := 20) rfl))) Via.refl e2 q4 q6 (Or.inr ⟨(hw _ (List.mem_of_getElem? (i := 21) rfl)), rfl, hnm⟩) (hw _ (List.mem_of_getElem? (i := 5) rfl)) (ty := .long) (by decide) rfl rfl (g := (mkF m 11 #[.val (.ref x0), .val (.long x1), .second, .val (.long x3), .second, .val (.int x5)] [(.long x3), (.ref x0)])) rfl rfl (hb hby d2_11)
    have q8 : Fld Z h7 x0 "com/example/careful_lock/carefullock/Deadline" "startNanos" "J" (.long x1) := q3.other W7 (Or.inr (slot_ne (Or.inr (hw _ (List.mem_of_getElem? (i := 19) rfl))) (Or.inr (hw _ (List.mem_of_getElem? (i := 21) rfl))) (by decide) (t := .long) (t' := .long) (by decide) (by decide)))
    have q9 : Fld Z h7 x0 "com/example/careful_lock/carefullock/Deadline" "timeoutNanos" "J" (.long x3) := q4.same W7
    have q10 : Fld Z h7 x0 "com/example/careful_lock/carefullock/Deadline" "interruptible" "Z" u_it := q5.other W7 (Or.inr (slot_ne (Or.inr (hw _ (List.mem_of_getElem? (i := 23) rfl))) (Or.inr (hw _ (List.mem_of_getElem? (i := 21) rfl))) (by decide) (t := .boolean) (t' := .long) (by decide) (by decide)))
    have q11 : Exa Z h7 x0 "com/example/careful_lock/carefullock/Deadline" := q6.wr W7
    have Z7 : n0 ≤ h7.size := Nat.le_trans Z2 (Keep.of_wr W7).1
    have N7 := Fr.snoc X7 N2 g0
    have Kp7 : Keep h0 h7 [x0] := Kp2.wr W7 (Or.inl (List.mem_of_getElem? (i := 0) rfl))
    refine own_step (T' := T7) (g' := (mkF m 14 #[.val (.ref x0), .val (.long x1), .second, .val (.long x3), .second, .val (.int x5)] [])) (fun _ k => st7 _ k) ?_
    refine own_step (T' := T7) (g' := (mkF m 15 #[.val (.ref x0), .val (.long x1), .second, .val (.long x3), .second, .val (.int x5)] [(.ref x0)])) (fun _ k => XS.aloadN X7.here hx rfl (hb hby d2_14) rfl rfl k) ?_
    refine own_step (T' := T7) (g' := (mkF m 17 #[.val (.ref x0), .val (.long x1), .second, .val (.long x3), .second, .val (.int x5)] [(.int x5), (.ref x0)])) (fun _ k => XS.iload X7.here hx rfl (hb hby d2_15) rfl k) ?_
    obtain ⟨T12, h12, X12, e12, W12, st12⟩ := putFN X7 hx hZ hown (hw _ (List.mem_of_getElem? (i := 22) rfl)) Via.refl e7 q10 q11 (Or.inr ⟨(hw _ (List.mem_of_getElem? (i := 23) rfl)), rfl, hnm⟩) (hw _ (List.mem_of_getElem? (i := 5) rfl)) (ty := .boolean) (v' := (.int (x5 &&& 1))) (by decide) rfl (fits_nar_bool _) (g := (mkF m 17 #[.val (.ref x0), .val (.long x1), .second, .val (.long x3), .second, .val (.int x5)] [(.int x5), (.ref x0)])) rfl rfl (hb hby d2_17)
    have q13 : Fld Z h12 x0 "com/example/careful_lock/carefullock/Deadline" "startNanos" "J" (.long x1) := q8.other W12 (Or.inr (slot_ne (Or.inr (hw _ (List.mem_of_getElem? (i := 19) rfl))) (Or.inr (hw _ (List.mem_of_getElem? (i := 23) rfl))) (by decide) (t := .long) (t' := .boolean) (by decide) (by decide)))
    have q14 : Fld Z h12 x0 "com/example/careful_lock/carefullock/Deadline" "timeoutNanos" "J" (.long x3) := q9.other W12 (Or.inr (slot_ne (Or.inr (hw _ (List.mem_of_getElem? (i := 21) rfl))) (Or.inr (hw _ (List.mem_of_getElem? (i := 23) rfl))) (by decide) (t := .long) (t' := .boolean) (by decide) (by decide)))
    have q15 : Fld Z h12 x0 "com/example/careful_lock/carefullock/Deadline" "interruptible" "Z" (.int (x5 &&& 1)) := q10.same W12
    have q16 : Exa Z h12 x0 "com/example/careful_lock/carefullock/Deadline" := q11.wr W12
    have Z12 : n0 ≤ h12.size := Nat.le_trans Z7 (Keep.of_wr W12).1
    have N12 := Fr.snoc X12 N7 g0
    have Kp12 : Keep h0 h12 [x0] := Kp7.wr W12 (Or.inl (List.mem_of_getElem? (i := 0) rfl))
    refine own_step (T' := T12) (g' := (mkF m 20 #[.val (.ref x0), .val (.long x1), .second, .val (.long x3), .second, .val (.int x5)] [])) (fun _ k => st12 _ k) ?_
    exact own_ret X12 Bd (v := none) (fun _ => rfl) (fun fs q => X12.returnOut hx Bd.returns (hb hby d2_20) q) (show own_Made Z x0 x1 x3 x5 h0 n0 _ _ _ from by rw [e12]; exact ⟨rfl, N12, Kp12, q16, q13, q14, q15⟩) (by decide) (by decide)
  obtain ⟨s₂, o, q1, q2, q3, v, L, q4, q5, q6⟩ := hB
  exact ⟨s₂, o, castTop (ef_2 m x0 x1 x3 x5) q1, q2, q3, v, L, q4, q5, q6⟩
set_option maxRecDepth 65536 in
set_option maxHeartbeats 40000000 in
theorem rm5 (l : Launch) (Z : State) (a0 : Array Value) (hw : ∀ d ∈ tables_1, d.before a0 Z = true) (ws : List Jvm.Cond) (x0 : Addr) (st tm : Int64) (it : Int32) (h0 : Heap) (n0 : Nat) (Z0 : n0 ≤ h0.size) (dl : own_DL Z h0 x0 st tm it) :
    MetFree l (⟨"com/example/careful_lock/carefullock/Deadline", "isNever", "()Z"⟩ : MethodName) (head1 (Jvm.Cond.code (⟨"com/example/careful_lock/carefullock/Deadline", "isNever", "()Z"⟩ : MethodName) prog_3_method_5_code 1 (some .boolean) :: ws) ({ frames := 0, cells := 0, slots := 0, locals := 0 } : Room)) (fun a U => a = #[(.ref x0)] ∧ Z.Warmed39 U.vm ∧ U.heap = h0) (fun _ _ _ _ _ => True) (fun _ U o U' => ∃ v L, o = .returned v ∧ own_Pure (.int (own_never tm)) h0 n0 v U'.heap L ∧ FrameEnd U o U' L ({ frames := 0, cells := 0, slots := 0, locals := 0 } : Room).cells ({ frames := 0, cells := 0, slots := 0, locals := 0 } : Room).slots) := by
  refine MetFree.of_bodySF (plainFor_of_name pn_5) hisR ?_
  intro p e s m args below meth c s₁ Bd hml0 hP hK
  obtain ⟨rfl, hZ, hh0⟩ := hP
  have hx := Bd.exec
  have hby := Bd.bytes
  have hml : c.maxLocals = 1 := hml0
  have hown : s.vm.findClass "com/example/careful_lock/carefullock/Deadline" = some m.cls := findClass_of_methodNamed Bd.named
  have hnm := (name_of_methodNamed Bd.named Bd.method).1
  have X00 : Stand p l e ({ frames := 0, cells := 0, slots := 0, locals := 0 } : Room) s m #[(.ref x0)] below meth c s₁ [] 0 0 := Stand.of_body Bd
  have e00 : s₁.heap = h0 := by rw [← hh0, Bd.state]; rfl
  have N00 := Fr.nil n0
  have hB : own_Goes p e below s (own_Pure (.int (own_never tm)) h0 n0) ({ frames := 0, cells := 0, slots := 0, locals := 0 } : Room).cells ({ frames := 0, cells := 0, slots := 0, locals := 0 } : Room).slots s₁ (mkF m 0 #[.val (.ref x0)] []) := by
    refine own_step (T' := s₁) (g' := (mkF m 1 #[.val (.ref x0)] [(.ref x0)])) (fun _ k => XS.aloadN X00.here hx rfl (hb hby d5_0) rfl rfl k) ?_
    obtain ⟨T1, X1, e1, st1⟩ := getF X00 hx hZ hown (host := "") (Or.inl (hw _ (List.mem_of_getElem? (i := 20) rfl))) Via.refl e00 dl.2.2.1 (g := (mkF m 1 #[.val (.ref x0)] [(.ref x0)])) rfl rfl (hb hby d5_1)
    refine own_step (T' := T1) (g' := (mkF m 4 #[.val (.ref x0)] [(.long tm)])) (fun _ k => st1 _ k) ?_
    refine own_step (T' := T1) (g' := (mkF m 7 #[.val (.ref x0)] [(.long (9223372036854775807 : Int64)), (.long tm)])) (fun _ k => X1.ldc2Long hx hown (mvT hZ (hw _ (List.mem_of_getElem? (i := 30) rfl))) (g := (mkF m 4 #[.val (.ref x0)] [(.long tm)])) rfl (hb hby d5_4) _ k) ?_
    refine own_step (T' := T1) (g' := (mkF m 8 #[.val (.ref x0)] [(.int (lcmpW tm (9223372036854775807 : Int64)))])) (fun _ k => XS.lcmp X1.here hx rfl (hb hby d5_7) rfl k) ?_
    by_cases hc : (lcmpW tm (9223372036854775807 : Int64)) = (0 : Int32)
    · refine own_step (T' := T1) (g' := (mkF m 11 #[.val (.ref x0)] [])) (fun _ k => XS.ifNo X1.here hx rfl (hb hby d5_8) rfl ((if0 _ _).trans (teq hc).2) k) ?_
      refine own_step (T' := T1) (g' := (mkF m 12 #[.val (.ref x0)] [(.int (1 : Int32))])) (fun _ k => XS.iconst X1.here hx rfl (hb hby d5_11) k) ?_
      refine own_step (T' := T1) (g' := (mkF m 16 #[.val (.ref x0)] [(.int (1 : Int32))])) (fun _ k => XS.goto X1.here hx rfl (pc0 := 12) (pc' := 16) rfl (hb hby d5_12) (by decide) (by decide) k) ?_
      have hv : own_never tm = 1 := if_pos hc
      exact own_ret X1 Bd (v := some (.int ((1 : Int32) &&& 1))) (fun q => by rw [Bd.returns] at q; cases q) (fun fs q => retN X1 hx (t := .boolean) Bd.returns (by simp) (hb hby d5_16) q) (show own_Pure (.int (own_never tm)) h0 n0 _ _ _ from ⟨by rw [hv]; rfl, N00, e1⟩) (by decide) (by decide)
    · refine own_step (T' := T1) (g' := (mkF m 15 #[.val (.ref x0)] [])) (fun _ k => XS.ifYes X1.here hx rfl (pc0 := 8) (pc' := 15) rfl (hb hby d5_8) rfl ((if0 _ _).trans (feq hc).2) (by decide) (by decide) k) ?_
      refine own_step (T' := T1) (g' := (mkF m 16 #[.val (.ref x0)] [(.int (0 : Int32))])) (fun _ k => XS.iconst X1.here hx rfl (hb hby d5_15) k) ?_
      have hv : own_never tm = 0 := if_neg hc
      exact own_ret X1 Bd (v := some (.int ((0 : Int32) &&& 1))) (fun q => by rw [Bd.returns] at q; cases q) (fun fs q => retN X1 hx (t := .boolean) Bd.returns (by simp) (hb hby d5_16) q) (show own_Pure (.int (own_never tm)) h0 n0 _ _ _ from ⟨by rw [hv]; rfl, N00, e1⟩) (by decide) (by decide)
  obtain ⟨s₂, o, q1, q2, q3, v, L, q4, q5, q6⟩ := hB
  exact ⟨s₂, o, castTop (ef_5 m x0) q1, q2, q3, v, L, q4, q5, q6⟩
set_option maxRecDepth 65536 in
set_option maxHeartbeats 40000000 in
theorem rm1 (l : Launch) (Z : State) (a0 : Array Value) (hw : ∀ d ∈ tables_1, d.before a0 Z = true) (ws : List Jvm.Cond) (p0 : Int64) (p2 : Int32) (h0 : Heap) (n0 : Nat) (Z0 : n0 ≤ h0.size) :
    MetFree l (⟨"com/example/careful_lock/carefullock/DeadlineIsNeverPinLaw", "pickTimeout", "(JI)J"⟩ : MethodName) (head1 (Jvm.Cond.code (⟨"com/example/careful_lock/carefullock/DeadlineIsNeverPinLaw", "pickTimeout", "(JI)J"⟩ : MethodName) method_2_code 4 (some .long) :: ws) ({ frames := 0, cells := 0, slots := 0, locals := 0 } : Room)) (fun a U => a = #[(.long p0), (.int p2)] ∧ Z.Warmed39 U.vm ∧ U.heap = h0) (fun _ _ _ _ _ => True) (fun _ U o U' => ∃ v L, o = .returned v ∧ own_Pure ((.long (f1_0 p0 p2))) h0 n0 v U'.heap L ∧ FrameEnd U o U' L ({ frames := 0, cells := 0, slots := 0, locals := 0 } : Room).cells ({ frames := 0, cells := 0, slots := 0, locals := 0 } : Room).slots) := by
  refine MetFree.of_bodySF (plainFor_of_name pn_1) hisR ?_
  intro p e s m args below meth c s₁ Bd hml0 hP hK
  obtain ⟨rfl, hZ, hh0⟩ := hP
  have hx := Bd.exec
  have hby := Bd.bytes
  have hml : c.maxLocals = 4 := hml0
  have hown : s.vm.findClass "com/example/careful_lock/carefullock/DeadlineIsNeverPinLaw" = some m.cls := findClass_of_methodNamed Bd.named
  have X00 : Stand p l e ({ frames := 0, cells := 0, slots := 0, locals := 0 } : Room) s m #[(.long p0), (.int p2)] below meth c s₁ [] 0 0 := Stand.of_body Bd
  have e00 : s₁.heap = h0 := by rw [← hh0, Bd.state]; rfl
  have B33 : ∀ (T0 : State) (locs : List Loc) (x0 : Int64) (x2 : Int32) (x3 : Int32), Stand p l e ({ frames := 0, cells := 0, slots := 0, locals := 0 } : Room) s m #[(.long p0), (.int p2)] below meth c T0 locs 0 0 → T0.heap = h0 → Fr n0 locs → f1_33 x0 = f1_0 p0 p2 → own_Goes p e below s (own_Pure ((.long (f1_0 p0 p2))) h0 n0) ({ frames := 0, cells := 0, slots := 0, locals := 0 } : Room).cells ({ frames := 0, cells := 0, slots := 0, locals := 0 } : Room).slots T0 (mkF m 33 #[.val (.long x0), .second, .val (.int x2), .val (.int x3)] []) := by
    intro T0 locs x0 x2 x3   X0 e0 N0 hf
    refine own_step (T' := T0) (g' := (mkF m 34 #[.val (.long x0), .second, .val (.int x2), .val (.int x3)] [(.long x0)])) (fun _ k => XS.lloadN X0.here hx rfl (hb hby d1_33) rfl k) ?_
    exact own_ret X0 Bd (v := some (.long x0)) (fun q => by rw [Bd.returns] at q; cases q) (fun fs q => own_retL X0 hx Bd.returns (hb hby d1_34) q) (show own_Pure ((.long (f1_0 p0 p2))) h0 n0 _ _ _ from ⟨congrArg (fun z => some (Value.long z)) hf, N0, e0⟩) (by decide) (by decide)
  have B29 : ∀ (T0 : State) (locs : List Loc) (x0 : Int64) (x2 : Int32) (x3 : Int32), Stand p l e ({ frames := 0, cells := 0, slots := 0, locals := 0 } : Room) s m #[(.long p0), (.int p2)] below meth c T0 locs 0 0 → T0.heap = h0 → Fr n0 locs → f1_29 = f1_0 p0 p2 → own_Goes p e below s (own_Pure ((.long (f1_0 p0 p2))) h0 n0) ({ frames := 0, cells := 0, slots := 0, locals := 0 } : Room).cells ({ frames := 0, cells := 0, slots := 0, locals := 0 } : Room).slots T0 (mkF m 29 #[.val (.long x0), .second, .val (.int x2), .val (.int x3)] []) := by
    intro T0 locs x0 x2 x3   X0 e0 N0 hf
    refine own_step (T' := T0) (g' := (mkF m 32 #[.val (.long x0), .second, .val (.int x2), .val (.int x3)] [(.long (-9223372036854775808 : Int64))])) (fun _ k => X0.ldc2Long hx hown (mvT hZ (hw _ (List.mem_of_getElem? (i := 31) rfl))) (g := (mkF m 29 #[.val (.long x0), .second, .val (.int x2), .val (.int x3)] [])) rfl (hb hby d1_29) _ k) ?_
    exact own_ret X0 Bd (v := some (.long (-9223372036854775808 : Int64))) (fun q => by rw [Bd.returns] at q; cases q) (fun fs q => own_retL X0 hx Bd.returns (hb hby d1_32) q) (show own_Pure ((.long (f1_0 p0 p2))) h0 n0 _ _ _ from ⟨congrArg (fun z => some (Value.long z)) hf, N0, e0⟩) (by decide) (by decide)
  have B24 : ∀ (T0 : State) (locs : List Loc) (x0 : Int64) (x2 : Int32) (x3 : Int32), Stand p l e ({ frames := 0, cells := 0, slots := 0, locals := 0 } : Room) s m #[(.long p0), (.int p2)] below meth c T0 locs 0 0 → T0.heap = h0 → Fr n0 locs → f1_24 x0 x3 = f1_0 p0 p2 → own_Goes p e below s (own_Pure ((.long (f1_0 p0 p2))) h0 n0) ({ frames := 0, cells := 0, slots := 0, locals := 0 } : Room).cells ({ frames := 0, cells := 0, slots := 0, locals := 0 } : Room).slots T0 (mkF m 24 #[.val (.long x0), .second, .val (.int x2), .val (.int x3)] []) := by
    intro T0 locs x0 x2 x3   X0 e0 N0 hf
    refine own_step (T' := T0) (g' := (mkF m 25 #[.val (.long x0), .second, .val (.int x2), .val (.int x3)] [(.int x3)])) (fun _ k => XS.iloadN X0.here hx rfl (hb hby d1_24) rfl k) ?_
    refine own_step (T' := T0) (g' := (mkF m 26 #[.val (.long x0), .second, .val (.int x2), .val (.int x3)] [(.int (3 : Int32)), (.int x3)])) (fun _ k => XS.iconst X0.here hx rfl (hb hby d1_25) k) ?_
    by_cases hc : x3 = (3 : Int32)
    · refine own_step (T' := T0) (g' := (mkF m 29 #[.val (.long x0), .second, .val (.int x2), .val (.int x3)] [])) (fun _ k => XS.icmpNo X0.here hx rfl (hb hby d1_26) rfl (teq hc).2 k) ?_
      exact B29 T0 _ x0 x2 x3   X0 e0 N0 ((if_pos hc).symm.trans hf)
    · refine own_step (T' := T0) (g' := (mkF m 33 #[.val (.long x0), .second, .val (.int x2), .val (.int x3)] [])) (fun _ k => XS.icmpYes X0.here hx rfl (pc0 := 26) (pc' := 33) rfl (hb hby d1_26) rfl (feq hc).2 (by decide) (by decide) k) ?_
      exact B33 T0 _ x0 x2 x3   X0 e0 N0 ((if_neg hc).symm.trans hf)
  have B20 : ∀ (T0 : State) (locs : List Loc) (x0 : Int64) (x2 : Int32) (x3 : Int32), Stand p l e ({ frames := 0, cells := 0, slots := 0, locals := 0 } : Room) s m #[(.long p0), (.int p2)] below meth c T0 locs 0 0 → T0.heap = h0 → Fr n0 locs → f1_20 = f1_0 p0 p2 → own_Goes p e below s (own_Pure ((.long (f1_0 p0 p2))) h0 n0) ({ frames := 0, cells := 0, slots := 0, locals := 0 } : Room).cells ({ frames := 0, cells := 0, slots := 0, locals := 0 } : Room).slots T0 (mkF m 20 #[.val (.long x0), .second, .val (.int x2), .val (.int x3)] []) := by
    intro T0 locs x0 x2 x3   X0 e0 N0 hf
    refine own_step (T' := T0) (g' := (mkF m 23 #[.val (.long x0), .second, .val (.int x2), .val (.int x3)] [(.long (9223372036854775806 : Int64))])) (fun _ k => X0.ldc2Long hx hown (mvT hZ (hw _ (List.mem_of_getElem? (i := 32) rfl))) (g := (mkF m 20 #[.val (.long x0), .second, .val (.int x2), .val (.int x3)] [])) rfl (hb hby d1_20) _ k) ?_
    exact own_ret X0 Bd (v := some (.long (9223372036854775806 : Int64))) (fun q => by rw [Bd.returns] at q; cases q) (fun fs q => own_retL X0 hx Bd.returns (hb hby d1_23) q) (show own_Pure ((.long (f1_0 p0 p2))) h0 n0 _ _ _ from ⟨congrArg (fun z => some (Value.long z)) hf, N0, e0⟩) (by decide) (by decide)
  have B15 : ∀ (T0 : State) (locs : List Loc) (x0 : Int64) (x2 : Int32) (x3 : Int32), Stand p l e ({ frames := 0, cells := 0, slots := 0, locals := 0 } : Room) s m #[(.long p0), (.int p2)] below meth c T0 locs 0 0 → T0.heap = h0 → Fr n0 locs → f1_15 x0 x3 = f1_0 p0 p2 → own_Goes p e below s (own_Pure ((.long (f1_0 p0 p2))) h0 n0) ({ frames := 0, cells := 0, slots := 0, locals := 0 } : Room).cells ({ frames := 0, cells := 0, slots := 0, locals := 0 } : Room).slots T0 (mkF m 15 #[.val (.long x0), .second, .val (.int x2), .val (.int x3)] []) := by
    intro T0 locs x0 x2 x3   X0 e0 N0 hf
    refine own_step (T' := T0) (g' := (mkF m 16 #[.val (.long x0), .second, .val (.int x2), .val (.int x3)] [(.int x3)])) (fun _ k => XS.iloadN X0.here hx rfl (hb hby d1_15) rfl k) ?_
    refine own_step (T' := T0) (g' := (mkF m 17 #[.val (.long x0), .second, .val (.int x2), .val (.int x3)] [(.int (2 : Int32)), (.int x3)])) (fun _ k => XS.iconst X0.here hx rfl (hb hby d1_16) k) ?_
    by_cases hc : x3 = (2 : Int32)
    · refine own_step (T' := T0) (g' := (mkF m 20 #[.val (.long x0), .second, .val (.int x2), .val (.int x3)] [])) (fun _ k => XS.icmpNo X0.here hx rfl (hb hby d1_17) rfl (teq hc).2 k) ?_
      exact B20 T0 _ x0 x2 x3   X0 e0 N0 ((if_pos hc).symm.trans hf)
    · refine own_step (T' := T0) (g' := (mkF m 24 #[.val (.long x0), .second, .val (.int x2), .val (.int x3)] [])) (fun _ k => XS.icmpYes X0.here hx rfl (pc0 := 17) (pc' := 24) rfl (hb hby d1_17) rfl (feq hc).2 (by decide) (by decide) k) ?_
      exact B24 T0 _ x0 x2 x3   X0 e0 N0 ((if_neg hc).symm.trans hf)
  have B11 : ∀ (T0 : State) (locs : List Loc) (x0 : Int64) (x2 : Int32) (x3 : Int32), Stand p l e ({ frames := 0, cells := 0, slots := 0, locals := 0 } : Room) s m #[(.long p0), (.int p2)] below meth c T0 locs 0 0 → T0.heap = h0 → Fr n0 locs → f1_11 = f1_0 p0 p2 → own_Goes p e below s (own_Pure ((.long (f1_0 p0 p2))) h0 n0) ({ frames := 0, cells := 0, slots := 0, locals := 0 } : Room).cells ({ frames := 0, cells := 0, slots := 0, locals := 0 } : Room).slots T0 (mkF m 11 #[.val (.long x0), .second, .val (.int x2), .val (.int x3)] []) := by
    intro T0 locs x0 x2 x3   X0 e0 N0 hf
    refine own_step (T' := T0) (g' := (mkF m 14 #[.val (.long x0), .second, .val (.int x2), .val (.int x3)] [(.long (9223372036854775807 : Int64))])) (fun _ k => X0.ldc2Long hx hown (mvT hZ (hw _ (List.mem_of_getElem? (i := 24) rfl))) (g := (mkF m 11 #[.val (.long x0), .second, .val (.int x2), .val (.int x3)] [])) rfl (hb hby d1_11) _ k) ?_
    exact own_ret X0 Bd (v := some (.long (9223372036854775807 : Int64))) (fun q => by rw [Bd.returns] at q; cases q) (fun fs q => own_retL X0 hx Bd.returns (hb hby d1_14) q) (show own_Pure ((.long (f1_0 p0 p2))) h0 n0 _ _ _ from ⟨congrArg (fun z => some (Value.long z)) hf, N0, e0⟩) (by decide) (by decide)
  have B0 : ∀ (T0 : State) (locs : List Loc) (x0 : Int64) (x2 : Int32), Stand p l e ({ frames := 0, cells := 0, slots := 0, locals := 0 } : Room) s m #[(.long p0), (.int p2)] below meth c T0 locs 0 0 → T0.heap = h0 → Fr n0 locs → f1_0 x0 x2 = f1_0 p0 p2 → own_Goes p e below s (own_Pure ((.long (f1_0 p0 p2))) h0 n0) ({ frames := 0, cells := 0, slots := 0, locals := 0 } : Room).cells ({ frames := 0, cells := 0, slots := 0, locals := 0 } : Room).slots T0 (mkF m 0 #[.val (.long x0), .second, .val (.int x2), .unset] []) := by
    intro T0 locs x0 x2   X0 e0 N0 hf
    refine own_step (T' := T0) (g' := (mkF m 1 #[.val (.long x0), .second, .val (.int x2), .unset] [(.int x2)])) (fun _ k => XS.iloadN X0.here hx rfl (hb hby d1_0) rfl k) ?_
    refine own_step (T' := T0) (g' := (mkF m 2 #[.val (.long x0), .second, .val (.int x2), .unset] [(.int (1 : Int32)), (.int x2)])) (fun _ k => XS.iconst X0.here hx rfl (hb hby d1_1) k) ?_
    refine own_step (T' := T0) (g' := (mkF m 3 #[.val (.long x0), .second, .val (.int x2), .unset] [(.int ((x2.toUInt32 >>> ((1 : Int32) &&& 31).toUInt32).toInt32))])) (fun _ k => XS.iushr X0.here hx rfl (hb hby d1_2) rfl k) ?_
    refine own_step (T' := T0) (g' := (mkF m 4 #[.val (.long x0), .second, .val (.int x2), .unset] [(.int (3 : Int32)), (.int ((x2.toUInt32 >>> ((1 : Int32) &&& 31).toUInt32).toInt32))])) (fun _ k => XS.iconst X0.here hx rfl (hb hby d1_3) k) ?_
    refine own_step (T' := T0) (g' := (mkF m 5 #[.val (.long x0), .second, .val (.int x2), .unset] [(.int (((x2.toUInt32 >>> ((1 : Int32) &&& 31).toUInt32).toInt32) &&& (3 : Int32)))])) (fun _ k => XS.iand X0.here hx rfl (hb hby d1_4) rfl k) ?_
    refine own_step (T' := T0) (g' := (mkF m 6 #[.val (.long x0), .second, .val (.int x2), .val (.int (((x2.toUInt32 >>> ((1 : Int32) &&& 31).toUInt32).toInt32) &&& (3 : Int32)))] [])) (fun _ k => XS.istoreN X0.here hx rfl (hb hby d1_5) rfl (l' := #[.val (.long x0), .second, .val (.int x2), .val (.int (((x2.toUInt32 >>> ((1 : Int32) &&& 31).toUInt32).toInt32) &&& (3 : Int32)))]) rfl k) ?_
    refine own_step (T' := T0) (g' := (mkF m 7 #[.val (.long x0), .second, .val (.int x2), .val (.int (((x2.toUInt32 >>> ((1 : Int32) &&& 31).toUInt32).toInt32) &&& (3 : Int32)))] [(.int (((x2.toUInt32 >>> ((1 : Int32) &&& 31).toUInt32).toInt32) &&& (3 : Int32)))])) (fun _ k => XS.iloadN X0.here hx rfl (hb hby d1_6) rfl k) ?_
    refine own_step (T' := T0) (g' := (mkF m 8 #[.val (.long x0), .second, .val (.int x2), .val (.int (((x2.toUInt32 >>> ((1 : Int32) &&& 31).toUInt32).toInt32) &&& (3 : Int32)))] [(.int (1 : Int32)), (.int (((x2.toUInt32 >>> ((1 : Int32) &&& 31).toUInt32).toInt32) &&& (3 : Int32)))])) (fun _ k => XS.iconst X0.here hx rfl (hb hby d1_7) k) ?_
    by_cases hc : (((x2.toUInt32 >>> ((1 : Int32) &&& 31).toUInt32).toInt32) &&& (3 : Int32)) = (1 : Int32)
    · refine own_step (T' := T0) (g' := (mkF m 11 #[.val (.long x0), .second, .val (.int x2), .val (.int (((x2.toUInt32 >>> ((1 : Int32) &&& 31).toUInt32).toInt32) &&& (3 : Int32)))] [])) (fun _ k => XS.icmpNo X0.here hx rfl (hb hby d1_8) rfl (teq hc).2 k) ?_
      exact B11 T0 _ x0 x2 (((x2.toUInt32 >>> ((1 : Int32) &&& 31).toUInt32).toInt32) &&& (3 : Int32))   X0 e0 N0 ((if_pos hc).symm.trans hf)
    · refine own_step (T' := T0) (g' := (mkF m 15 #[.val (.long x0), .second, .val (.int x2), .val (.int (((x2.toUInt32 >>> ((1 : Int32) &&& 31).toUInt32).toInt32) &&& (3 : Int32)))] [])) (fun _ k => XS.icmpYes X0.here hx rfl (pc0 := 8) (pc' := 15) rfl (hb hby d1_8) rfl (feq hc).2 (by decide) (by decide) k) ?_
      exact B15 T0 _ x0 x2 (((x2.toUInt32 >>> ((1 : Int32) &&& 31).toUInt32).toInt32) &&& (3 : Int32))   X0 e0 N0 ((if_neg hc).symm.trans hf)
  have hB := B0 s₁ [] p0 p2  X00 e00 (Fr.nil n0) rfl
  obtain ⟨s₂, o, q1, q2, q3, v, L, q4, q5, q6⟩ := hB
  exact ⟨s₂, o, castTop (ef_1 m p0 p2) q1, q2, q3, v, L, q4, q5, q6⟩
set_option maxRecDepth 65536 in
set_option maxHeartbeats 40000000 in
theorem rm0 (l : Launch) (Z : State) (a0 : Array Value) (hw : ∀ d ∈ tables_1, d.before a0 Z = true) (ws : List Jvm.Cond) (p0 : Int64) (p2 : Int64) (p4 : Int32) (h0 : Heap) (n0 : Nat) (Z0 : n0 ≤ h0.size) (hlaw : f0_0 p0 p2 p4 = 1) :
    MetFree l x (head1 (Jvm.Cond.code x code maxLocals ret :: ws) room_1) (fun a U => a = #[(.long p0), (.long p2), (.int p4)] ∧ Z.Warmed39 U.vm ∧ U.heap = h0) (fun _ _ _ _ _ => True) (fun _ U o U' => ∃ v L, o = .returned v ∧ own_Law n0 v U'.heap L ∧ FrameEnd U o U' L 16 128) := by
  refine MetFree.of_bodySF (plainFor_of_name pn_0) hisR ?_
  intro p e s m args below meth c s₁ Bd hml0 hP hK
  obtain ⟨rfl, hZ, hh0⟩ := hP
  have hx := Bd.exec
  have hby := Bd.bytes
  have hml : c.maxLocals = 10 := hml0
  have hown : s.vm.findClass "com/example/careful_lock/carefullock/DeadlineIsNeverPinLaw" = some m.cls := findClass_of_methodNamed Bd.named
  have X00 : Stand p l e room_1 s m #[(.long p0), (.long p2), (.int p4)] below meth c s₁ [] 0 0 := Stand.of_body Bd
  have e00 : s₁.heap = h0 := by rw [← hh0, Bd.state]; rfl
  have B67 : ∀ (T0 : State) (locs : List Loc) (x0 : Int64) (x2 : Int64) (x4 : Int32) (x5 : Int32) (x6 : Int64) (x8 : Addr) (x9 : Int32) (t0 : Int32) (hh : Heap), n0 ≤ hh.size → (own_DL Z hh x8 x0 x6 (x5 &&& 1)) → Stand p l e room_1 s m #[(.long p0), (.long p2), (.int p4)] below meth c T0 locs 1 3 → T0.heap = hh → Fr n0 locs → f0_67 t0 = 1 → own_Goes p e below s (own_Law n0) 16 128 T0 (mkF m 67 #[.val (.long x0), .second, .val (.long x2), .second, .val (.int x4), .val (.int x5), .val (.long x6), .second, .val (.ref x8), .val (.int x9)] [(.int t0)]) := by
    intro T0 locs x0 x2 x4 x5 x6 x8 x9 t0 hh Zh V_x8 X0 e0 N0 hf
    exact own_ret X0 Bd (v := some (.int (t0 &&& 1))) (fun q => by rw [Bd.returns] at q; cases q) (fun fs q => retN X0 hx (t := .boolean) Bd.returns (by simp) (hb hby at_67) q) (show own_Law n0 _ _ _ from ⟨congrArg (fun z => some (Value.int z)) hf, N0⟩) (by decide) (by decide)
  have B66 : ∀ (T0 : State) (locs : List Loc) (x0 : Int64) (x2 : Int64) (x4 : Int32) (x5 : Int32) (x6 : Int64) (x8 : Addr) (x9 : Int32) (hh : Heap), n0 ≤ hh.size → (own_DL Z hh x8 x0 x6 (x5 &&& 1)) → Stand p l e room_1 s m #[(.long p0), (.long p2), (.int p4)] below meth c T0 locs 1 3 → T0.heap = hh → Fr n0 locs → f0_66 = 1 → own_Goes p e below s (own_Law n0) 16 128 T0 (mkF m 66 #[.val (.long x0), .second, .val (.long x2), .second, .val (.int x4), .val (.int x5), .val (.long x6), .second, .val (.ref x8), .val (.int x9)] []) := by
    intro T0 locs x0 x2 x4 x5 x6 x8 x9 hh Zh V_x8 X0 e0 N0 hf
    refine own_step (T' := T0) (g' := (mkF m 67 #[.val (.long x0), .second, .val (.long x2), .second, .val (.int x4), .val (.int x5), .val (.long x6), .second, .val (.ref x8), .val (.int x9)] [(.int (0 : Int32))])) (fun _ k => XS.iconst X0.here hx rfl (hb hby at_66) k) ?_
    exact B67 T0 _ x0 x2 x4 x5 x6 x8 x9 (0 : Int32) hh Zh V_x8 X0 e0 N0 hf
  have B62 : ∀ (T0 : State) (locs : List Loc) (x0 : Int64) (x2 : Int64) (x4 : Int32) (x5 : Int32) (x6 : Int64) (x8 : Addr) (x9 : Int32) (hh : Heap), n0 ≤ hh.size → (own_DL Z hh x8 x0 x6 (x5 &&& 1)) → Stand p l e room_1 s m #[(.long p0), (.long p2), (.int p4)] below meth c T0 locs 1 3 → T0.heap = hh → Fr n0 locs → f0_62 = 1 → own_Goes p e below s (own_Law n0) 16 128 T0 (mkF m 62 #[.val (.long x0), .second, .val (.long x2), .second, .val (.int x4), .val (.int x5), .val (.long x6), .second, .val (.ref x8), .val (.int x9)] []) := by
    intro T0 locs x0 x2 x4 x5 x6 x8 x9 hh Zh V_x8 X0 e0 N0 hf
    refine own_step (T' := T0) (g' := (mkF m 63 #[.val (.long x0), .second, .val (.long x2), .second, .val (.int x4), .val (.int x5), .val (.long x6), .second, .val (.ref x8), .val (.int x9)] [(.int (1 : Int32))])) (fun _ k => XS.iconst X0.here hx rfl (hb hby at_62) k) ?_
    refine own_step (T' := T0) (g' := (mkF m 67 #[.val (.long x0), .second, .val (.long x2), .second, .val (.int x4), .val (.int x5), .val (.long x6), .second, .val (.ref x8), .val (.int x9)] [(.int (1 : Int32))])) (fun _ k => XS.goto X0.here hx rfl (pc0 := 63) (pc' := 67) rfl (hb hby at_63) (by decide) (by decide) k) ?_
    exact B67 T0 _ x0 x2 x4 x5 x6 x8 x9 (1 : Int32) hh Zh V_x8 X0 e0 N0 hf
  have B50 : ∀ (T0 : State) (locs : List Loc) (x0 : Int64) (x2 : Int64) (x4 : Int32) (x5 : Int32) (x6 : Int64) (x8 : Addr) (t0 : Int32) (hh : Heap), n0 ≤ hh.size → (own_DL Z hh x8 x0 x6 (x5 &&& 1)) → Stand p l e room_1 s m #[(.long p0), (.long p2), (.int p4)] below meth c T0 locs 1 3 → T0.heap = hh → Fr n0 locs → f0_50 x6 t0 = 1 → own_Goes p e below s (own_Law n0) 16 128 T0 (mkF m 50 #[.val (.long x0), .second, .val (.long x2), .second, .val (.int x4), .val (.int x5), .val (.long x6), .second, .val (.ref x8), .unset] [(.int t0)]) := by
    intro T0 locs x0 x2 x4 x5 x6 x8 t0 hh Zh V_x8 X0 e0 N0 hf
    refine own_step (T' := T0) (g' := (mkF m 52 #[.val (.long x0), .second, .val (.long x2), .second, .val (.int x4), .val (.int x5), .val (.long x6), .second, .val (.ref x8), .val (.int t0)] [])) (fun _ k => XS.istore X0.here hx rfl (hb hby at_50) rfl (l' := #[.val (.long x0), .second, .val (.long x2), .second, .val (.int x4), .val (.int x5), .val (.long x6), .second, .val (.ref x8), .val (.int t0)]) rfl k) ?_
    refine own_step (T' := T0) (g' := (mkF m 54 #[.val (.long x0), .second, .val (.long x2), .second, .val (.int x4), .val (.int x5), .val (.long x6), .second, .val (.ref x8), .val (.int t0)] [(.ref x8)])) (fun _ k => XS.aload X0.here hx rfl (hb hby at_52) rfl rfl k) ?_
    obtain ⟨cqz1_1, kqz1_1, qz1_1a, qz1_1b, qz1_1c⟩ := isOf hZ e0 V_x8.1
    obtain ⟨_, _, ⟨Tz1_1, Lz1_1, kz1_1, nz1_1⟩, -, Xz1_1, ⟨Lcz1_1, hQz1_1, lz1_1, yz1_1, zz1_1⟩, stz1_1⟩ := X0.virtualBack hx (y := (⟨"com/example/careful_lock/carefullock/Deadline", "isNever", "()Z"⟩ : MethodName)) (z := (⟨"com/example/careful_lock/carefullock/Deadline", "isNever", "()Z"⟩ : MethodName)) hown (mvT hZ (hw _ (List.mem_of_getElem? (i := 25) rfl))) (mvT hZ (hw _ (List.mem_of_getElem? (i := 26) rfl))) (notFace_of_selects (args := #[]) (mvT hZ (hw _ (List.mem_of_getElem? (i := 28) rfl)))) (mvT hZ (hw _ (List.mem_of_getElem? (i := 28) rfl))) (mvT hZ (hw _ (List.mem_of_getElem? (i := 27) rfl))) (by decide) (backOf (W := 0) (rm5 l Z a0 hw [] x8 x0 x6 (x5 &&& 1) hh n0 Zh V_x8) hZ (hw _ (List.mem_of_getElem? (i := 29) rfl)) (hw _ (List.mem_of_getElem? (i := 6) rfl)) (by decide) (by decide)) qz1_1a qz1_1c (g := (mkF m 54 #[.val (.long x0), .second, .val (.long x2), .second, .val (.int x4), .val (.int x5), .val (.long x6), .second, .val (.ref x8), .val (.int t0)] [(.ref x8)])) rfl (by rw [hml]; rfl) (Steps.refl _) (argsL := []) (rest := []) (lenOf pd_3 rfl) rfl (by show 2 * 0 + _ ≤ _; exact Nat.le_of_eq rfl) (hb hby at_54) (fun _ _ => ⟨rfl, e0, (by decide : 1 + 0 ≤ _), (by decide : 3 + 0 ≤ _)⟩)
    dsimp only [Pt.U, Pt.locs, Pt.cells, Pt.slots] at Xz1_1 lz1_1 yz1_1 zz1_1 stz1_1 hQz1_1
    subst lz1_1 yz1_1 zz1_1
    obtain ⟨rfl, Nz1_1q, ez1_1⟩ := hQz1_1
    have Nz1_1 := Fr.app N0 Nz1_1q
    refine own_step (T' := Tz1_1) (g' := (mkF m 57 #[.val (.long x0), .second, .val (.long x2), .second, .val (.int x4), .val (.int x5), .val (.long x6), .second, .val (.ref x8), .val (.int t0)] [(.int (own_never x6))])) (fun _ k => stz1_1.trans k) ?_
    refine own_step (T' := Tz1_1) (g' := (mkF m 59 #[.val (.long x0), .second, .val (.long x2), .second, .val (.int x4), .val (.int x5), .val (.long x6), .second, .val (.ref x8), .val (.int t0)] [(.int t0), (.int (own_never x6))])) (fun _ k => XS.iload Xz1_1.here hx rfl (hb hby at_57) rfl k) ?_
    by_cases hc : (own_never x6) = t0
    · refine own_step (T' := Tz1_1) (g' := (mkF m 62 #[.val (.long x0), .second, .val (.long x2), .second, .val (.int x4), .val (.int x5), .val (.long x6), .second, .val (.ref x8), .val (.int t0)] [])) (fun _ k => XS.icmpNo Xz1_1.here hx rfl (hb hby at_59) rfl (teq hc).2 k) ?_
      exact B62 Tz1_1 _ x0 x2 x4 x5 x6 x8 t0 hh Zh V_x8 Xz1_1 ez1_1 Nz1_1 ((if_pos hc).symm.trans hf)
    · refine own_step (T' := Tz1_1) (g' := (mkF m 66 #[.val (.long x0), .second, .val (.long x2), .second, .val (.int x4), .val (.int x5), .val (.long x6), .second, .val (.ref x8), .val (.int t0)] [])) (fun _ k => XS.icmpYes Xz1_1.here hx rfl (pc0 := 59) (pc' := 66) rfl (hb hby at_59) rfl (feq hc).2 (by decide) (by decide) k) ?_
      exact B66 Tz1_1 _ x0 x2 x4 x5 x6 x8 t0 hh Zh V_x8 Xz1_1 ez1_1 Nz1_1 ((if_neg hc).symm.trans hf)
  have B49 : ∀ (T0 : State) (locs : List Loc) (x0 : Int64) (x2 : Int64) (x4 : Int32) (x5 : Int32) (x6 : Int64) (x8 : Addr) (hh : Heap), n0 ≤ hh.size → (own_DL Z hh x8 x0 x6 (x5 &&& 1)) → Stand p l e room_1 s m #[(.long p0), (.long p2), (.int p4)] below meth c T0 locs 1 3 → T0.heap = hh → Fr n0 locs → f0_49 x6 = 1 → own_Goes p e below s (own_Law n0) 16 128 T0 (mkF m 49 #[.val (.long x0), .second, .val (.long x2), .second, .val (.int x4), .val (.int x5), .val (.long x6), .second, .val (.ref x8), .unset] []) := by
    intro T0 locs x0 x2 x4 x5 x6 x8 hh Zh V_x8 X0 e0 N0 hf
    refine own_step (T' := T0) (g' := (mkF m 50 #[.val (.long x0), .second, .val (.long x2), .second, .val (.int x4), .val (.int x5), .val (.long x6), .second, .val (.ref x8), .unset] [(.int (0 : Int32))])) (fun _ k => XS.iconst X0.here hx rfl (hb hby at_49) k) ?_
    exact B50 T0 _ x0 x2 x4 x5 x6 x8 (0 : Int32) hh Zh V_x8 X0 e0 N0 hf
  have B45 : ∀ (T0 : State) (locs : List Loc) (x0 : Int64) (x2 : Int64) (x4 : Int32) (x5 : Int32) (x6 : Int64) (x8 : Addr) (hh : Heap), n0 ≤ hh.size → (own_DL Z hh x8 x0 x6 (x5 &&& 1)) → Stand p l e room_1 s m #[(.long p0), (.long p2), (.int p4)] below meth c T0 locs 1 3 → T0.heap = hh → Fr n0 locs → f0_45 x6 = 1 → own_Goes p e below s (own_Law n0) 16 128 T0 (mkF m 45 #[.val (.long x0), .second, .val (.long x2), .second, .val (.int x4), .val (.int x5), .val (.long x6), .second, .val (.ref x8), .unset] []) := by
    intro T0 locs x0 x2 x4 x5 x6 x8 hh Zh V_x8 X0 e0 N0 hf
    refine own_step (T' := T0) (g' := (mkF m 46 #[.val (.long x0), .second, .val (.long x2), .second, .val (.int x4), .val (.int x5), .val (.long x6), .second, .val (.ref x8), .unset] [(.int (1 : Int32))])) (fun _ k => XS.iconst X0.here hx rfl (hb hby at_45) k) ?_
    refine own_step (T' := T0) (g' := (mkF m 50 #[.val (.long x0), .second, .val (.long x2), .second, .val (.int x4), .val (.int x5), .val (.long x6), .second, .val (.ref x8), .unset] [(.int (1 : Int32))])) (fun _ k => XS.goto X0.here hx rfl (pc0 := 46) (pc' := 50) rfl (hb hby at_46) (by decide) (by decide) k) ?_
    exact B50 T0 _ x0 x2 x4 x5 x6 x8 (1 : Int32) hh Zh V_x8 X0 e0 N0 hf
  have B12 : ∀ (T0 : State) (locs : List Loc) (x0 : Int64) (x2 : Int64) (x4 : Int32) (t0 : Int32) (hh : Heap), n0 ≤ hh.size → Stand p l e room_1 s m #[(.long p0), (.long p2), (.int p4)] below meth c T0 locs 0 0 → T0.heap = hh → Fr n0 locs → f0_12 x2 x4 t0 = 1 → own_Goes p e below s (own_Law n0) 16 128 T0 (mkF m 12 #[.val (.long x0), .second, .val (.long x2), .second, .val (.int x4), .unset, .unset, .unset, .unset, .unset] [(.int t0)]) := by
    intro T0 locs x0 x2 x4 t0 hh Zh  X0 e0 N0 hf
    refine own_step (T' := T0) (g' := (mkF m 14 #[.val (.long x0), .second, .val (.long x2), .second, .val (.int x4), .val (.int t0), .unset, .unset, .unset, .unset] [])) (fun _ k => XS.istore X0.here hx rfl (hb hby at_12) rfl (l' := #[.val (.long x0), .second, .val (.long x2), .second, .val (.int x4), .val (.int t0), .unset, .unset, .unset, .unset]) rfl k) ?_
    refine own_step (T' := T0) (g' := (mkF m 15 #[.val (.long x0), .second, .val (.long x2), .second, .val (.int x4), .val (.int t0), .unset, .unset, .unset, .unset] [(.long x2)])) (fun _ k => XS.lloadN X0.here hx rfl (hb hby at_14) rfl k) ?_
    refine own_step (T' := T0) (g' := (mkF m 17 #[.val (.long x0), .second, .val (.long x2), .second, .val (.int x4), .val (.int t0), .unset, .unset, .unset, .unset] [(.int x4), (.long x2)])) (fun _ k => XS.iload X0.here hx rfl (hb hby at_15) rfl k) ?_
    obtain ⟨_, _, ⟨T1, L1, k1, n1⟩, -, X1, ⟨Lc1, hQ1, l1, y1, z1⟩, st1⟩ := Jvm.LawKit.callS X0 hx (y := (⟨"com/example/careful_lock/carefullock/DeadlineIsNeverPinLaw", "pickTimeout", "(JI)J"⟩ : MethodName)) hown (mvT hZ (hw _ (List.mem_of_getElem? (i := 0) rfl))) (mvT hZ (hw _ (List.mem_of_getElem? (i := 1) rfl))) (mvT hZ (hw _ (List.mem_of_getElem? (i := 2) rfl))) (mvT hZ (hw _ (List.mem_of_getElem? (i := 3) rfl))) (by decide) (backOf (W := 0) (rm1 l Z a0 hw [] x2 x4 hh n0 Zh) hZ (hw _ (List.mem_of_getElem? (i := 3) rfl)) (hw _ (List.mem_of_getElem? (i := 2) rfl)) (by decide) (by decide)) (g := (mkF m 17 #[.val (.long x0), .second, .val (.long x2), .second, .val (.int x4), .val (.int t0), .unset, .unset, .unset, .unset] [(.int x4), (.long x2)])) rfl (by rw [hml]; rfl) (argsL := [(.long x2), (.int x4)]) (rest := []) (lenOf pd_1 rfl) rfl (by show 2 * 0 + _ ≤ _; exact Nat.le_of_eq rfl) (hb hby at_17) (fun _ _ => ⟨rfl, e0, (by decide : 0 + 0 ≤ _), (by decide : 0 + 0 ≤ _)⟩)
    dsimp only [Pt.U, Pt.locs, Pt.cells, Pt.slots] at X1 l1 y1 z1 st1 hQ1
    subst l1 y1 z1
    obtain ⟨rfl, N1q, e1⟩ := hQ1
    have N1 := Fr.app N0 N1q
    refine own_step (T' := T1) (g' := (mkF m 20 #[.val (.long x0), .second, .val (.long x2), .second, .val (.int x4), .val (.int t0), .unset, .unset, .unset, .unset] [(.long (f1_0 x2 x4))])) (fun _ k => st1 _ k) ?_
    refine own_step (T' := T1) (g' := (mkF m 22 #[.val (.long x0), .second, .val (.long x2), .second, .val (.int x4), .val (.int t0), .val (.long (f1_0 x2 x4)), .second, .unset, .unset] [])) (fun _ k => XS.lstore X1.here hx rfl (hb hby at_20) rfl (l' := #[.val (.long x0), .second, .val (.long x2), .second, .val (.int x4), .val (.int t0), .val (.long (f1_0 x2 x4)), .second, .unset, .unset]) rfl k) ?_
    obtain ⟨Tz2_1, hz2_1, Xz2_1, ez2_1, Ez2_1, Az2_1, Dz2_1, -, stz2_1⟩ := newO X1 hx hZ hown (hw _ (List.mem_of_getElem? (i := 4) rfl)) (hw _ (List.mem_of_getElem? (i := 5) rfl)) (hw _ (List.mem_of_getElem? (i := 6) rfl)) e1 (g := (mkF m 22 #[.val (.long x0), .second, .val (.long x2), .second, .val (.int x4), .val (.int t0), .val (.long (f1_0 x2 x4)), .second, .unset, .unset] [])) rfl (hb hby at_22) (by decide) (by decide)
    obtain ⟨bz2_1, gz2_1⟩ : ∃ z, z = hh.size := ⟨_, rfl⟩
    rw [← gz2_1] at Az2_1 Dz2_1 stz2_1
    have qz2_2 : Fld Z hz2_1 bz2_1 "com/example/careful_lock/carefullock/Deadline" "startNanos" "J" (.long (0 : Int64)) := Dz2_1 (Or.inr (hw _ (List.mem_of_getElem? (i := 19) rfl))) (ty := .long) (by decide)
    have qz2_3 : Fld Z hz2_1 bz2_1 "com/example/careful_lock/carefullock/Deadline" "timeoutNanos" "J" (.long (0 : Int64)) := Dz2_1 (Or.inr (hw _ (List.mem_of_getElem? (i := 21) rfl))) (ty := .long) (by decide)
    have qz2_4 : Fld Z hz2_1 bz2_1 "com/example/careful_lock/carefullock/Deadline" "interruptible" "Z" (.int (0 : Int32)) := Dz2_1 (Or.inr (hw _ (List.mem_of_getElem? (i := 23) rfl))) (ty := .boolean) (by decide)
    have g_bz2_1 : n0 ≤ bz2_1 := Nat.le_trans Zh (Nat.le_of_eq gz2_1.symm)
    have Zz2_1 : n0 ≤ hz2_1.size := Nat.le_trans Zh Ez2_1.1
    refine own_step (T' := Tz2_1) (g' := (mkF m 25 #[.val (.long x0), .second, .val (.long x2), .second, .val (.int x4), .val (.int t0), .val (.long (f1_0 x2 x4)), .second, .unset, .unset] [(.ref bz2_1)])) (fun _ k => stz2_1 _ k) ?_
    refine own_step (T' := Tz2_1) (g' := (mkF m 26 #[.val (.long x0), .second, .val (.long x2), .second, .val (.int x4), .val (.int t0), .val (.long (f1_0 x2 x4)), .second, .unset, .unset] [(.ref bz2_1), (.ref bz2_1)])) (fun _ k => XS.dup Xz2_1.here hx rfl (hb hby at_25) rfl rfl k) ?_
    refine own_step (T' := Tz2_1) (g' := (mkF m 27 #[.val (.long x0), .second, .val (.long x2), .second, .val (.int x4), .val (.int t0), .val (.long (f1_0 x2 x4)), .second, .unset, .unset] [(.long x0), (.ref bz2_1), (.ref bz2_1)])) (fun _ k => XS.lloadN Xz2_1.here hx rfl (hb hby at_26) rfl k) ?_
    refine own_step (T' := Tz2_1) (g' := (mkF m 29 #[.val (.long x0), .second, .val (.long x2), .second, .val (.int x4), .val (.int t0), .val (.long (f1_0 x2 x4)), .second, .unset, .unset] [(.long (f1_0 x2 x4)), (.long x0), (.ref bz2_1), (.ref bz2_1)])) (fun _ k => XS.lload Xz2_1.here hx rfl (hb hby at_27) rfl k) ?_
    refine own_step (T' := Tz2_1) (g' := (mkF m 31 #[.val (.long x0), .second, .val (.long x2), .second, .val (.int x4), .val (.int t0), .val (.long (f1_0 x2 x4)), .second, .unset, .unset] [(.int t0), (.long (f1_0 x2 x4)), (.long x0), (.ref bz2_1), (.ref bz2_1)])) (fun _ k => XS.iload Xz2_1.here hx rfl (hb hby at_29) rfl k) ?_
    obtain ⟨_, _, ⟨Tz2_5, Lz2_5, kz2_5, nz2_5⟩, -, Xz2_5, ⟨Lcz2_5, hQz2_5, lz2_5, yz2_5, zz2_5⟩, stz2_5⟩ := Xz2_1.specialBack hx (y := (⟨"com/example/careful_lock/carefullock/Deadline", "<init>", "(JJZ)V"⟩ : MethodName)) rfl hown (mvT hZ (hw _ (List.mem_of_getElem? (i := 7) rfl))) (mvT hZ (hw _ (List.mem_of_getElem? (i := 8) rfl))) (mvT hZ (hw _ (List.mem_of_getElem? (i := 9) rfl))) (by decide) (backOf (W := 1) (rm2 l Z a0 hw [] bz2_1 x0 (f1_0 x2 x4) t0 (.long (0 : Int64)) (.long (0 : Int64)) (.int (0 : Int32)) hz2_1 n0 Zz2_1 Az2_1 g_bz2_1 qz2_2 qz2_3 qz2_4) hZ (hw _ (List.mem_of_getElem? (i := 9) rfl)) (hw _ (List.mem_of_getElem? (i := 6) rfl)) (by decide) (by decide)) (g := (mkF m 31 #[.val (.long x0), .second, .val (.long x2), .second, .val (.int x4), .val (.int t0), .val (.long (f1_0 x2 x4)), .second, .unset, .unset] [(.int t0), (.long (f1_0 x2 x4)), (.long x0), (.ref bz2_1), (.ref bz2_1)])) rfl (by rw [hml]; rfl) (Steps.refl _) (a := bz2_1) (argsL := [(.long x0), (.long (f1_0 x2 x4)), (.int t0)]) (rest := [(.ref bz2_1)]) (lenOf pd_2 rfl) rfl (by show 2 * 0 + _ ≤ _; exact Nat.le_of_eq rfl) (hb hby at_31) (fun _ _ => ⟨rfl, ez2_1, (by decide : 1 + 0 ≤ _), (by decide : 3 + 0 ≤ _)⟩)
    dsimp only [Pt.U, Pt.locs, Pt.cells, Pt.slots] at Xz2_5 lz2_5 yz2_5 zz2_5 stz2_5 hQz2_5
    subst lz2_5 yz2_5 zz2_5
    generalize ez2_5 : Tz2_5.heap = hz2_5 at hQz2_5
    obtain ⟨rfl, Nz2_5q, Kz2_5, dlz2_5⟩ := hQz2_5
    have Zz2_5 : n0 ≤ hz2_5.size := Nat.le_trans Zz2_1 Kz2_5.1
    have qz2_6 : Exa Z hz2_5 bz2_1 "com/example/careful_lock/carefullock/Deadline" := Az2_1.keep Kz2_5
    have Nz2_5 := Fr.app N1 Nz2_5q
    refine own_step (T' := Tz2_5) (g' := (mkF m 34 #[.val (.long x0), .second, .val (.long x2), .second, .val (.int x4), .val (.int t0), .val (.long (f1_0 x2 x4)), .second, .unset, .unset] [(.ref bz2_1)])) (fun _ k => stz2_5.trans k) ?_
    refine own_step (T' := Tz2_5) (g' := (mkF m 36 #[.val (.long x0), .second, .val (.long x2), .second, .val (.int x4), .val (.int t0), .val (.long (f1_0 x2 x4)), .second, .val (.ref bz2_1), .unset] [])) (fun _ k => XS.astore Xz2_5.here hx rfl (hb hby at_34) rfl rfl (l' := #[.val (.long x0), .second, .val (.long x2), .second, .val (.int x4), .val (.int t0), .val (.long (f1_0 x2 x4)), .second, .val (.ref bz2_1), .unset]) rfl k) ?_
    refine own_step (T' := Tz2_5) (g' := (mkF m 38 #[.val (.long x0), .second, .val (.long x2), .second, .val (.int x4), .val (.int t0), .val (.long (f1_0 x2 x4)), .second, .val (.ref bz2_1), .unset] [(.long (f1_0 x2 x4))])) (fun _ k => XS.lload Xz2_5.here hx rfl (hb hby at_36) rfl k) ?_
    refine own_step (T' := Tz2_5) (g' := (mkF m 41 #[.val (.long x0), .second, .val (.long x2), .second, .val (.int x4), .val (.int t0), .val (.long (f1_0 x2 x4)), .second, .val (.ref bz2_1), .unset] [(.long (9223372036854775807 : Int64)), (.long (f1_0 x2 x4))])) (fun _ k => Xz2_5.ldc2Long hx hown (mvT hZ (hw _ (List.mem_of_getElem? (i := 24) rfl))) (g := (mkF m 38 #[.val (.long x0), .second, .val (.long x2), .second, .val (.int x4), .val (.int t0), .val (.long (f1_0 x2 x4)), .second, .val (.ref bz2_1), .unset] [(.long (f1_0 x2 x4))])) rfl (hb hby at_38) _ k) ?_
    refine own_step (T' := Tz2_5) (g' := (mkF m 42 #[.val (.long x0), .second, .val (.long x2), .second, .val (.int x4), .val (.int t0), .val (.long (f1_0 x2 x4)), .second, .val (.ref bz2_1), .unset] [(.int (lcmpW (f1_0 x2 x4) (9223372036854775807 : Int64)))])) (fun _ k => XS.lcmp Xz2_5.here hx rfl (hb hby at_41) rfl k) ?_
    by_cases hc : (lcmpW (f1_0 x2 x4) (9223372036854775807 : Int64)) = (0 : Int32)
    · refine own_step (T' := Tz2_5) (g' := (mkF m 45 #[.val (.long x0), .second, .val (.long x2), .second, .val (.int x4), .val (.int t0), .val (.long (f1_0 x2 x4)), .second, .val (.ref bz2_1), .unset] [])) (fun _ k => XS.ifNo Xz2_5.here hx rfl (hb hby at_42) rfl ((if0 _ _).trans (teq hc).2) k) ?_
      exact B45 Tz2_5 _ x0 x2 x4 t0 (f1_0 x2 x4) bz2_1 hz2_5 Zz2_5 dlz2_5 Xz2_5 ez2_5 Nz2_5 ((if_pos hc).symm.trans hf)
    · refine own_step (T' := Tz2_5) (g' := (mkF m 49 #[.val (.long x0), .second, .val (.long x2), .second, .val (.int x4), .val (.int t0), .val (.long (f1_0 x2 x4)), .second, .val (.ref bz2_1), .unset] [])) (fun _ k => XS.ifYes Xz2_5.here hx rfl (pc0 := 42) (pc' := 49) rfl (hb hby at_42) rfl ((if0 _ _).trans (feq hc).2) (by decide) (by decide) k) ?_
      exact B49 Tz2_5 _ x0 x2 x4 t0 (f1_0 x2 x4) bz2_1 hz2_5 Zz2_5 dlz2_5 Xz2_5 ez2_5 Nz2_5 ((if_neg hc).symm.trans hf)
  have B11 : ∀ (T0 : State) (locs : List Loc) (x0 : Int64) (x2 : Int64) (x4 : Int32) (hh : Heap), n0 ≤ hh.size → Stand p l e room_1 s m #[(.long p0), (.long p2), (.int p4)] below meth c T0 locs 0 0 → T0.heap = hh → Fr n0 locs → f0_11 x2 x4 = 1 → own_Goes p e below s (own_Law n0) 16 128 T0 (mkF m 11 #[.val (.long x0), .second, .val (.long x2), .second, .val (.int x4), .unset, .unset, .unset, .unset, .unset] []) := by
    intro T0 locs x0 x2 x4 hh Zh  X0 e0 N0 hf
    refine own_step (T' := T0) (g' := (mkF m 12 #[.val (.long x0), .second, .val (.long x2), .second, .val (.int x4), .unset, .unset, .unset, .unset, .unset] [(.int (0 : Int32))])) (fun _ k => XS.iconst X0.here hx rfl (hb hby at_11) k) ?_
    exact B12 T0 _ x0 x2 x4 (0 : Int32) hh Zh  X0 e0 N0 hf
  have B7 : ∀ (T0 : State) (locs : List Loc) (x0 : Int64) (x2 : Int64) (x4 : Int32) (hh : Heap), n0 ≤ hh.size → Stand p l e room_1 s m #[(.long p0), (.long p2), (.int p4)] below meth c T0 locs 0 0 → T0.heap = hh → Fr n0 locs → f0_7 x2 x4 = 1 → own_Goes p e below s (own_Law n0) 16 128 T0 (mkF m 7 #[.val (.long x0), .second, .val (.long x2), .second, .val (.int x4), .unset, .unset, .unset, .unset, .unset] []) := by
    intro T0 locs x0 x2 x4 hh Zh  X0 e0 N0 hf
    refine own_step (T' := T0) (g' := (mkF m 8 #[.val (.long x0), .second, .val (.long x2), .second, .val (.int x4), .unset, .unset, .unset, .unset, .unset] [(.int (1 : Int32))])) (fun _ k => XS.iconst X0.here hx rfl (hb hby at_7) k) ?_
    refine own_step (T' := T0) (g' := (mkF m 12 #[.val (.long x0), .second, .val (.long x2), .second, .val (.int x4), .unset, .unset, .unset, .unset, .unset] [(.int (1 : Int32))])) (fun _ k => XS.goto X0.here hx rfl (pc0 := 8) (pc' := 12) rfl (hb hby at_8) (by decide) (by decide) k) ?_
    exact B12 T0 _ x0 x2 x4 (1 : Int32) hh Zh  X0 e0 N0 hf
  have B0 : ∀ (T0 : State) (locs : List Loc) (x0 : Int64) (x2 : Int64) (x4 : Int32) (hh : Heap), n0 ≤ hh.size → Stand p l e room_1 s m #[(.long p0), (.long p2), (.int p4)] below meth c T0 locs 0 0 → T0.heap = hh → Fr n0 locs → f0_0 x0 x2 x4 = 1 → own_Goes p e below s (own_Law n0) 16 128 T0 (mkF m 0 #[.val (.long x0), .second, .val (.long x2), .second, .val (.int x4), .unset, .unset, .unset, .unset, .unset] []) := by
    intro T0 locs x0 x2 x4 hh Zh  X0 e0 N0 hf
    refine own_step (T' := T0) (g' := (mkF m 2 #[.val (.long x0), .second, .val (.long x2), .second, .val (.int x4), .unset, .unset, .unset, .unset, .unset] [(.int x4)])) (fun _ k => XS.iload X0.here hx rfl (hb hby at_0) rfl k) ?_
    refine own_step (T' := T0) (g' := (mkF m 3 #[.val (.long x0), .second, .val (.long x2), .second, .val (.int x4), .unset, .unset, .unset, .unset, .unset] [(.int (1 : Int32)), (.int x4)])) (fun _ k => XS.iconst X0.here hx rfl (hb hby at_2) k) ?_
    refine own_step (T' := T0) (g' := (mkF m 4 #[.val (.long x0), .second, .val (.long x2), .second, .val (.int x4), .unset, .unset, .unset, .unset, .unset] [(.int (x4 &&& (1 : Int32)))])) (fun _ k => XS.iand X0.here hx rfl (hb hby at_3) rfl k) ?_
    by_cases hc : (x4 &&& (1 : Int32)) = (0 : Int32)
    · refine own_step (T' := T0) (g' := (mkF m 11 #[.val (.long x0), .second, .val (.long x2), .second, .val (.int x4), .unset, .unset, .unset, .unset, .unset] [])) (fun _ k => XS.ifYes X0.here hx rfl (pc0 := 4) (pc' := 11) rfl (hb hby at_4) rfl ((if0 _ _).trans (teq hc).1) (by decide) (by decide) k) ?_
      exact B11 T0 _ x0 x2 x4 hh Zh  X0 e0 N0 ((if_pos hc).symm.trans hf)
    · refine own_step (T' := T0) (g' := (mkF m 7 #[.val (.long x0), .second, .val (.long x2), .second, .val (.int x4), .unset, .unset, .unset, .unset, .unset] [])) (fun _ k => XS.ifNo X0.here hx rfl (hb hby at_4) rfl ((if0 _ _).trans (feq hc).1) k) ?_
      exact B7 T0 _ x0 x2 x4 hh Zh  X0 e0 N0 ((if_neg hc).symm.trans hf)
  have hB := B0 s₁ [] p0 p2 p4 h0 Z0 X00 e00 (Fr.nil n0) hlaw
  obtain ⟨s₂, o, q1, q2, q3, v, L, q4, q5, q6⟩ := hB
  exact ⟨s₂, o, castTop (ef_0 m p0 p2 p4) q1, q2, q3, v, L, q4, q5, q6⟩
set_option maxRecDepth 65536 in
set_option maxHeartbeats 40000000 in
theorem comes_1 {Post : Tables → Env → Array Value → State → Outcome → State → Prop} (hpost : ∀ tb e args s v u, (limb_1_1.after args s (.returned v) u = true ∧ limb_1_2.after args s (.returned v) u = true ∧ True) → FrameEnd s (.returned v) u (Jvm.fieldLocs frame_1_writes args s ++ Jvm.arrayLocs frame_1_arrays args s ++ Jvm.staticLocs frame_1_statics s) 16 128 → Post tb e args s (.returned v) u) :
    ArmFor flags0 classFile x code maxLocals ret World_1 tables_1 room_1 Calls_1 rest_1 Pre_1 Post := by
  intro l hfl _ _ p e ha hc hk s m args below hf hA hF happ hP
  obtain ⟨hcalls, hrest, hpre⟩ := hP
  obtain ⟨-, -, -, hnamed, -, -, -, hat⟩ := (Spec.applies_iff hf).mp happ
  obtain ⟨hg, hn⟩ := and_e (Cond.before_iff.mp (show (Jvm.Cond.and given_1 narrow_1).before args s = true from hpre))
  obtain ⟨hcnt, g0⟩ := and_e hg
  obtain ⟨a0, g1⟩ := and_e g0
  obtain ⟨a1, g2⟩ := and_e g1
  obtain ⟨w0, w1, w2, rfl⟩ : ∃ w0 w1 w2 : Value, args = #[w0, w1, w2] := by
    have hs : args.size = 3 := by simpa [Cond.value, given_1] using hcnt
    obtain ⟨L⟩ := args
    match L, hs with
    | [w0, w1, w2], _ => exact ⟨w0, w1, w2, rfl⟩
  have hw := fun d (hd : d ∈ tables_1) => atoms_spec (ws := Jvm.Cond.code x code maxLocals ret :: tables_1) hat d (List.mem_cons_of_mem _ hd)
  obtain ⟨i0, ei0⟩ := isL_v a0
  obtain rfl : w0 = (.long i0) := Option.some.inj ei0
  obtain ⟨i1, ei1⟩ := isL_v a1
  obtain rfl : w1 = (.long i1) := Option.some.inj ei1
  obtain ⟨i2, ei2⟩ := is_v g2
  obtain rfl : w2 = (.int i2) := Option.some.inj ei2
  obtain ⟨n, o, h1, h2, h3, _, L, rfl, ⟨rfl, N⟩, hq⟩ := rm0 l s _ hw tables_1 i0 i1 i2 s.heap s.heap.size (Nat.le_refl _) (own_law i0 i1 i2) p e ha hc hk s m _ below hf ((Spec.applies_iff_loose hf).mp happ).1 ⟨rfl, State.Warmed39.refl s, rfl⟩ trivial
  refine ⟨n, _, h1, h2, h3, hpost _ _ _ _ _ _ ⟨Cond.after_iff.mpr rfl, Cond.after_iff.mpr (eq_i res_at (Term.int_eval (1)) rfl), trivial⟩ ⟨hq.1, hq.2.1, (hq.2.2.sift fun y hy => Or.inr (N y hy)).mono (by decide) (by decide)⟩⟩
theorem main_1_1 : Claimed_1_1 := comes_1 fun _ _ _ _ _ _ h hF => ⟨h.1, hF⟩
theorem main_1_2 : Claimed_1_2 := comes_1 fun _ _ _ _ _ _ h hF => ⟨h.2.1, hF⟩
end Jvm.Pilot.@@N@@
namespace Jvm.Pilot.@@N@@
open Jvm Jvm.ClassFile Sem Op Lib Jvm.Free Jvm.Stand Jvm.Pilot.@@N@@.Jvm.D
/-! MADE BY PROGRAM (witnessworld.py) out of the Statement's table words and the real class files: 10 classes; the members and pool entries that the words name. The judged class is class 1, her method 2. -/
namespace start1
open Jvm.ClassFile
def u (s : String) : CpInfo := .utf8 (stringToUtf16 s)
/-- a pool by its gaps: so many unusable entries, then the entry; so many at the end -/
def gap : Nat → List CpInfo → List CpInfo
  | 0, r => r
  | n + 1, r => .unusable :: gap n r
def poolList (es : List (Nat × CpInfo)) (last : Nat) : List CpInfo := es.foldr (fun e r => gap e.1 (e.2 :: r)) (gap last [])
def pool (es : List (Nat × CpInfo)) (last : Nat) : Array CpInfo := ⟨poolList es last⟩
def fileOf (pool : Array CpInfo) (this : Nat) (attrs : Array Attribute := #[]) (ms : Array MethodInfo := #[]) (fl : Nat := 33) (sup : Nat := 0) (ifs : Array Nat := #[]) (fds : Array FieldInfo := #[]) : ClassFile where
  minorVersion := 0
  majorVersion := 65
  constantPool := pool
  accessFlags := fl
  thisClass := this
  superClass := sup
  interfaces := ifs
  fields := fds
  methods := ms
  attributes := attrs
def plain (name : String) (sup : Option ClassId) : Class where
  name := name
  kind := .ordinary
  loader := none
  accessFlags := 33
  super := sup
  interfaces := #[]
  cf := none
  fields := #[]
  methods := #[]
  instanceTypes := #[]
  staticTypes := #[]
  resolved := #[]
  callSites := []
  init := .initialized
  statics := none
  mirror := none

def pool0 : Array CpInfo := pool [(5, u "<init>"), (0, u "()V"), (1, .class_ 10), (1, u "java/lang/Object")] 113

def k0c0 : Code := { maxStack := 0, maxLocals := 1, code := object_method_1_code, exceptionTable := #[], attributes := #[] }
def k0m0 : Method := { name := "<init>", desc := "()V", sig := { parameters := [], returnType := none }, accessFlags := 1, code := some k0c0 }
/-- java/lang/Object -/
def k0 : Class := { plain "java/lang/Object" none with
  accessFlags := 33
  interfaces := #[]
  cf := some (fileOf pool0 8 #[] #[{ accessFlags := 1, nameIndex := 5, descriptorIndex := 6, attributes := #[] }] 33 0 #[] #[])
  fields := #[]
  methods := #[k0m0]
  instanceTypes := #[]
  staticTypes := #[]
  resolved := Array.replicate 124 none
  statics := none }

def pool1 : Array CpInfo := pool [(2, .class_ 4), (1, u "java/lang/Object"), (0, u "<init>"), (0, u "()V"), (2, .long 9223372036854775807), (1, .long 9223372036854775806), (1, .long 9223372036854775808), (1, .methodref 16 17), (0, .class_ 18), (0, .nameAndType 19 20), (0, u "com/example/careful_lock/carefullock/DeadlineIsNeverPinLaw"), (0, u "pickTimeout"), (0, u "(JI)J"), (0, .class_ 22), (0, u "com/example/careful_lock/carefullock/Deadline"), (0, .methodref 21 24), (0, .nameAndType 5 25), (0, u "(JJZ)V"), (0, .methodref 21 27), (0, .nameAndType 28 29), (0, u "isNever"), (0, u "()Z"), (3, u "law"), (0, u "(JJI)Z")] 2

def k1m0 : Method := { name := "<init>", desc := "()V", sig := { parameters := [], returnType := none }, accessFlags := 1, code := none }
def k1c1 : Code := { maxStack := 2, maxLocals := 4, code := method_2_code, exceptionTable := #[], attributes := #[] }
def k1m1 : Method := { name := "pickTimeout", desc := "(JI)J", sig := { parameters := [.long, .int], returnType := some .long }, accessFlags := 10, code := some k1c1 }
def k1c2 : Code := { maxStack := 7, maxLocals := 10, code := code, exceptionTable := #[], attributes := #[] }
def k1m2 : Method := { name := "law", desc := "(JJI)Z", sig := { parameters := [.long, .long, .int], returnType := some .boolean }, accessFlags := 9, code := some k1c2 }
/-- com/example/careful_lock/carefullock/DeadlineIsNeverPinLaw -/
def k1 : Class := { plain "com/example/careful_lock/carefullock/DeadlineIsNeverPinLaw" (some 0) with
  accessFlags := 49
  interfaces := #[]
  cf := some (fileOf pool1 16 #[] #[{ accessFlags := 1, nameIndex := 5, descriptorIndex := 6, attributes := #[] }, { accessFlags := 10, nameIndex := 19, descriptorIndex := 20, attributes := #[] }, { accessFlags := 9, nameIndex := 33, descriptorIndex := 34, attributes := #[] }] 49 2 #[] #[])
  fields := #[]
  methods := #[k1m0, k1m1, k1m2]
  instanceTypes := #[]
  staticTypes := #[]
  resolved := Array.replicate 37 none
  statics := none }

def pool2 : Array CpInfo := pool [(1, .methodref 2 3), (0, .class_ 4), (0, .nameAndType 5 6), (0, u "java/lang/Object"), (0, u "<init>"), (0, u "()V"), (0, .class_ 8), (0, u "java/lang/Record")] 13

def k2c0 : Code := { maxStack := 1, maxLocals := 1, code := jdk_30_method_1_code, exceptionTable := #[], attributes := #[] }
def k2m0 : Method := { name := "<init>", desc := "()V", sig := { parameters := [], returnType := none }, accessFlags := 4, code := some k2c0 }
/-- java/lang/Record -/
def k2 : Class := { plain "java/lang/Record" (some 0) with
  accessFlags := 1057
  interfaces := #[]
  cf := some (fileOf pool2 7 #[] #[{ accessFlags := 4, nameIndex := 5, descriptorIndex := 6, attributes := #[] }] 1057 2 #[] #[])
  fields := #[]
  methods := #[k2m0]
  instanceTypes := #[]
  staticTypes := #[]
  resolved := Array.replicate 22 none
  statics := none }

def pool3 : Array CpInfo := pool [(3, .methodref 4 5), (0, .class_ 6), (0, .nameAndType 7 8), (0, u "java/lang/Record"), (0, u "<init>"), (0, u "()V"), (0, .fieldref 10 11), (0, .class_ 12), (0, .nameAndType 13 14), (0, u "com/example/careful_lock/carefullock/Deadline"), (0, u "startNanos"), (0, u "J"), (0, .fieldref 10 16), (0, .nameAndType 17 14), (0, u "timeoutNanos"), (0, .fieldref 10 19), (0, .nameAndType 20 21), (0, u "interruptible"), (0, u "Z"), (8, u "(JJZ)V"), (0, .long 9223372036854775807), (17, u "NEVER"), (7, u "isNever"), (0, u "()Z")] 27

def k3c0 : Code := { maxStack := 3, maxLocals := 6, code := prog_3_method_1_code, exceptionTable := #[], attributes := #[] }
def k3m0 : Method := { name := "<init>", desc := "(JJZ)V", sig := { parameters := [.long, .long, .boolean], returnType := none }, accessFlags := 0, code := some k3c0 }
def k3c1 : Code := { maxStack := 4, maxLocals := 1, code := prog_3_method_5_code, exceptionTable := #[], attributes := #[] }
def k3m1 : Method := { name := "isNever", desc := "()Z", sig := { parameters := [], returnType := some .boolean }, accessFlags := 0, code := some k3c1 }
/-- com/example/careful_lock/carefullock/Deadline -/
def k3 : Class := { plain "com/example/careful_lock/carefullock/Deadline" (some 2) with
  accessFlags := 48
  interfaces := #[]
  cf := some (fileOf pool3 10 #[] #[{ accessFlags := 0, nameIndex := 7, descriptorIndex := 30, attributes := #[] }, { accessFlags := 0, nameIndex := 57, descriptorIndex := 58, attributes := #[] }] 48 4 #[] #[{ accessFlags := 18, nameIndex := 13, descriptorIndex := 14, attributes := #[] }, { accessFlags := 18, nameIndex := 17, descriptorIndex := 14, attributes := #[] }, { accessFlags := 18, nameIndex := 20, descriptorIndex := 21, attributes := #[] }, { accessFlags := 24, nameIndex := 49, descriptorIndex := 14, attributes := #[] }])
  fields := #[{ name := "startNanos", type := .long, accessFlags := 18, slot := 0, constantValue := 0 }, { name := "timeoutNanos", type := .long, accessFlags := 18, slot := 1, constantValue := 0 }, { name := "interruptible", type := .boolean, accessFlags := 18, slot := 2, constantValue := 0 }, { name := "NEVER", type := .long, accessFlags := 24, slot := 0, constantValue := 0 }]
  methods := #[k3m0, k3m1]
  instanceTypes := #[.long, .long, .boolean]
  staticTypes := #[.long]
  resolved := Array.replicate 86 none
  statics := none }

def pool4 : Array CpInfo := pool [(1, u "java/lang/Cloneable"), (0, .class_ 1), (0, u "java/lang/Object"), (0, .class_ 3)] 3

/-- java/lang/Cloneable -/
def k4 : Class := { plain "java/lang/Cloneable" (some 0) with
  accessFlags := 1537
  interfaces := #[]
  cf := some (fileOf pool4 2 #[] #[] 1537 4 #[] #[])
  fields := #[]
  methods := #[]
  instanceTypes := #[]
  staticTypes := #[]
  resolved := Array.replicate 8 none
  statics := none }

def pool5 : Array CpInfo := pool [(1, u "java/io/Serializable"), (0, .class_ 1), (0, u "java/lang/Object"), (0, .class_ 3)] 3

/-- java/io/Serializable -/
def k5 : Class := { plain "java/io/Serializable" (some 0) with
  accessFlags := 1537
  interfaces := #[]
  cf := some (fileOf pool5 2 #[] #[] 1537 4 #[] #[])
  fields := #[]
  methods := #[]
  instanceTypes := #[]
  staticTypes := #[]
  resolved := Array.replicate 8 none
  statics := none }

/-- the primitive byte -/
def k6 : Class := { plain "byte" none with kind := .primitive 'B', accessFlags := 0x411 }
/-- [B -/
def k7 : Class := { plain "[B" (some 0) with kind := .array 6 .byte, interfaces := #[4, 5], accessFlags := 1041 }

/-- the primitive int -/
def k8 : Class := { plain "int" none with kind := .primitive 'I', accessFlags := 0x411 }
/-- [I -/
def k9 : Class := { plain "[I" (some 0) with kind := .array 8 .int, interfaces := #[4, 5], accessFlags := 1041 }

def heap : Heap := #[]
def classes : Array Class := #[k0, k1, k2, k3, k4, k5, k6, k7, k8, k9]
def interned : List (Array UInt16 × Addr) := []
def slotsUsed : Nat := 0
def theMethod : MethodId := ⟨1, 2⟩
def args0 : Array Value := #[.long 5, .long 6, .int 7]
def aboutOver (below : List Frame) : State where
  vm := { classes := classes, interned := interned.toArray }
  heap := heap
  slotsUsed := slotsUsed
  threads := #[{ frames := .invoking theMethod args0 :: below }]
def below0 : List Frame := [.native { method := ⟨0, 0⟩, args := #[] }]
def about1 : State := aboutOver below0
def p0 : Program := .bare "" "" ""
def e0 : Env := launch0.env 0 0 0
theorem w_frames : about1.frames = Frame.invoking theMethod args0 :: below0 := rfl
set_option maxRecDepth 65536 in
theorem w_args : argsFit about1.vm theMethod args0 = true := by decide +kernel
set_option maxRecDepth 65536 in
theorem w_heap : heapFits about1 = true := by decide +kernel
set_option maxRecDepth 65536 in
theorem w_runnable : about1.curStatus? = some .runnable := by decide +kernel
set_option maxRecDepth 65536 in
theorem w_alone : about1.alone = true := by decide +kernel
set_option maxRecDepth 65536 in
theorem w_named : about1.methodNamed? x = some theMethod := by decide +kernel
set_option maxRecDepth 65536 in
theorem w_hears : about1.hears theMethod below0 = true := by decide +kernel
set_option maxRecDepth 65536 in
theorem w_ripe : about1.ripe theMethod args0 below0 = true := by decide +kernel
theorem w_running : about1.status = .running := rfl
set_option maxRecDepth 65536 in
theorem w_room : about1.hasRoom e0.platform room_1 = true :=
  launch0.hasRoom_least _ room_1 (by decide +kernel) (by decide +kernel) (by decide +kernel) (by decide +kernel) (by decide +kernel) (by decide +kernel)
theorem allAtoms_all (ts : List Jvm.Cond) (a : Array Jvm.Value) (st : Jvm.State) : (allAtoms ts).before a st = ts.all (fun c => c.before a st) := by
  induction ts with
  | nil => rfl
  | cons c t ih =>
    show (Jvm.Cond.and c (allAtoms t)).before a st = _
    rw [Jvm.Cond.before_and, ih, List.all_cons]
def words1 : List Jvm.Cond := Jvm.Cond.code x code maxLocals ret :: tables_1
/-- a 'code' word, met by the world's own term for the bytes: nothing is compared byte by byte -/
theorem code_word {y : MethodName} {bytes : ByteArray} {mx : Nat} {rt : Option FieldType} {a : Array Value} {s : State} {m : MethodId} {meth : Method} {c : Code} (h1 : s.methodNamed? y = some m) (h2 : s.vm.method? m = some meth) (h3 : meth.code = some c) (h4 : c.code = bytes)
    (h5 : (c.maxLocals == mx && c.exceptionTable.isEmpty && decide (c.maxStack ≤ mostOperands) && decide (meth.sig.returnType = rt) && !meth.locks && decide (parseMethodDescriptor y.desc = some meth.sig)) = true) : (Jvm.Cond.code y bytes mx rt).before a s = true := by
  simp only [Bool.and_eq_true, beq_iff_eq, Bool.not_eq_true', decide_eq_true_eq] at h5
  obtain ⟨⟨⟨⟨⟨g1, g2⟩, g3⟩, g4⟩, g5⟩, g6⟩ := h5
  simp [Cond.before, Cond.holds, Cond.value, h1, h2, h3, h4, g1, g2, g3, g4, g5, g6]
def isCode : Jvm.Cond → Bool
  | .code _ _ _ _ => true
  | _ => false
theorem all_split {L : List Jvm.Cond} {P : Jvm.Cond → Bool} (h1 : L.all (fun c => isCode c || P c) = true) (h2 : ∀ c ∈ L.filter isCode, P c = true) : L.all P = true := by
  refine List.all_eq_true.mpr fun c hc => ?_
  have h := List.all_eq_true.mp h1 c hc
  rcases Bool.eq_false_or_eq_true (isCode c) with hi | hi
  · exact h2 c (List.mem_filter.mpr ⟨hc, hi⟩)
  · simpa [hi] using h
set_option maxRecDepth 65536 in
theorem w_c0 : (Jvm.Cond.code x code maxLocals ret).before args0 about1 = true := code_word (m := ⟨1, 2⟩) (meth := k1m2) (c := k1c2) (by decide +kernel) rfl rfl rfl (by decide +kernel)
set_option maxRecDepth 65536 in
theorem w_c1 : (Jvm.Cond.code ({ cls := "com/example/careful_lock/carefullock/DeadlineIsNeverPinLaw", name := "pickTimeout", desc := "(JI)J" } : Jvm.MethodName) method_2_code (4 : Nat) (Option.some Jvm.ClassFile.FieldType.long)).before args0 about1 = true := code_word (m := ⟨1, 1⟩) (meth := k1m1) (c := k1c1) (by decide +kernel) rfl rfl rfl (by decide +kernel)
set_option maxRecDepth 65536 in
theorem w_c2 : (Jvm.Cond.code ({ cls := "com/example/careful_lock/carefullock/Deadline", name := "<init>", desc := "(JJZ)V" } : Jvm.MethodName) prog_3_method_1_code (6 : Nat) (Option.none : Option Jvm.ClassFile.FieldType)).before args0 about1 = true := code_word (m := ⟨3, 0⟩) (meth := k3m0) (c := k3c0) (by decide +kernel) rfl rfl rfl (by decide +kernel)
set_option maxRecDepth 65536 in
theorem w_c3 : (Jvm.Cond.code ({ cls := "java/lang/Record", name := "<init>", desc := "()V" } : Jvm.MethodName) jdk_30_method_1_code (1 : Nat) (Option.none : Option Jvm.ClassFile.FieldType)).before args0 about1 = true := code_word (m := ⟨2, 0⟩) (meth := k2m0) (c := k2c0) (by decide +kernel) rfl rfl rfl (by decide +kernel)
set_option maxRecDepth 65536 in
theorem w_c4 : (Jvm.Cond.code ({ cls := "java/lang/Object", name := "<init>", desc := "()V" } : Jvm.MethodName) object_method_1_code (1 : Nat) (Option.none : Option Jvm.ClassFile.FieldType)).before args0 about1 = true := code_word (m := ⟨0, 0⟩) (meth := k0m0) (c := k0c0) (by decide +kernel) rfl rfl rfl (by decide +kernel)
set_option maxRecDepth 65536 in
theorem w_c5 : (Jvm.Cond.code ({ cls := "com/example/careful_lock/carefullock/Deadline", name := "isNever", desc := "()Z" } : Jvm.MethodName) prog_3_method_5_code (1 : Nat) (Option.some Jvm.ClassFile.FieldType.boolean)).before args0 about1 = true := code_word (m := ⟨3, 1⟩) (meth := k3m1) (c := k3c1) (by decide +kernel) rfl rfl rfl (by decide +kernel)
def codes1 : List Jvm.Cond := [Jvm.Cond.code x code maxLocals ret, Jvm.Cond.code ({ cls := "com/example/careful_lock/carefullock/DeadlineIsNeverPinLaw", name := "pickTimeout", desc := "(JI)J" } : Jvm.MethodName) method_2_code (4 : Nat) (Option.some Jvm.ClassFile.FieldType.long), Jvm.Cond.code ({ cls := "com/example/careful_lock/carefullock/Deadline", name := "<init>", desc := "(JJZ)V" } : Jvm.MethodName) prog_3_method_1_code (6 : Nat) (Option.none : Option Jvm.ClassFile.FieldType), Jvm.Cond.code ({ cls := "java/lang/Record", name := "<init>", desc := "()V" } : Jvm.MethodName) jdk_30_method_1_code (1 : Nat) (Option.none : Option Jvm.ClassFile.FieldType), Jvm.Cond.code ({ cls := "java/lang/Object", name := "<init>", desc := "()V" } : Jvm.MethodName) object_method_1_code (1 : Nat) (Option.none : Option Jvm.ClassFile.FieldType), Jvm.Cond.code ({ cls := "com/example/careful_lock/carefullock/Deadline", name := "isNever", desc := "()Z" } : Jvm.MethodName) prog_3_method_5_code (1 : Nat) (Option.some Jvm.ClassFile.FieldType.boolean)]
set_option maxRecDepth 65536 in
theorem codes_eq : words1.filter isCode = codes1 := rfl
theorem w_codes : ∀ c ∈ words1.filter isCode, c.before args0 about1 = true := by
  rw [codes_eq]
  intro c hc
  simp only [codes1, List.mem_cons, List.not_mem_nil, or_false] at hc
  rcases hc with rfl | rfl | rfl | rfl | rfl | rfl
  · exact w_c0
  · exact w_c1
  · exact w_c2
  · exact w_c3
  · exact w_c4
  · exact w_c5
set_option maxRecDepth 65536 in
theorem w_t1 : (words1.take 24).all (fun c => isCode c || c.before args0 about1) = true := by decide +kernel
set_option maxRecDepth 65536 in
theorem w_t2 : (words1.drop 24).all (fun c => isCode c || c.before args0 about1) = true := by decide +kernel
theorem w_tables : (allAtoms (Jvm.Cond.code x code maxLocals ret :: tables_1)).before args0 about1 = true := by
  rw [allAtoms_all]
  show words1.all (fun c => c.before args0 about1) = true
  refine all_split ?_ w_codes
  rw [← List.take_append_drop 24 words1, List.all_append, w_t1, w_t2]
  rfl
set_option maxRecDepth 65536 in
theorem w_case : (Jvm.Cond.and given_1 narrow_1).before args0 about1 = true := by decide +kernel
theorem w_applies : (headSpec (Jvm.Cond.code x code maxLocals ret :: tables_1) room_1).applies x e0.platform about1 = true :=
  (Spec.applies_iff w_frames).mpr ⟨w_running, w_runnable, w_alone, w_named, w_hears, w_ripe, w_room, w_tables⟩
theorem atStart : AtStart classFile x code maxLocals ret World_1 tables_1 room_1 Calls_1 rest_1 Pre_1 launch0 p0 e0 about1 theMethod args0 below0 :=
  ⟨lists_1, trivial, launch0.admits_env _ _ _, launch0.least_env, fairChoices_fair.cas, fairChoices_fair.clock, w_frames, w_args, w_heap, w_applies, trivial, trivial, w_case⟩
end start1
theorem witness_1 : WitnessClaimed_1 := ⟨start1.p0, start1.e0, start1.about1, start1.theMethod, start1.args0, start1.below0, start1.atStart⟩
end Jvm.Pilot.@@N@@
