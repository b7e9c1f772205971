import JvmDerived
import JvmDerived.Pilot.@@N@@Statement
import JvmDerived.Pilot.@@N@@Code
set_option linter.unusedVariables false
set_option linter.unusedSimpArgs false
namespace Jvm.RoadKit
open Sem ClassFile Op Lib Jvm.Stand Jvm.Free Jvm.LawKit
section New
variable {p : Program} {l : Launch} {e : Env} {R : Room} {s : State} {m : MethodId} {args : Array Value} {below : List Frame} {meth : Method} {c : Code} {T : State} {locs : List Loc} {cells slots : Nat}
theorem retI (X : Stand p l e R s m args below meth c T locs cells slots) (hx : p.tables.exec = Jvm.exec) {pc : Nat} {Ls : Array Slot} {z : Int32} {rest : List Value} (hret : meth.sig.returnType = some .int) (hd : decode c.code pc = .ok (.ireturn, 1)) {fs : List Frame}
    (hl : ∀ (f : JFrame) (acts : List Action), f.method = m → f.locked = none → f.entered = [] → (doReturn e (T.setTop f) acts (some (.int z))).1 = T.setFrames fs) : Steps p.tables e below (T.setTop (mkF m pc Ls (.int z :: rest))) (T.setFrames fs) := by
  have hm' : T.vm.method? m = some meth := X.method'
  have hn : narrow .int (.int z) = .int z := rfl
  show Steps p.tables e below (T.setTop { method := m, pc := pc, locals := Ls, stack := _ :: rest, locked := none }) _
  jvm_step X.here [X.here.top, hx, hd, hm', hret, hn]
  first | (intro acts; rw [hl _ acts rfl rfl rfl]) | rw [hl _ _ rfl rfl rfl]
  exact Steps.refl _
theorem own_retL (X : Stand p l e R s m args below meth c T locs cells slots) (hx : p.tables.exec = Jvm.exec) {pc : Nat} {Ls : Array Slot} {z : Int64} {rest : List Value} (hret : meth.sig.returnType = some .long) (hd : decode c.code pc = .ok (.lreturn, 1)) {fs : List Frame}
    (hl : ∀ (f : JFrame) (acts : List Action), f.method = m → f.locked = none → f.entered = [] → (doReturn e (T.setTop f) acts (some (.long z))).1 = T.setFrames fs) : Steps p.tables e below (T.setTop (mkF m pc Ls (.long z :: rest))) (T.setFrames fs) :=
  retOut X hx hret rfl (Or.inr (Or.inl ⟨rfl, rfl, z, rfl⟩)) hd hl
/-- from the state T with the frame g on top the run comes to the invocation's end, returns v, and Q and the frame's bounds hold there -/
def own_Goes (p : Program) (e : Env) (below : List Frame) (s : State) (Q : Option Value → Heap → List Loc → Prop) (k n : Nat) (T : State) (g : JFrame) : Prop :=
  ∃ s₂ o, Steps p.tables e below (T.setTop g) s₂ ∧ s₂.status = .running ∧ Ended s₂ below o ∧ ∃ v L, o = .returned v ∧ Q v s₂.heap L ∧ FrameEnd s o s₂ L k n
theorem own_step {Q : Option Value → Heap → List Loc → Prop} {k n : Nat} {T T' : State} {g g' : JFrame} (h : ∀ t, Steps p.tables e below (T'.setTop g') t → Steps p.tables e below (T.setTop g) t) (w : own_Goes p e below s Q k n T' g') : own_Goes p e below s Q k n T g := by
  obtain ⟨s₂, o, h1, r⟩ := w
  exact ⟨s₂, o, h _ h1, r⟩
theorem own_ret {x : MethodName} {S : Spec} {code : ByteArray} {maxLocals : Nat} {ret : Option FieldType} {s₁ : State} (X : Stand p l e R s m args below meth c T locs cells slots) (Bd : BodyLoose p l x S code maxLocals ret e s m args below meth c s₁) {v : Option Value} (hv : meth.sig.returnType = none → v = none) {g : JFrame}
    (hst : ∀ fs, (∀ (f : JFrame) (acts : List Action), f.method = m → f.locked = none → f.entered = [] → (doReturn e (T.setTop f) acts v).1 = T.setFrames fs) → Steps p.tables e below (T.setTop g) (T.setFrames fs)) {Q : Option Value → Heap → List Loc → Prop} (hQ : Q v T.heap locs) {k n : Nat} (hk : cells ≤ k) (hn : slots ≤ n) : own_Goes p e below s Q k n T g := by
  obtain ⟨fs, hr, hrun, hended, hW, hsame⟩ := X.leave (v := v) hv
  exact ⟨_, _, hst fs hr, hrun, hended, _, _, rfl, hQ, ⟨_, rfl⟩, hW, hsame.mono hk hn⟩
/-- what a body leaves that writes nothing: the value r, the heap as it was -/
def own_Pure (r : Value) (h0 : Heap) (n0 : Nat) (v : Option Value) (h : Heap) (L : List Loc) : Prop := v = some r ∧ Fr n0 L ∧ h = h0
/-- what the law leaves -/
def own_Law (n0 : Nat) (v : Option Value) (_ : Heap) (L : List Loc) : Prop := v = some (.int 1) ∧ Fr n0 L
end New
theorem own_getD (ws : List Int32) (i : Nat) : (ws.map Value.int).getD i (.int (0 : Int32)) = .int (ws.getD i (0 : Int32)) := by
  induction ws generalizing i with
  | nil => rfl
  | cons a r ih => cases i with
    | zero => rfl
    | succ j => exact ih j
end Jvm.RoadKit
namespace Jvm.Pilot.@@N@@
open Jvm Jvm.ClassFile Sem Op Lib Jvm.Free Jvm.Stand Jvm.LawKit Jvm.RoadKit Bundle Jvm.Pilot.@@N@@.Jvm.D
theorem pd_0 : parseMethodDescriptor "(I)Z" = some ⟨[.int], some .boolean⟩ := by decide +kernel
theorem pd_1 : parseMethodDescriptor "(I)I" = some ⟨[.int], some .int⟩ := by decide +kernel
theorem d1_0 : decode prog_49_method_10_code 0 = .ok (.iload_n 0, 1) := by decide +kernel
theorem d1_1 : decode prog_49_method_10_code 1 = .ok (.bipush 32, 2) := by decide +kernel
theorem d1_3 : decode prog_49_method_10_code 3 = .ok (.if_icmp .eq 21, 3) := by decide +kernel
theorem d1_6 : decode prog_49_method_10_code 6 = .ok (.iload_n 0, 1) := by decide +kernel
theorem d1_7 : decode prog_49_method_10_code 7 = .ok (.bipush 9, 2) := by decide +kernel
theorem d1_9 : decode prog_49_method_10_code 9 = .ok (.if_icmp .eq 15, 3) := by decide +kernel
theorem d1_12 : decode prog_49_method_10_code 12 = .ok (.iload_n 0, 1) := by decide +kernel
theorem d1_13 : decode prog_49_method_10_code 13 = .ok (.bipush 13, 2) := by decide +kernel
theorem d1_15 : decode prog_49_method_10_code 15 = .ok (.if_icmp .eq 9, 3) := by decide +kernel
theorem d1_18 : decode prog_49_method_10_code 18 = .ok (.iload_n 0, 1) := by decide +kernel
theorem d1_19 : decode prog_49_method_10_code 19 = .ok (.bipush 10, 2) := by decide +kernel
theorem d1_21 : decode prog_49_method_10_code 21 = .ok (.if_icmp .ne 7, 3) := by decide +kernel
theorem d1_24 : decode prog_49_method_10_code 24 = .ok (.iconst 1, 1) := by decide +kernel
theorem d1_25 : decode prog_49_method_10_code 25 = .ok (.goto 4, 3) := by decide +kernel
theorem d1_28 : decode prog_49_method_10_code 28 = .ok (.iconst 0, 1) := by decide +kernel
theorem d1_29 : decode prog_49_method_10_code 29 = .ok (.ireturn, 1) := by decide +kernel
theorem pn_1 : plainName "com/example/willow_graft/willowgraft/tree/XmlNames" = true := by first | (simp [plainName, overriddenIn]; done) | decide +kernel
theorem ef_1 (m : MethodId) (x0 : Int32) : entryFrame m #[(.int x0)] 1 = mkF m 0 #[.val (.int x0)] [] := by first | (simp [entryFrame, mkF, argsToLocals, Value.category]; done) | rfl
def f1_29 (t0 : Int32) : Int32 := (t0 &&& 1)
def f1_28 : Int32 := f1_29 (0 : Int32)
def f1_24 : Int32 := f1_29 (1 : Int32)
def f1_18 (x0 : Int32) : Int32 := if x0 = (10 : Int32) then f1_24 else f1_28
def f1_12 (x0 : Int32) : Int32 := if x0 = (13 : Int32) then f1_24 else f1_18 x0
def f1_6 (x0 : Int32) : Int32 := if x0 = (9 : Int32) then f1_24 else f1_12 x0
def f1_0 (x0 : Int32) : Int32 := if x0 = (32 : Int32) then f1_24 else f1_6 x0
theorem d2_0 : decode method_2_code 0 = .ok (.iload_n 0, 1) := by decide +kernel
theorem d2_1 : decode method_2_code 1 = .ok (.ifCond .ne 6, 3) := by decide +kernel
theorem d2_4 : decode method_2_code 4 = .ok (.bipush 9, 2) := by decide +kernel
theorem d2_6 : decode method_2_code 6 = .ok (.ireturn, 1) := by decide +kernel
theorem d2_7 : decode method_2_code 7 = .ok (.iload_n 0, 1) := by decide +kernel
theorem d2_8 : decode method_2_code 8 = .ok (.iconst 1, 1) := by decide +kernel
theorem d2_9 : decode method_2_code 9 = .ok (.if_icmp .ne 6, 3) := by decide +kernel
theorem d2_12 : decode method_2_code 12 = .ok (.bipush 10, 2) := by decide +kernel
theorem d2_14 : decode method_2_code 14 = .ok (.ireturn, 1) := by decide +kernel
theorem d2_15 : decode method_2_code 15 = .ok (.iload_n 0, 1) := by decide +kernel
theorem d2_16 : decode method_2_code 16 = .ok (.iconst 2, 1) := by decide +kernel
theorem d2_17 : decode method_2_code 17 = .ok (.if_icmp .ne 6, 3) := by decide +kernel
theorem d2_20 : decode method_2_code 20 = .ok (.bipush 13, 2) := by decide +kernel
theorem d2_22 : decode method_2_code 22 = .ok (.ireturn, 1) := by decide +kernel
theorem d2_23 : decode method_2_code 23 = .ok (.bipush 32, 2) := by decide +kernel
theorem d2_25 : decode method_2_code 25 = .ok (.ireturn, 1) := by decide +kernel
theorem pn_2 : plainName "com/example/willow_graft/willowgraft/tree/XmlNamesIsWhitespacePinLaw" = true := by first | (simp [plainName, overriddenIn]; done) | decide +kernel
theorem ef_2 (m : MethodId) (x0 : Int32) : entryFrame m #[(.int x0)] 1 = mkF m 0 #[.val (.int x0)] [] := by first | (simp [entryFrame, mkF, argsToLocals, Value.category]; done) | rfl
def f2_23 : Int32 := (32 : Int32)
def f2_20 : Int32 := (13 : Int32)
def f2_15 (x0 : Int32) : Int32 := if x0 = (2 : Int32) then f2_20 else f2_23
def f2_12 : Int32 := (10 : Int32)
def f2_7 (x0 : Int32) : Int32 := if x0 = (1 : Int32) then f2_12 else f2_15 x0
def f2_4 : Int32 := (9 : Int32)
def f2_0 (x0 : Int32) : Int32 := if x0 = (0 : Int32) then f2_4 else f2_7 x0
theorem d3_0 : decode method_3_code 0 = .ok (.iload_n 0, 1) := by decide +kernel
theorem d3_1 : decode method_3_code 1 = .ok (.ifCond .ne 6, 3) := by decide +kernel
theorem d3_4 : decode method_3_code 4 = .ok (.bipush 8, 2) := by decide +kernel
theorem d3_6 : decode method_3_code 6 = .ok (.ireturn, 1) := by decide +kernel
theorem d3_7 : decode method_3_code 7 = .ok (.iload_n 0, 1) := by decide +kernel
theorem d3_8 : decode method_3_code 8 = .ok (.iconst 1, 1) := by decide +kernel
theorem d3_9 : decode method_3_code 9 = .ok (.if_icmp .ne 6, 3) := by decide +kernel
theorem d3_12 : decode method_3_code 12 = .ok (.bipush 11, 2) := by decide +kernel
theorem d3_14 : decode method_3_code 14 = .ok (.ireturn, 1) := by decide +kernel
theorem d3_15 : decode method_3_code 15 = .ok (.iload_n 0, 1) := by decide +kernel
theorem d3_16 : decode method_3_code 16 = .ok (.iconst 2, 1) := by decide +kernel
theorem d3_17 : decode method_3_code 17 = .ok (.if_icmp .ne 6, 3) := by decide +kernel
theorem d3_20 : decode method_3_code 20 = .ok (.bipush 12, 2) := by decide +kernel
theorem d3_22 : decode method_3_code 22 = .ok (.ireturn, 1) := by decide +kernel
theorem d3_23 : decode method_3_code 23 = .ok (.iload_n 0, 1) := by decide +kernel
theorem d3_24 : decode method_3_code 24 = .ok (.iconst 3, 1) := by decide +kernel
theorem d3_25 : decode method_3_code 25 = .ok (.if_icmp .ne 6, 3) := by decide +kernel
theorem d3_28 : decode method_3_code 28 = .ok (.bipush 14, 2) := by decide +kernel
theorem d3_30 : decode method_3_code 30 = .ok (.ireturn, 1) := by decide +kernel
theorem d3_31 : decode method_3_code 31 = .ok (.iload_n 0, 1) := by decide +kernel
theorem d3_32 : decode method_3_code 32 = .ok (.iconst 4, 1) := by decide +kernel
theorem d3_33 : decode method_3_code 33 = .ok (.if_icmp .ne 6, 3) := by decide +kernel
theorem d3_36 : decode method_3_code 36 = .ok (.bipush 31, 2) := by decide +kernel
theorem d3_38 : decode method_3_code 38 = .ok (.ireturn, 1) := by decide +kernel
theorem d3_39 : decode method_3_code 39 = .ok (.iload_n 0, 1) := by decide +kernel
theorem d3_40 : decode method_3_code 40 = .ok (.iconst 5, 1) := by decide +kernel
theorem d3_41 : decode method_3_code 41 = .ok (.if_icmp .ne 6, 3) := by decide +kernel
theorem d3_44 : decode method_3_code 44 = .ok (.bipush 33, 2) := by decide +kernel
theorem d3_46 : decode method_3_code 46 = .ok (.ireturn, 1) := by decide +kernel
theorem d3_47 : decode method_3_code 47 = .ok (.iload_n 0, 1) := by decide +kernel
theorem d3_48 : decode method_3_code 48 = .ok (.bipush 6, 2) := by decide +kernel
theorem d3_50 : decode method_3_code 50 = .ok (.if_icmp .ne 7, 3) := by decide +kernel
theorem d3_53 : decode method_3_code 53 = .ok (.sipush 133, 3) := by decide +kernel
theorem d3_56 : decode method_3_code 56 = .ok (.ireturn, 1) := by decide +kernel
theorem d3_57 : decode method_3_code 57 = .ok (.sipush 160, 3) := by decide +kernel
theorem d3_60 : decode method_3_code 60 = .ok (.ireturn, 1) := by decide +kernel
theorem pn_3 : plainName "com/example/willow_graft/willowgraft/tree/XmlNamesIsWhitespacePinLaw" = true := by first | (simp [plainName, overriddenIn]; done) | decide +kernel
theorem ef_3 (m : MethodId) (x0 : Int32) : entryFrame m #[(.int x0)] 1 = mkF m 0 #[.val (.int x0)] [] := by first | (simp [entryFrame, mkF, argsToLocals, Value.category]; done) | rfl
def f3_57 : Int32 := (160 : Int32)
def f3_53 : Int32 := (133 : Int32)
def f3_47 (x0 : Int32) : Int32 := if x0 = (6 : Int32) then f3_53 else f3_57
def f3_44 : Int32 := (33 : Int32)
def f3_39 (x0 : Int32) : Int32 := if x0 = (5 : Int32) then f3_44 else f3_47 x0
def f3_36 : Int32 := (31 : Int32)
def f3_31 (x0 : Int32) : Int32 := if x0 = (4 : Int32) then f3_36 else f3_39 x0
def f3_28 : Int32 := (14 : Int32)
def f3_23 (x0 : Int32) : Int32 := if x0 = (3 : Int32) then f3_28 else f3_31 x0
def f3_20 : Int32 := (12 : Int32)
def f3_15 (x0 : Int32) : Int32 := if x0 = (2 : Int32) then f3_20 else f3_23 x0
def f3_12 : Int32 := (11 : Int32)
def f3_7 (x0 : Int32) : Int32 := if x0 = (1 : Int32) then f3_12 else f3_15 x0
def f3_4 : Int32 := (8 : Int32)
def f3_0 (x0 : Int32) : Int32 := if x0 = (0 : Int32) then f3_4 else f3_7 x0
theorem pn_0 : plainName "com/example/willow_graft/willowgraft/tree/XmlNamesIsWhitespacePinLaw" = true := by first | (simp [plainName, overriddenIn]; done) | decide +kernel
theorem ef_0 (m : MethodId) (x0 : Int32) (x1 : Int32) : entryFrame m #[(.int x0), (.int x1)] maxLocals = mkF m 0 #[.val (.int x0), .val (.int x1), .unset, .unset, .unset, .unset] [] := by first | (simp [entryFrame, mkF, argsToLocals, Value.category, maxLocals]; done) | rfl
def f0_86 (t0 : Int32) : Int32 := (t0 &&& 1)
def f0_85 : Int32 := f0_86 (0 : Int32)
def f0_81 : Int32 := f0_86 (1 : Int32)
def f0_76 (x5 : Int32) : Int32 := if x5 = (0 : Int32) then f0_81 else f0_85
def f0_71 (x4 : Int32) (x5 : Int32) : Int32 := if x4 = (0 : Int32) then f0_85 else f0_76 x5
def f0_35 (x0 : Int32) (x1 : Int32) (t0 : Int32) : Int32 := if (f1_0 x0) = t0 then f0_71 (f1_0 (f2_0 (x1 &&& (3 : Int32)))) (f1_0 (f3_0 (((x1.toUInt32 >>> ((2 : Int32) &&& 31).toUInt32).toInt32) &&& (7 : Int32)))) else f0_85
def f0_34 (x0 : Int32) (x1 : Int32) : Int32 := f0_35 x0 x1 (0 : Int32)
def f0_30 (x0 : Int32) (x1 : Int32) : Int32 := f0_35 x0 x1 (1 : Int32)
def f0_24 (x0 : Int32) (x1 : Int32) : Int32 := if x0 = (12 : Int32) then f0_34 x0 x1 else f0_30 x0 x1
def f0_18 (x0 : Int32) (x1 : Int32) : Int32 := if x0 = (11 : Int32) then f0_34 x0 x1 else f0_24 x0 x1
def f0_12 (x0 : Int32) (x1 : Int32) : Int32 := if (13 : Int32) < x0 then f0_34 x0 x1 else f0_18 x0 x1
def f0_6 (x0 : Int32) (x1 : Int32) : Int32 := if x0 < (9 : Int32) then f0_34 x0 x1 else f0_12 x0 x1
def f0_0 (x0 : Int32) (x1 : Int32) : Int32 := if x0 = (32 : Int32) then f0_30 x0 x1 else f0_6 x0 x1
-- the plain law: no program in sight
theorem own_white (k : Int32) : f1_0 (f2_0 k) = 1 := by
  simp only [f2_0, f2_7, f2_15, f2_4, f2_12, f2_20, f2_23]
  repeat' split
  all_goals decide
theorem own_near (k : Int32) : f1_0 (f3_0 k) = 0 := by
  simp only [f3_0, f3_7, f3_15, f3_23, f3_31, f3_39, f3_47, f3_4, f3_12, f3_20, f3_28, f3_36, f3_44, f3_53, f3_57]
  repeat' split
  all_goals decide
theorem own_tail (c k t : Int32) : f0_35 c k t = if f1_0 c = t then 1 else 0 := by
  simp only [f0_35, own_white, own_near]
  rfl
theorem own_law (c k : Int32) : f0_0 c k = 1 := by
  simp only [f0_0, f0_6, f0_12, f0_18, f0_24, f0_30, f0_34, own_tail]
  by_cases h1 : c = 32
  · subst h1; decide
  by_cases h2 : c = 9
  · subst h2; decide
  by_cases h3 : c = 10
  · subst h3; decide
  by_cases h4 : c = 13
  · subst h4; decide
  have e : f1_0 c = 0 := by
    simp only [f1_0, f1_6, f1_12, f1_18, if_neg h1, if_neg h2, if_neg h3, if_neg h4]
    decide
  have t1 : (if (0 : Int32) = 1 then (1 : Int32) else 0) = 0 := by decide
  have t0 : (if (0 : Int32) = 0 then (1 : Int32) else 0) = 1 := by decide
  rw [e, t1, t0, if_neg h1]
  simp only [Int32.lt_iff_toInt_lt, ← Int32.toInt_inj, Int32.reduceToInt] at *
  repeat' split
  all_goals first
    | rfl
    | (exfalso; omega)
-- the walks
set_option maxRecDepth 65536 in
set_option maxHeartbeats 40000000 in
theorem rm1 (l : Launch) (Z : State) (a0 : Array Value) (hw : ∀ d ∈ tables_1, d.before a0 Z = true) (ws : List Jvm.Cond) (p0 : Int32) (h0 : Heap) (n0 : Nat) (Z0 : n0 ≤ h0.size) :
    MetFree l (⟨"com/example/willow_graft/willowgraft/tree/XmlNames", "isWhitespace", "(I)Z"⟩ : MethodName) (head1 (Jvm.Cond.code (⟨"com/example/willow_graft/willowgraft/tree/XmlNames", "isWhitespace", "(I)Z"⟩ : MethodName) prog_49_method_10_code 1 (some .boolean) :: ws) ({ frames := 0, cells := 0, slots := 0, locals := 0 } : Room)) (fun a U => a = #[(.int p0)] ∧ Z.Warmed39 U.vm ∧ U.heap = h0) (fun _ _ _ _ _ => True) (fun _ U o U' => ∃ v L, o = .returned v ∧ own_Pure ((.int (f1_0 p0))) h0 n0 v U'.heap L ∧ FrameEnd U o U' L ({ frames := 0, cells := 0, slots := 0, locals := 0 } : Room).cells ({ frames := 0, cells := 0, slots := 0, locals := 0 } : Room).slots) := by
  refine MetFree.of_bodySF (plainFor_of_name pn_1) hisR ?_
  intro p e s m args below meth c s₁ Bd hml0 hP hK
  obtain ⟨rfl, hZ, hh0⟩ := hP
  have hx := Bd.exec
  have hby := Bd.bytes
  have hml : c.maxLocals = 1 := hml0
  have hown : s.vm.findClass "com/example/willow_graft/willowgraft/tree/XmlNames" = some m.cls := findClass_of_methodNamed Bd.named
  have X00 : Stand p l e ({ frames := 0, cells := 0, slots := 0, locals := 0 } : Room) s m #[(.int p0)] below meth c s₁ [] 0 0 := Stand.of_body Bd
  have e00 : s₁.heap = h0 := by rw [← hh0, Bd.state]; rfl
  have B29 : ∀ (T0 : State) (locs : List Loc) (x0 : Int32) (t0 : Int32), Stand p l e ({ frames := 0, cells := 0, slots := 0, locals := 0 } : Room) s m #[(.int p0)] below meth c T0 locs 0 0 → T0.heap = h0 → Fr n0 locs → f1_29 t0 = f1_0 p0 → own_Goes p e below s (own_Pure ((.int (f1_0 p0))) h0 n0) ({ frames := 0, cells := 0, slots := 0, locals := 0 } : Room).cells ({ frames := 0, cells := 0, slots := 0, locals := 0 } : Room).slots T0 (mkF m 29 #[.val (.int x0)] [(.int t0)]) := by
    intro T0 locs x0 t0   X0 e0 N0 hf
    exact own_ret X0 Bd (v := some (.int (t0 &&& 1))) (fun q => by rw [Bd.returns] at q; cases q) (fun fs q => retN X0 hx (t := .boolean) Bd.returns (by simp) (hb hby d1_29) q) (show own_Pure ((.int (f1_0 p0))) h0 n0 _ _ _ from ⟨congrArg (fun z => some (Value.int z)) hf, N0, e0⟩) (by decide) (by decide)
  have B28 : ∀ (T0 : State) (locs : List Loc) (x0 : Int32), Stand p l e ({ frames := 0, cells := 0, slots := 0, locals := 0 } : Room) s m #[(.int p0)] below meth c T0 locs 0 0 → T0.heap = h0 → Fr n0 locs → f1_28 = f1_0 p0 → own_Goes p e below s (own_Pure ((.int (f1_0 p0))) h0 n0) ({ frames := 0, cells := 0, slots := 0, locals := 0 } : Room).cells ({ frames := 0, cells := 0, slots := 0, locals := 0 } : Room).slots T0 (mkF m 28 #[.val (.int x0)] []) := by
    intro T0 locs x0   X0 e0 N0 hf
    refine own_step (T' := T0) (g' := (mkF m 29 #[.val (.int x0)] [(.int (0 : Int32))])) (fun _ k => XS.iconst X0.here hx rfl (hb hby d1_28) k) ?_
    exact B29 T0 _ x0 (0 : Int32)   X0 e0 N0 hf
  have B24 : ∀ (T0 : State) (locs : List Loc) (x0 : Int32), Stand p l e ({ frames := 0, cells := 0, slots := 0, locals := 0 } : Room) s m #[(.int p0)] below meth c T0 locs 0 0 → T0.heap = h0 → Fr n0 locs → f1_24 = f1_0 p0 → own_Goes p e below s (own_Pure ((.int (f1_0 p0))) h0 n0) ({ frames := 0, cells := 0, slots := 0, locals := 0 } : Room).cells ({ frames := 0, cells := 0, slots := 0, locals := 0 } : Room).slots T0 (mkF m 24 #[.val (.int x0)] []) := by
    intro T0 locs x0   X0 e0 N0 hf
    refine own_step (T' := T0) (g' := (mkF m 25 #[.val (.int x0)] [(.int (1 : Int32))])) (fun _ k => XS.iconst X0.here hx rfl (hb hby d1_24) k) ?_
    refine own_step (T' := T0) (g' := (mkF m 29 #[.val (.int x0)] [(.int (1 : Int32))])) (fun _ k => XS.goto X0.here hx rfl (pc0 := 25) (pc' := 29) rfl (hb hby d1_25) (by decide) (by decide) k) ?_
    exact B29 T0 _ x0 (1 : Int32)   X0 e0 N0 hf
  have B18 : ∀ (T0 : State) (locs : List Loc) (x0 : Int32), Stand p l e ({ frames := 0, cells := 0, slots := 0, locals := 0 } : Room) s m #[(.int p0)] below meth c T0 locs 0 0 → T0.heap = h0 → Fr n0 locs → f1_18 x0 = f1_0 p0 → own_Goes p e below s (own_Pure ((.int (f1_0 p0))) h0 n0) ({ frames := 0, cells := 0, slots := 0, locals := 0 } : Room).cells ({ frames := 0, cells := 0, slots := 0, locals := 0 } : Room).slots T0 (mkF m 18 #[.val (.int x0)] []) := by
    intro T0 locs x0   X0 e0 N0 hf
    refine own_step (T' := T0) (g' := (mkF m 19 #[.val (.int x0)] [(.int x0)])) (fun _ k => XS.iloadN X0.here hx rfl (hb hby d1_18) rfl k) ?_
    refine own_step (T' := T0) (g' := (mkF m 21 #[.val (.int x0)] [(.int (10 : Int32)), (.int x0)])) (fun _ k => XS.bipush X0.here hx rfl (hb hby d1_19) k) ?_
    by_cases hc : x0 = (10 : Int32)
    · refine own_step (T' := T0) (g' := (mkF m 24 #[.val (.int x0)] [])) (fun _ k => XS.icmpNo X0.here hx rfl (hb hby d1_21) rfl (teq hc).2 k) ?_
      exact B24 T0 _ x0   X0 e0 N0 ((if_pos hc).symm.trans hf)
    · refine own_step (T' := T0) (g' := (mkF m 28 #[.val (.int x0)] [])) (fun _ k => XS.icmpYes X0.here hx rfl (pc0 := 21) (pc' := 28) rfl (hb hby d1_21) rfl (feq hc).2 (by decide) (by decide) k) ?_
      exact B28 T0 _ x0   X0 e0 N0 ((if_neg hc).symm.trans hf)
  have B12 : ∀ (T0 : State) (locs : List Loc) (x0 : Int32), Stand p l e ({ frames := 0, cells := 0, slots := 0, locals := 0 } : Room) s m #[(.int p0)] below meth c T0 locs 0 0 → T0.heap = h0 → Fr n0 locs → f1_12 x0 = f1_0 p0 → own_Goes p e below s (own_Pure ((.int (f1_0 p0))) h0 n0) ({ frames := 0, cells := 0, slots := 0, locals := 0 } : Room).cells ({ frames := 0, cells := 0, slots := 0, locals := 0 } : Room).slots T0 (mkF m 12 #[.val (.int x0)] []) := by
    intro T0 locs x0   X0 e0 N0 hf
    refine own_step (T' := T0) (g' := (mkF m 13 #[.val (.int x0)] [(.int x0)])) (fun _ k => XS.iloadN X0.here hx rfl (hb hby d1_12) rfl k) ?_
    refine own_step (T' := T0) (g' := (mkF m 15 #[.val (.int x0)] [(.int (13 : Int32)), (.int x0)])) (fun _ k => XS.bipush X0.here hx rfl (hb hby d1_13) k) ?_
    by_cases hc : x0 = (13 : Int32)
    · refine own_step (T' := T0) (g' := (mkF m 24 #[.val (.int x0)] [])) (fun _ k => XS.icmpYes X0.here hx rfl (pc0 := 15) (pc' := 24) rfl (hb hby d1_15) rfl (teq hc).1 (by decide) (by decide) k) ?_
      exact B24 T0 _ x0   X0 e0 N0 ((if_pos hc).symm.trans hf)
    · refine own_step (T' := T0) (g' := (mkF m 18 #[.val (.int x0)] [])) (fun _ k => XS.icmpNo X0.here hx rfl (hb hby d1_15) rfl (feq hc).1 k) ?_
      exact B18 T0 _ x0   X0 e0 N0 ((if_neg hc).symm.trans hf)
  have B6 : ∀ (T0 : State) (locs : List Loc) (x0 : Int32), Stand p l e ({ frames := 0, cells := 0, slots := 0, locals := 0 } : Room) s m #[(.int p0)] below meth c T0 locs 0 0 → T0.heap = h0 → Fr n0 locs → f1_6 x0 = f1_0 p0 → own_Goes p e below s (own_Pure ((.int (f1_0 p0))) h0 n0) ({ frames := 0, cells := 0, slots := 0, locals := 0 } : Room).cells ({ frames := 0, cells := 0, slots := 0, locals := 0 } : Room).slots T0 (mkF m 6 #[.val (.int x0)] []) := by
    intro T0 locs x0   X0 e0 N0 hf
    refine own_step (T' := T0) (g' := (mkF m 7 #[.val (.int x0)] [(.int x0)])) (fun _ k => XS.iloadN X0.here hx rfl (hb hby d1_6) rfl k) ?_
    refine own_step (T' := T0) (g' := (mkF m 9 #[.val (.int x0)] [(.int (9 : Int32)), (.int x0)])) (fun _ k => XS.bipush X0.here hx rfl (hb hby d1_7) k) ?_
    by_cases hc : x0 = (9 : Int32)
    · refine own_step (T' := T0) (g' := (mkF m 24 #[.val (.int x0)] [])) (fun _ k => XS.icmpYes X0.here hx rfl (pc0 := 9) (pc' := 24) rfl (hb hby d1_9) rfl (teq hc).1 (by decide) (by decide) k) ?_
      exact B24 T0 _ x0   X0 e0 N0 ((if_pos hc).symm.trans hf)
    · refine own_step (T' := T0) (g' := (mkF m 12 #[.val (.int x0)] [])) (fun _ k => XS.icmpNo X0.here hx rfl (hb hby d1_9) rfl (feq hc).1 k) ?_
      exact B12 T0 _ x0   X0 e0 N0 ((if_neg hc).symm.trans hf)
  have B0 : ∀ (T0 : State) (locs : List Loc) (x0 : Int32), Stand p l e ({ frames := 0, cells := 0, slots := 0, locals := 0 } : Room) s m #[(.int p0)] below meth c T0 locs 0 0 → T0.heap = h0 → Fr n0 locs → f1_0 x0 = f1_0 p0 → own_Goes p e below s (own_Pure ((.int (f1_0 p0))) h0 n0) ({ frames := 0, cells := 0, slots := 0, locals := 0 } : Room).cells ({ frames := 0, cells := 0, slots := 0, locals := 0 } : Room).slots T0 (mkF m 0 #[.val (.int x0)] []) := by
    intro T0 locs x0   X0 e0 N0 hf
    refine own_step (T' := T0) (g' := (mkF m 1 #[.val (.int x0)] [(.int x0)])) (fun _ k => XS.iloadN X0.here hx rfl (hb hby d1_0) rfl k) ?_
    refine own_step (T' := T0) (g' := (mkF m 3 #[.val (.int x0)] [(.int (32 : Int32)), (.int x0)])) (fun _ k => XS.bipush X0.here hx rfl (hb hby d1_1) k) ?_
    by_cases hc : x0 = (32 : Int32)
    · refine own_step (T' := T0) (g' := (mkF m 24 #[.val (.int x0)] [])) (fun _ k => XS.icmpYes X0.here hx rfl (pc0 := 3) (pc' := 24) rfl (hb hby d1_3) rfl (teq hc).1 (by decide) (by decide) k) ?_
      exact B24 T0 _ x0   X0 e0 N0 ((if_pos hc).symm.trans hf)
    · refine own_step (T' := T0) (g' := (mkF m 6 #[.val (.int x0)] [])) (fun _ k => XS.icmpNo X0.here hx rfl (hb hby d1_3) rfl (feq hc).1 k) ?_
      exact B6 T0 _ x0   X0 e0 N0 ((if_neg hc).symm.trans hf)
  have hB := B0 s₁ [] p0  X00 e00 (Fr.nil n0) rfl
  obtain ⟨s₂, o, q1, q2, q3, v, L, q4, q5, q6⟩ := hB
  exact ⟨s₂, o, castTop (ef_1 m p0) q1, q2, q3, v, L, q4, q5, q6⟩
set_option maxRecDepth 65536 in
set_option maxHeartbeats 40000000 in
theorem rm2 (l : Launch) (Z : State) (a0 : Array Value) (hw : ∀ d ∈ tables_1, d.before a0 Z = true) (ws : List Jvm.Cond) (p0 : Int32) (h0 : Heap) (n0 : Nat) (Z0 : n0 ≤ h0.size) :
    MetFree l (⟨"com/example/willow_graft/willowgraft/tree/XmlNamesIsWhitespacePinLaw", "white", "(I)I"⟩ : MethodName) (head1 (Jvm.Cond.code (⟨"com/example/willow_graft/willowgraft/tree/XmlNamesIsWhitespacePinLaw", "white", "(I)I"⟩ : MethodName) method_2_code 1 (some .int) :: ws) ({ frames := 0, cells := 0, slots := 0, locals := 0 } : Room)) (fun a U => a = #[(.int p0)] ∧ Z.Warmed39 U.vm ∧ U.heap = h0) (fun _ _ _ _ _ => True) (fun _ U o U' => ∃ v L, o = .returned v ∧ own_Pure ((.int (f2_0 p0))) h0 n0 v U'.heap L ∧ FrameEnd U o U' L ({ frames := 0, cells := 0, slots := 0, locals := 0 } : Room).cells ({ frames := 0, cells := 0, slots := 0, locals := 0 } : Room).slots) := by
  refine MetFree.of_bodySF (plainFor_of_name pn_2) hisR ?_
  intro p e s m args below meth c s₁ Bd hml0 hP hK
  obtain ⟨rfl, hZ, hh0⟩ := hP
  have hx := Bd.exec
  have hby := Bd.bytes
  have hml : c.maxLocals = 1 := hml0
  have hown : s.vm.findClass "com/example/willow_graft/willowgraft/tree/XmlNamesIsWhitespacePinLaw" = some m.cls := findClass_of_methodNamed Bd.named
  have X00 : Stand p l e ({ frames := 0, cells := 0, slots := 0, locals := 0 } : Room) s m #[(.int p0)] below meth c s₁ [] 0 0 := Stand.of_body Bd
  have e00 : s₁.heap = h0 := by rw [← hh0, Bd.state]; rfl
  have B23 : ∀ (T0 : State) (locs : List Loc) (x0 : Int32), Stand p l e ({ frames := 0, cells := 0, slots := 0, locals := 0 } : Room) s m #[(.int p0)] below meth c T0 locs 0 0 → T0.heap = h0 → Fr n0 locs → f2_23 = f2_0 p0 → own_Goes p e below s (own_Pure ((.int (f2_0 p0))) h0 n0) ({ frames := 0, cells := 0, slots := 0, locals := 0 } : Room).cells ({ frames := 0, cells := 0, slots := 0, locals := 0 } : Room).slots T0 (mkF m 23 #[.val (.int x0)] []) := by
    intro T0 locs x0   X0 e0 N0 hf
    refine own_step (T' := T0) (g' := (mkF m 25 #[.val (.int x0)] [(.int (32 : Int32))])) (fun _ k => XS.bipush X0.here hx rfl (hb hby d2_23) k) ?_
    exact own_ret X0 Bd (v := some (.int (32 : Int32))) (fun q => by rw [Bd.returns] at q; cases q) (fun fs q => retI X0 hx Bd.returns (hb hby d2_25) q) (show own_Pure ((.int (f2_0 p0))) h0 n0 _ _ _ from ⟨congrArg (fun z => some (Value.int z)) hf, N0, e0⟩) (by decide) (by decide)
  have B20 : ∀ (T0 : State) (locs : List Loc) (x0 : Int32), Stand p l e ({ frames := 0, cells := 0, slots := 0, locals := 0 } : Room) s m #[(.int p0)] below meth c T0 locs 0 0 → T0.heap = h0 → Fr n0 locs → f2_20 = f2_0 p0 → own_Goes p e below s (own_Pure ((.int (f2_0 p0))) h0 n0) ({ frames := 0, cells := 0, slots := 0, locals := 0 } : Room).cells ({ frames := 0, cells := 0, slots := 0, locals := 0 } : Room).slots T0 (mkF m 20 #[.val (.int x0)] []) := by
    intro T0 locs x0   X0 e0 N0 hf
    refine own_step (T' := T0) (g' := (mkF m 22 #[.val (.int x0)] [(.int (13 : Int32))])) (fun _ k => XS.bipush X0.here hx rfl (hb hby d2_20) k) ?_
    exact own_ret X0 Bd (v := some (.int (13 : Int32))) (fun q => by rw [Bd.returns] at q; cases q) (fun fs q => retI X0 hx Bd.returns (hb hby d2_22) q) (show own_Pure ((.int (f2_0 p0))) h0 n0 _ _ _ from ⟨congrArg (fun z => some (Value.int z)) hf, N0, e0⟩) (by decide) (by decide)
  have B15 : ∀ (T0 : State) (locs : List Loc) (x0 : Int32), Stand p l e ({ frames := 0, cells := 0, slots := 0, locals := 0 } : Room) s m #[(.int p0)] below meth c T0 locs 0 0 → T0.heap = h0 → Fr n0 locs → f2_15 x0 = f2_0 p0 → own_Goes p e below s (own_Pure ((.int (f2_0 p0))) h0 n0) ({ frames := 0, cells := 0, slots := 0, locals := 0 } : Room).cells ({ frames := 0, cells := 0, slots := 0, locals := 0 } : Room).slots T0 (mkF m 15 #[.val (.int x0)] []) := by
    intro T0 locs x0   X0 e0 N0 hf
    refine own_step (T' := T0) (g' := (mkF m 16 #[.val (.int x0)] [(.int x0)])) (fun _ k => XS.iloadN X0.here hx rfl (hb hby d2_15) rfl k) ?_
    refine own_step (T' := T0) (g' := (mkF m 17 #[.val (.int x0)] [(.int (2 : Int32)), (.int x0)])) (fun _ k => XS.iconst X0.here hx rfl (hb hby d2_16) k) ?_
    by_cases hc : x0 = (2 : Int32)
    · refine own_step (T' := T0) (g' := (mkF m 20 #[.val (.int x0)] [])) (fun _ k => XS.icmpNo X0.here hx rfl (hb hby d2_17) rfl (teq hc).2 k) ?_
      exact B20 T0 _ x0   X0 e0 N0 ((if_pos hc).symm.trans hf)
    · refine own_step (T' := T0) (g' := (mkF m 23 #[.val (.int x0)] [])) (fun _ k => XS.icmpYes X0.here hx rfl (pc0 := 17) (pc' := 23) rfl (hb hby d2_17) rfl (feq hc).2 (by decide) (by decide) k) ?_
      exact B23 T0 _ x0   X0 e0 N0 ((if_neg hc).symm.trans hf)
  have B12 : ∀ (T0 : State) (locs : List Loc) (x0 : Int32), Stand p l e ({ frames := 0, cells := 0, slots := 0, locals := 0 } : Room) s m #[(.int p0)] below meth c T0 locs 0 0 → T0.heap = h0 → Fr n0 locs → f2_12 = f2_0 p0 → own_Goes p e below s (own_Pure ((.int (f2_0 p0))) h0 n0) ({ frames := 0, cells := 0, slots := 0, locals := 0 } : Room).cells ({ frames := 0, cells := 0, slots := 0, locals := 0 } : Room).slots T0 (mkF m 12 #[.val (.int x0)] []) := by
    intro T0 locs x0   X0 e0 N0 hf
    refine own_step (T' := T0) (g' := (mkF m 14 #[.val (.int x0)] [(.int (10 : Int32))])) (fun _ k => XS.bipush X0.here hx rfl (hb hby d2_12) k) ?_
    exact own_ret X0 Bd (v := some (.int (10 : Int32))) (fun q => by rw [Bd.returns] at q; cases q) (fun fs q => retI X0 hx Bd.returns (hb hby d2_14) q) (show own_Pure ((.int (f2_0 p0))) h0 n0 _ _ _ from ⟨congrArg (fun z => some (Value.int z)) hf, N0, e0⟩) (by decide) (by decide)
  have B7 : ∀ (T0 : State) (locs : List Loc) (x0 : Int32), Stand p l e ({ frames := 0, cells := 0, slots := 0, locals := 0 } : Room) s m #[(.int p0)] below meth c T0 locs 0 0 → T0.heap = h0 → Fr n0 locs → f2_7 x0 = f2_0 p0 → own_Goes p e below s (own_Pure ((.int (f2_0 p0))) h0 n0) ({ frames := 0, cells := 0, slots := 0, locals := 0 } : Room).cells ({ frames := 0, cells := 0, slots := 0, locals := 0 } : Room).slots T0 (mkF m 7 #[.val (.int x0)] []) := by
    intro T0 locs x0   X0 e0 N0 hf
    refine own_step (T' := T0) (g' := (mkF m 8 #[.val (.int x0)] [(.int x0)])) (fun _ k => XS.iloadN X0.here hx rfl (hb hby d2_7) rfl k) ?_
    refine own_step (T' := T0) (g' := (mkF m 9 #[.val (.int x0)] [(.int (1 : Int32)), (.int x0)])) (fun _ k => XS.iconst X0.here hx rfl (hb hby d2_8) k) ?_
    by_cases hc : x0 = (1 : Int32)
    · refine own_step (T' := T0) (g' := (mkF m 12 #[.val (.int x0)] [])) (fun _ k => XS.icmpNo X0.here hx rfl (hb hby d2_9) rfl (teq hc).2 k) ?_
      exact B12 T0 _ x0   X0 e0 N0 ((if_pos hc).symm.trans hf)
    · refine own_step (T' := T0) (g' := (mkF m 15 #[.val (.int x0)] [])) (fun _ k => XS.icmpYes X0.here hx rfl (pc0 := 9) (pc' := 15) rfl (hb hby d2_9) rfl (feq hc).2 (by decide) (by decide) k) ?_
      exact B15 T0 _ x0   X0 e0 N0 ((if_neg hc).symm.trans hf)
  have B4 : ∀ (T0 : State) (locs : List Loc) (x0 : Int32), Stand p l e ({ frames := 0, cells := 0, slots := 0, locals := 0 } : Room) s m #[(.int p0)] below meth c T0 locs 0 0 → T0.heap = h0 → Fr n0 locs → f2_4 = f2_0 p0 → own_Goes p e below s (own_Pure ((.int (f2_0 p0))) h0 n0) ({ frames := 0, cells := 0, slots := 0, locals := 0 } : Room).cells ({ frames := 0, cells := 0, slots := 0, locals := 0 } : Room).slots T0 (mkF m 4 #[.val (.int x0)] []) := by
    intro T0 locs x0   X0 e0 N0 hf
    refine own_step (T' := T0) (g' := (mkF m 6 #[.val (.int x0)] [(.int (9 : Int32))])) (fun _ k => XS.bipush X0.here hx rfl (hb hby d2_4) k) ?_
    exact own_ret X0 Bd (v := some (.int (9 : Int32))) (fun q => by rw [Bd.returns] at q; cases q) (fun fs q => retI X0 hx Bd.returns (hb hby d2_6) q) (show own_Pure ((.int (f2_0 p0))) h0 n0 _ _ _ from ⟨congrArg (fun z => some (Value.int z)) hf, N0, e0⟩) (by decide) (by decide)
  have B0 : ∀ (T0 : State) (locs : List Loc) (x0 : Int32), Stand p l e ({ frames := 0, cells := 0, slots := 0, locals := 0 } : Room) s m #[(.int p0)] below meth c T0 locs 0 0 → T0.heap = h0 → Fr n0 locs → f2_0 x0 = f2_0 p0 → own_Goes p e below s (own_Pure ((.int (f2_0 p0))) h0 n0) ({ frames := 0, cells := 0, slots := 0, locals := 0 } : Room).cells ({ frames := 0, cells := 0, slots := 0, locals := 0 } : Room).slots T0 (mkF m 0 #[.val (.int x0)] []) := by
    intro T0 locs x0   X0 e0 N0 hf
    refine own_step (T' := T0) (g' := (mkF m 1 #[.val (.int x0)] [(.int x0)])) (fun _ k => XS.iloadN X0.here hx rfl (hb hby d2_0) rfl k) ?_
    by_cases hc : x0 = (0 : Int32)
    · refine own_step (T' := T0) (g' := (mkF m 4 #[.val (.int x0)] [])) (fun _ k => XS.ifNo X0.here hx rfl (hb hby d2_1) rfl ((if0 _ _).trans (teq hc).2) k) ?_
      exact B4 T0 _ x0   X0 e0 N0 ((if_pos hc).symm.trans hf)
    · refine own_step (T' := T0) (g' := (mkF m 7 #[.val (.int x0)] [])) (fun _ k => XS.ifYes X0.here hx rfl (pc0 := 1) (pc' := 7) rfl (hb hby d2_1) rfl ((if0 _ _).trans (feq hc).2) (by decide) (by decide) k) ?_
      exact B7 T0 _ x0   X0 e0 N0 ((if_neg hc).symm.trans hf)
  have hB := B0 s₁ [] p0  X00 e00 (Fr.nil n0) rfl
  obtain ⟨s₂, o, q1, q2, q3, v, L, q4, q5, q6⟩ := hB
  exact ⟨s₂, o, castTop (ef_2 m p0) q1, q2, q3, v, L, q4, q5, q6⟩
set_option maxRecDepth 65536 in
set_option maxHeartbeats 40000000 in
theorem rm3 (l : Launch) (Z : State) (a0 : Array Value) (hw : ∀ d ∈ tables_1, d.before a0 Z = true) (ws : List Jvm.Cond) (p0 : Int32) (h0 : Heap) (n0 : Nat) (Z0 : n0 ≤ h0.size) :
    MetFree l (⟨"com/example/willow_graft/willowgraft/tree/XmlNamesIsWhitespacePinLaw", "near", "(I)I"⟩ : MethodName) (head1 (Jvm.Cond.code (⟨"com/example/willow_graft/willowgraft/tree/XmlNamesIsWhitespacePinLaw", "near", "(I)I"⟩ : MethodName) method_3_code 1 (some .int) :: ws) ({ frames := 0, cells := 0, slots := 0, locals := 0 } : Room)) (fun a U => a = #[(.int p0)] ∧ Z.Warmed39 U.vm ∧ U.heap = h0) (fun _ _ _ _ _ => True) (fun _ U o U' => ∃ v L, o = .returned v ∧ own_Pure ((.int (f3_0 p0))) h0 n0 v U'.heap L ∧ FrameEnd U o U' L ({ frames := 0, cells := 0, slots := 0, locals := 0 } : Room).cells ({ frames := 0, cells := 0, slots := 0, locals := 0 } : Room).slots) := by
  refine MetFree.of_bodySF (plainFor_of_name pn_3) hisR ?_
  intro p e s m args below meth c s₁ Bd hml0 hP hK
  obtain ⟨rfl, hZ, hh0⟩ := hP
  have hx := Bd.exec
  have hby := Bd.bytes
  have hml : c.maxLocals = 1 := hml0
  have hown : s.vm.findClass "com/example/willow_graft/willowgraft/tree/XmlNamesIsWhitespacePinLaw" = some m.cls := findClass_of_methodNamed Bd.named
  have X00 : Stand p l e ({ frames := 0, cells := 0, slots := 0, locals := 0 } : Room) s m #[(.int p0)] below meth c s₁ [] 0 0 := Stand.of_body Bd
  have e00 : s₁.heap = h0 := by rw [← hh0, Bd.state]; rfl
  have B57 : ∀ (T0 : State) (locs : List Loc) (x0 : Int32), Stand p l e ({ frames := 0, cells := 0, slots := 0, locals := 0 } : Room) s m #[(.int p0)] below meth c T0 locs 0 0 → T0.heap = h0 → Fr n0 locs → f3_57 = f3_0 p0 → own_Goes p e below s (own_Pure ((.int (f3_0 p0))) h0 n0) ({ frames := 0, cells := 0, slots := 0, locals := 0 } : Room).cells ({ frames := 0, cells := 0, slots := 0, locals := 0 } : Room).slots T0 (mkF m 57 #[.val (.int x0)] []) := by
    intro T0 locs x0   X0 e0 N0 hf
    refine own_step (T' := T0) (g' := (mkF m 60 #[.val (.int x0)] [(.int (160 : Int32))])) (fun _ k => XS.sipush X0.here hx rfl (hb hby d3_57) k) ?_
    exact own_ret X0 Bd (v := some (.int (160 : Int32))) (fun q => by rw [Bd.returns] at q; cases q) (fun fs q => retI X0 hx Bd.returns (hb hby d3_60) q) (show own_Pure ((.int (f3_0 p0))) h0 n0 _ _ _ from ⟨congrArg (fun z => some (Value.int z)) hf, N0, e0⟩) (by decide) (by decide)
  have B53 : ∀ (T0 : State) (locs : List Loc) (x0 : Int32), Stand p l e ({ frames := 0, cells := 0, slots := 0, locals := 0 } : Room) s m #[(.int p0)] below meth c T0 locs 0 0 → T0.heap = h0 → Fr n0 locs → f3_53 = f3_0 p0 → own_Goes p e below s (own_Pure ((.int (f3_0 p0))) h0 n0) ({ frames := 0, cells := 0, slots := 0, locals := 0 } : Room).cells ({ frames := 0, cells := 0, slots := 0, locals := 0 } : Room).slots T0 (mkF m 53 #[.val (.int x0)] []) := by
    intro T0 locs x0   X0 e0 N0 hf
    refine own_step (T' := T0) (g' := (mkF m 56 #[.val (.int x0)] [(.int (133 : Int32))])) (fun _ k => XS.sipush X0.here hx rfl (hb hby d3_53) k) ?_
    exact own_ret X0 Bd (v := some (.int (133 : Int32))) (fun q => by rw [Bd.returns] at q; cases q) (fun fs q => retI X0 hx Bd.returns (hb hby d3_56) q) (show own_Pure ((.int (f3_0 p0))) h0 n0 _ _ _ from ⟨congrArg (fun z => some (Value.int z)) hf, N0, e0⟩) (by decide) (by decide)
  have B47 : ∀ (T0 : State) (locs : List Loc) (x0 : Int32), Stand p l e ({ frames := 0, cells := 0, slots := 0, locals := 0 } : Room) s m #[(.int p0)] below meth c T0 locs 0 0 → T0.heap = h0 → Fr n0 locs → f3_47 x0 = f3_0 p0 → own_Goes p e below s (own_Pure ((.int (f3_0 p0))) h0 n0) ({ frames := 0, cells := 0, slots := 0, locals := 0 } : Room).cells ({ frames := 0, cells := 0, slots := 0, locals := 0 } : Room).slots T0 (mkF m 47 #[.val (.int x0)] []) := by
    intro T0 locs x0   X0 e0 N0 hf
    refine own_step (T' := T0) (g' := (mkF m 48 #[.val (.int x0)] [(.int x0)])) (fun _ k => XS.iloadN X0.here hx rfl (hb hby d3_47) rfl k) ?_
    refine own_step (T' := T0) (g' := (mkF m 50 #[.val (.int x0)] [(.int (6 : Int32)), (.int x0)])) (fun _ k => XS.bipush X0.here hx rfl (hb hby d3_48) k) ?_
    by_cases hc : x0 = (6 : Int32)
    · refine own_step (T' := T0) (g' := (mkF m 53 #[.val (.int x0)] [])) (fun _ k => XS.icmpNo X0.here hx rfl (hb hby d3_50) rfl (teq hc).2 k) ?_
      exact B53 T0 _ x0   X0 e0 N0 ((if_pos hc).symm.trans hf)
    · refine own_step (T' := T0) (g' := (mkF m 57 #[.val (.int x0)] [])) (fun _ k => XS.icmpYes X0.here hx rfl (pc0 := 50) (pc' := 57) rfl (hb hby d3_50) rfl (feq hc).2 (by decide) (by decide) k) ?_
      exact B57 T0 _ x0   X0 e0 N0 ((if_neg hc).symm.trans hf)
  have B44 : ∀ (T0 : State) (locs : List Loc) (x0 : Int32), Stand p l e ({ frames := 0, cells := 0, slots := 0, locals := 0 } : Room) s m #[(.int p0)] below meth c T0 locs 0 0 → T0.heap = h0 → Fr n0 locs → f3_44 = f3_0 p0 → own_Goes p e below s (own_Pure ((.int (f3_0 p0))) h0 n0) ({ frames := 0, cells := 0, slots := 0, locals := 0 } : Room).cells ({ frames := 0, cells := 0, slots := 0, locals := 0 } : Room).slots T0 (mkF m 44 #[.val (.int x0)] []) := by
    intro T0 locs x0   X0 e0 N0 hf
    refine own_step (T' := T0) (g' := (mkF m 46 #[.val (.int x0)] [(.int (33 : Int32))])) (fun _ k => XS.bipush X0.here hx rfl (hb hby d3_44) k) ?_
    exact own_ret X0 Bd (v := some (.int (33 : Int32))) (fun q => by rw [Bd.returns] at q; cases q) (fun fs q => retI X0 hx Bd.returns (hb hby d3_46) q) (show own_Pure ((.int (f3_0 p0))) h0 n0 _ _ _ from ⟨congrArg (fun z => some (Value.int z)) hf, N0, e0⟩) (by decide) (by decide)
  have B39 : ∀ (T0 : State) (locs : List Loc) (x0 : Int32), Stand p l e ({ frames := 0, cells := 0, slots := 0, locals := 0 } : Room) s m #[(.int p0)] below meth c T0 locs 0 0 → T0.heap = h0 → Fr n0 locs → f3_39 x0 = f3_0 p0 → own_Goes p e below s (own_Pure ((.int (f3_0 p0))) h0 n0) ({ frames := 0, cells := 0, slots := 0, locals := 0 } : Room).cells ({ frames := 0, cells := 0, slots := 0, locals := 0 } : Room).slots T0 (mkF m 39 #[.val (.int x0)] []) := by
    intro T0 locs x0   X0 e0 N0 hf
    refine own_step (T' := T0) (g' := (mkF m 40 #[.val (.int x0)] [(.int x0)])) (fun _ k => XS.iloadN X0.here hx rfl (hb hby d3_39) rfl k) ?_
    refine own_step (T' := T0) (g' := (mkF m 41 #[.val (.int x0)] [(.int (5 : Int32)), (.int x0)])) (fun _ k => XS.iconst X0.here hx rfl (hb hby d3_40) k) ?_
    by_cases hc : x0 = (5 : Int32)
    · refine own_step (T' := T0) (g' := (mkF m 44 #[.val (.int x0)] [])) (fun _ k => XS.icmpNo X0.here hx rfl (hb hby d3_41) rfl (teq hc).2 k) ?_
      exact B44 T0 _ x0   X0 e0 N0 ((if_pos hc).symm.trans hf)
    · refine own_step (T' := T0) (g' := (mkF m 47 #[.val (.int x0)] [])) (fun _ k => XS.icmpYes X0.here hx rfl (pc0 := 41) (pc' := 47) rfl (hb hby d3_41) rfl (feq hc).2 (by decide) (by decide) k) ?_
      exact B47 T0 _ x0   X0 e0 N0 ((if_neg hc).symm.trans hf)
  have B36 : ∀ (T0 : State) (locs : List Loc) (x0 : Int32), Stand p l e ({ frames := 0, cells := 0, slots := 0, locals := 0 } : Room) s m #[(.int p0)] below meth c T0 locs 0 0 → T0.heap = h0 → Fr n0 locs → f3_36 = f3_0 p0 → own_Goes p e below s (own_Pure ((.int (f3_0 p0))) h0 n0) ({ frames := 0, cells := 0, slots := 0, locals := 0 } : Room).cells ({ frames := 0, cells := 0, slots := 0, locals := 0 } : Room).slots T0 (mkF m 36 #[.val (.int x0)] []) := by
    intro T0 locs x0   X0 e0 N0 hf
    refine own_step (T' := T0) (g' := (mkF m 38 #[.val (.int x0)] [(.int (31 : Int32))])) (fun _ k => XS.bipush X0.here hx rfl (hb hby d3_36) k) ?_
    exact own_ret X0 Bd (v := some (.int (31 : Int32))) (fun q => by rw [Bd.returns] at q; cases q) (fun fs q => retI X0 hx Bd.returns (hb hby d3_38) q) (show own_Pure ((.int (f3_0 p0))) h0 n0 _ _ _ from ⟨congrArg (fun z => some (Value.int z)) hf, N0, e0⟩) (by decide) (by decide)
  have B31 : ∀ (T0 : State) (locs : List Loc) (x0 : Int32), Stand p l e ({ frames := 0, cells := 0, slots := 0, locals := 0 } : Room) s m #[(.int p0)] below meth c T0 locs 0 0 → T0.heap = h0 → Fr n0 locs → f3_31 x0 = f3_0 p0 → own_Goes p e below s (own_Pure ((.int (f3_0 p0))) h0 n0) ({ frames := 0, cells := 0, slots := 0, locals := 0 } : Room).cells ({ frames := 0, cells := 0, slots := 0, locals := 0 } : Room).slots T0 (mkF m 31 #[.val (.int x0)] []) := by
    intro T0 locs x0   X0 e0 N0 hf
    refine own_step (T' := T0) (g' := (mkF m 32 #[.val (.int x0)] [(.int x0)])) (fun _ k => XS.iloadN X0.here hx rfl (hb hby d3_31) rfl k) ?_
    refine own_step (T' := T0) (g' := (mkF m 33 #[.val (.int x0)] [(.int (4 : Int32)), (.int x0)])) (fun _ k => XS.iconst X0.here hx rfl (hb hby d3_32) k) ?_
    by_cases hc : x0 = (4 : Int32)
    · refine own_step (T' := T0) (g' := (mkF m 36 #[.val (.int x0)] [])) (fun _ k => XS.icmpNo X0.here hx rfl (hb hby d3_33) rfl (teq hc).2 k) ?_
      exact B36 T0 _ x0   X0 e0 N0 ((if_pos hc).symm.trans hf)
    · refine own_step (T' := T0) (g' := (mkF m 39 #[.val (.int x0)] [])) (fun _ k => XS.icmpYes X0.here hx rfl (pc0 := 33) (pc' := 39) rfl (hb hby d3_33) rfl (feq hc).2 (by decide) (by decide) k) ?_
      exact B39 T0 _ x0   X0 e0 N0 ((if_neg hc).symm.trans hf)
  have B28 : ∀ (T0 : State) (locs : List Loc) (x0 : Int32), Stand p l e ({ frames := 0, cells := 0, slots := 0, locals := 0 } : Room) s m #[(.int p0)] below meth c T0 locs 0 0 → T0.heap = h0 → Fr n0 locs → f3_28 = f3_0 p0 → own_Goes p e below s (own_Pure ((.int (f3_0 p0))) h0 n0) ({ frames := 0, cells := 0, slots := 0, locals := 0 } : Room).cells ({ frames := 0, cells := 0, slots := 0, locals := 0 } : Room).slots T0 (mkF m 28 #[.val (.int x0)] []) := by
    intro T0 locs x0   X0 e0 N0 hf
    refine own_step (T' := T0) (g' := (mkF m 30 #[.val (.int x0)] [(.int (14 : Int32))])) (fun _ k => XS.bipush X0.here hx rfl (hb hby d3_28) k) ?_
    exact own_ret X0 Bd (v := some (.int (14 : Int32))) (fun q => by rw [Bd.returns] at q; cases q) (fun fs q => retI X0 hx Bd.returns (hb hby d3_30) q) (show own_Pure ((.int (f3_0 p0))) h0 n0 _ _ _ from ⟨congrArg (fun z => some (Value.int z)) hf, N0, e0⟩) (by decide) (by decide)
  have B23 : ∀ (T0 : State) (locs : List Loc) (x0 : Int32), Stand p l e ({ frames := 0, cells := 0, slots := 0, locals := 0 } : Room) s m #[(.int p0)] below meth c T0 locs 0 0 → T0.heap = h0 → Fr n0 locs → f3_23 x0 = f3_0 p0 → own_Goes p e below s (own_Pure ((.int (f3_0 p0))) h0 n0) ({ frames := 0, cells := 0, slots := 0, locals := 0 } : Room).cells ({ frames := 0, cells := 0, slots := 0, locals := 0 } : Room).slots T0 (mkF m 23 #[.val (.int x0)] []) := by
    intro T0 locs x0   X0 e0 N0 hf
    refine own_step (T' := T0) (g' := (mkF m 24 #[.val (.int x0)] [(.int x0)])) (fun _ k => XS.iloadN X0.here hx rfl (hb hby d3_23) rfl k) ?_
    refine own_step (T' := T0) (g' := (mkF m 25 #[.val (.int x0)] [(.int (3 : Int32)), (.int x0)])) (fun _ k => XS.iconst X0.here hx rfl (hb hby d3_24) k) ?_
    by_cases hc : x0 = (3 : Int32)
    · refine own_step (T' := T0) (g' := (mkF m 28 #[.val (.int x0)] [])) (fun _ k => XS.icmpNo X0.here hx rfl (hb hby d3_25) rfl (teq hc).2 k) ?_
      exact B28 T0 _ x0   X0 e0 N0 ((if_pos hc).symm.trans hf)
    · refine own_step (T' := T0) (g' := (mkF m 31 #[.val (.int x0)] [])) (fun _ k => XS.icmpYes X0.here hx rfl (pc0 := 25) (pc' := 31) rfl (hb hby d3_25) rfl (feq hc).2 (by decide) (by decide) k) ?_
      exact B31 T0 _ x0   X0 e0 N0 ((if_neg hc).symm.trans hf)
  have B20 : ∀ (T0 : State) (locs : List Loc) (x0 : Int32), Stand p l e ({ frames := 0, cells := 0, slots := 0, locals := 0 } : Room) s m #[(.int p0)] below meth c T0 locs 0 0 → T0.heap = h0 → Fr n0 locs → f3_20 = f3_0 p0 → own_Goes p e below s (own_Pure ((.int (f3_0 p0))) h0 n0) ({ frames := 0, cells := 0, slots := 0, locals := 0 } : Room).cells ({ frames := 0, cells := 0, slots := 0, locals := 0 } : Room).slots T0 (mkF m 20 #[.val (.int x0)] []) := by
    intro T0 locs x0   X0 e0 N0 hf
    refine own_step (T' := T0) (g' := (mkF m 22 #[.val (.int x0)] [(.int (12 : Int32))])) (fun _ k => XS.bipush X0.here hx rfl (hb hby d3_20) k) ?_
    exact own_ret X0 Bd (v := some (.int (12 : Int32))) (fun q => by rw [Bd.returns] at q; cases q) (fun fs q => retI X0 hx Bd.returns (hb hby d3_22) q) (show own_Pure ((.int (f3_0 p0))) h0 n0 _ _ _ from ⟨congrArg (fun z => some (Value.int z)) hf, N0, e0⟩) (by decide) (by decide)
  have B15 : ∀ (T0 : State) (locs : List Loc) (x0 : Int32), Stand p l e ({ frames := 0, cells := 0, slots := 0, locals := 0 } : Room) s m #[(.int p0)] below meth c T0 locs 0 0 → T0.heap = h0 → Fr n0 locs → f3_15 x0 = f3_0 p0 → own_Goes p e below s (own_Pure ((.int (f3_0 p0))) h0 n0) ({ frames := 0, cells := 0, slots := 0, locals := 0 } : Room).cells ({ frames := 0, cells := 0, slots := 0, locals := 0 } : Room).slots T0 (mkF m 15 #[.val (.int x0)] []) := by
    intro T0 locs x0   X0 e0 N0 hf
    refine own_step (T' := T0) (g' := (mkF m 16 #[.val (.int x0)] [(.int x0)])) (fun _ k => XS.iloadN X0.here hx rfl (hb hby d3_15) rfl k) ?_
    refine own_step (T' := T0) (g' := (mkF m 17 #[.val (.int x0)] [(.int (2 : Int32)), (.int x0)])) (fun _ k => XS.iconst X0.here hx rfl (hb hby d3_16) k) ?_
    by_cases hc : x0 = (2 : Int32)
    · refine own_step (T' := T0) (g' := (mkF m 20 #[.val (.int x0)] [])) (fun _ k => XS.icmpNo X0.here hx rfl (hb hby d3_17) rfl (teq hc).2 k) ?_
      exact B20 T0 _ x0   X0 e0 N0 ((if_pos hc).symm.trans hf)
    · refine own_step (T' := T0) (g' := (mkF m 23 #[.val (.int x0)] [])) (fun _ k => XS.icmpYes X0.here hx rfl (pc0 := 17) (pc' := 23) rfl (hb hby d3_17) rfl (feq hc).2 (by decide) (by decide) k) ?_
      exact B23 T0 _ x0   X0 e0 N0 ((if_neg hc).symm.trans hf)
  have B12 : ∀ (T0 : State) (locs : List Loc) (x0 : Int32), Stand p l e ({ frames := 0, cells := 0, slots := 0, locals := 0 } : Room) s m #[(.int p0)] below meth c T0 locs 0 0 → T0.heap = h0 → Fr n0 locs → f3_12 = f3_0 p0 → own_Goes p e below s (own_Pure ((.int (f3_0 p0))) h0 n0) ({ frames := 0, cells := 0, slots := 0, locals := 0 } : Room).cells ({ frames := 0, cells := 0, slots := 0, locals := 0 } : Room).slots T0 (mkF m 12 #[.val (.int x0)] []) := by
    intro T0 locs x0   X0 e0 N0 hf
    refine own_step (T' := T0) (g' := (mkF m 14 #[.val (.int x0)] [(.int (11 : Int32))])) (fun _ k => XS.bipush X0.here hx rfl (hb hby d3_12) k) ?_
    exact own_ret X0 Bd (v := some (.int (11 : Int32))) (fun q => by rw [Bd.returns] at q; cases q) (fun fs q => retI X0 hx Bd.returns (hb hby d3_14) q) (show own_Pure ((.int (f3_0 p0))) h0 n0 _ _ _ from ⟨congrArg (fun z => some (Value.int z)) hf, N0, e0⟩) (by decide) (by decide)
  have B7 : ∀ (T0 : State) (locs : List Loc) (x0 : Int32), Stand p l e ({ frames := 0, cells := 0, slots := 0, locals := 0 } : Room) s m #[(.int p0)] below meth c T0 locs 0 0 → T0.heap = h0 → Fr n0 locs → f3_7 x0 = f3_0 p0 → own_Goes p e below s (own_Pure ((.int (f3_0 p0))) h0 n0) ({ frames := 0, cells := 0, slots := 0, locals := 0 } : Room).cells ({ frames := 0, cells := 0, slots := 0, locals := 0 } : Room).slots T0 (mkF m 7 #[.val (.int x0)] []) := by
    intro T0 locs x0   X0 e0 N0 hf
    refine own_step (T' := T0) (g' := (mkF m 8 #[.val (.int x0)] [(.int x0)])) (fun _ k => XS.iloadN X0.here hx rfl (hb hby d3_7) rfl k) ?_
    refine own_step (T' := T0) (g' := (mkF m 9 #[.val (.int x0)] [(.int (1 : Int32)), (.int x0)])) (fun _ k => XS.iconst X0.here hx rfl (hb hby d3_8) k) ?_
    by_cases hc : x0 = (1 : Int32)
    · refine own_step (T' := T0) (g' := (mkF m 12 #[.val (.int x0)] [])) (fun _ k => XS.icmpNo X0.here hx rfl (hb hby d3_9) rfl (teq hc).2 k) ?_
      exact B12 T0 _ x0   X0 e0 N0 ((if_pos hc).symm.trans hf)
    · refine own_step (T' := T0) (g' := (mkF m 15 #[.val (.int x0)] [])) (fun _ k => XS.icmpYes X0.here hx rfl (pc0 := 9) (pc' := 15) rfl (hb hby d3_9) rfl (feq hc).2 (by decide) (by decide) k) ?_
      exact B15 T0 _ x0   X0 e0 N0 ((if_neg hc).symm.trans hf)
  have B4 : ∀ (T0 : State) (locs : List Loc) (x0 : Int32), Stand p l e ({ frames := 0, cells := 0, slots := 0, locals := 0 } : Room) s m #[(.int p0)] below meth c T0 locs 0 0 → T0.heap = h0 → Fr n0 locs → f3_4 = f3_0 p0 → own_Goes p e below s (own_Pure ((.int (f3_0 p0))) h0 n0) ({ frames := 0, cells := 0, slots := 0, locals := 0 } : Room).cells ({ frames := 0, cells := 0, slots := 0, locals := 0 } : Room).slots T0 (mkF m 4 #[.val (.int x0)] []) := by
    intro T0 locs x0   X0 e0 N0 hf
    refine own_step (T' := T0) (g' := (mkF m 6 #[.val (.int x0)] [(.int (8 : Int32))])) (fun _ k => XS.bipush X0.here hx rfl (hb hby d3_4) k) ?_
    exact own_ret X0 Bd (v := some (.int (8 : Int32))) (fun q => by rw [Bd.returns] at q; cases q) (fun fs q => retI X0 hx Bd.returns (hb hby d3_6) q) (show own_Pure ((.int (f3_0 p0))) h0 n0 _ _ _ from ⟨congrArg (fun z => some (Value.int z)) hf, N0, e0⟩) (by decide) (by decide)
  have B0 : ∀ (T0 : State) (locs : List Loc) (x0 : Int32), Stand p l e ({ frames := 0, cells := 0, slots := 0, locals := 0 } : Room) s m #[(.int p0)] below meth c T0 locs 0 0 → T0.heap = h0 → Fr n0 locs → f3_0 x0 = f3_0 p0 → own_Goes p e below s (own_Pure ((.int (f3_0 p0))) h0 n0) ({ frames := 0, cells := 0, slots := 0, locals := 0 } : Room).cells ({ frames := 0, cells := 0, slots := 0, locals := 0 } : Room).slots T0 (mkF m 0 #[.val (.int x0)] []) := by
    intro T0 locs x0   X0 e0 N0 hf
    refine own_step (T' := T0) (g' := (mkF m 1 #[.val (.int x0)] [(.int x0)])) (fun _ k => XS.iloadN X0.here hx rfl (hb hby d3_0) rfl k) ?_
    by_cases hc : x0 = (0 : Int32)
    · refine own_step (T' := T0) (g' := (mkF m 4 #[.val (.int x0)] [])) (fun _ k => XS.ifNo X0.here hx rfl (hb hby d3_1) rfl ((if0 _ _).trans (teq hc).2) k) ?_
      exact B4 T0 _ x0   X0 e0 N0 ((if_pos hc).symm.trans hf)
    · refine own_step (T' := T0) (g' := (mkF m 7 #[.val (.int x0)] [])) (fun _ k => XS.ifYes X0.here hx rfl (pc0 := 1) (pc' := 7) rfl (hb hby d3_1) rfl ((if0 _ _).trans (feq hc).2) (by decide) (by decide) k) ?_
      exact B7 T0 _ x0   X0 e0 N0 ((if_neg hc).symm.trans hf)
  have hB := B0 s₁ [] p0  X00 e00 (Fr.nil n0) rfl
  obtain ⟨s₂, o, q1, q2, q3, v, L, q4, q5, q6⟩ := hB
  exact ⟨s₂, o, castTop (ef_3 m p0) q1, q2, q3, v, L, q4, q5, q6⟩
set_option maxRecDepth 65536 in
set_option maxHeartbeats 40000000 in
theorem rm0 (l : Launch) (Z : State) (a0 : Array Value) (hw : ∀ d ∈ tables_1, d.before a0 Z = true) (ws : List Jvm.Cond) (p0 : Int32) (p1 : Int32) (h0 : Heap) (n0 : Nat) (Z0 : n0 ≤ h0.size) (hlaw : f0_0 p0 p1 = 1) :
    MetFree l x (head1 (Jvm.Cond.code x code maxLocals ret :: ws) room_1) (fun a U => a = #[(.int p0), (.int p1)] ∧ Z.Warmed39 U.vm ∧ U.heap = h0) (fun _ _ _ _ _ => True) (fun _ U o U' => ∃ v L, o = .returned v ∧ own_Law n0 v U'.heap L ∧ FrameEnd U o U' L 0 0) := by
  refine MetFree.of_bodySF (plainFor_of_name pn_0) hisR ?_
  intro p e s m args below meth c s₁ Bd hml0 hP hK
  obtain ⟨rfl, hZ, hh0⟩ := hP
  have hx := Bd.exec
  have hby := Bd.bytes
  have hml : c.maxLocals = 6 := hml0
  have hown : s.vm.findClass "com/example/willow_graft/willowgraft/tree/XmlNamesIsWhitespacePinLaw" = some m.cls := findClass_of_methodNamed Bd.named
  have X00 : Stand p l e room_1 s m #[(.int p0), (.int p1)] below meth c s₁ [] 0 0 := Stand.of_body Bd
  have e00 : s₁.heap = h0 := by rw [← hh0, Bd.state]; rfl
  have B86 : ∀ (T0 : State) (locs : List Loc) (x0 : Int32) (x1 : Int32) (x2 : Int32) (x3 : Int32) (x4 : Int32) (x5 : Int32) (t0 : Int32) (hh : Heap), n0 ≤ hh.size → Stand p l e room_1 s m #[(.int p0), (.int p1)] below meth c T0 locs 0 0 → T0.heap = hh → Fr n0 locs → f0_86 t0 = 1 → own_Goes p e below s (own_Law n0) 0 0 T0 (mkF m 86 #[.val (.int x0), .val (.int x1), .val (.int x2), .val (.int x3), .val (.int x4), .val (.int x5)] [(.int t0)]) := by
    intro T0 locs x0 x1 x2 x3 x4 x5 t0 hh Zh  X0 e0 N0 hf
    exact own_ret X0 Bd (v := some (.int (t0 &&& 1))) (fun q => by rw [Bd.returns] at q; cases q) (fun fs q => retN X0 hx (t := .boolean) Bd.returns (by simp) (hb hby at_86) q) (show own_Law n0 _ _ _ from ⟨congrArg (fun z => some (Value.int z)) hf, N0⟩) (by decide) (by decide)
  have B85 : ∀ (T0 : State) (locs : List Loc) (x0 : Int32) (x1 : Int32) (x2 : Int32) (x3 : Int32) (x4 : Int32) (x5 : Int32) (hh : Heap), n0 ≤ hh.size → Stand p l e room_1 s m #[(.int p0), (.int p1)] below meth c T0 locs 0 0 → T0.heap = hh → Fr n0 locs → f0_85 = 1 → own_Goes p e below s (own_Law n0) 0 0 T0 (mkF m 85 #[.val (.int x0), .val (.int x1), .val (.int x2), .val (.int x3), .val (.int x4), .val (.int x5)] []) := by
    intro T0 locs x0 x1 x2 x3 x4 x5 hh Zh  X0 e0 N0 hf
    refine own_step (T' := T0) (g' := (mkF m 86 #[.val (.int x0), .val (.int x1), .val (.int x2), .val (.int x3), .val (.int x4), .val (.int x5)] [(.int (0 : Int32))])) (fun _ k => XS.iconst X0.here hx rfl (hb hby at_85) k) ?_
    exact B86 T0 _ x0 x1 x2 x3 x4 x5 (0 : Int32) hh Zh  X0 e0 N0 hf
  have B81 : ∀ (T0 : State) (locs : List Loc) (x0 : Int32) (x1 : Int32) (x2 : Int32) (x3 : Int32) (x4 : Int32) (x5 : Int32) (hh : Heap), n0 ≤ hh.size → Stand p l e room_1 s m #[(.int p0), (.int p1)] below meth c T0 locs 0 0 → T0.heap = hh → Fr n0 locs → f0_81 = 1 → own_Goes p e below s (own_Law n0) 0 0 T0 (mkF m 81 #[.val (.int x0), .val (.int x1), .val (.int x2), .val (.int x3), .val (.int x4), .val (.int x5)] []) := by
    intro T0 locs x0 x1 x2 x3 x4 x5 hh Zh  X0 e0 N0 hf
    refine own_step (T' := T0) (g' := (mkF m 82 #[.val (.int x0), .val (.int x1), .val (.int x2), .val (.int x3), .val (.int x4), .val (.int x5)] [(.int (1 : Int32))])) (fun _ k => XS.iconst X0.here hx rfl (hb hby at_81) k) ?_
    refine own_step (T' := T0) (g' := (mkF m 86 #[.val (.int x0), .val (.int x1), .val (.int x2), .val (.int x3), .val (.int x4), .val (.int x5)] [(.int (1 : Int32))])) (fun _ k => XS.goto X0.here hx rfl (pc0 := 82) (pc' := 86) rfl (hb hby at_82) (by decide) (by decide) k) ?_
    exact B86 T0 _ x0 x1 x2 x3 x4 x5 (1 : Int32) hh Zh  X0 e0 N0 hf
  have B76 : ∀ (T0 : State) (locs : List Loc) (x0 : Int32) (x1 : Int32) (x2 : Int32) (x3 : Int32) (x4 : Int32) (x5 : Int32) (hh : Heap), n0 ≤ hh.size → Stand p l e room_1 s m #[(.int p0), (.int p1)] below meth c T0 locs 0 0 → T0.heap = hh → Fr n0 locs → f0_76 x5 = 1 → own_Goes p e below s (own_Law n0) 0 0 T0 (mkF m 76 #[.val (.int x0), .val (.int x1), .val (.int x2), .val (.int x3), .val (.int x4), .val (.int x5)] []) := by
    intro T0 locs x0 x1 x2 x3 x4 x5 hh Zh  X0 e0 N0 hf
    refine own_step (T' := T0) (g' := (mkF m 78 #[.val (.int x0), .val (.int x1), .val (.int x2), .val (.int x3), .val (.int x4), .val (.int x5)] [(.int x5)])) (fun _ k => XS.iload X0.here hx rfl (hb hby at_76) rfl k) ?_
    by_cases hc : x5 = (0 : Int32)
    · refine own_step (T' := T0) (g' := (mkF m 81 #[.val (.int x0), .val (.int x1), .val (.int x2), .val (.int x3), .val (.int x4), .val (.int x5)] [])) (fun _ k => XS.ifNo X0.here hx rfl (hb hby at_78) rfl ((if0 _ _).trans (teq hc).2) k) ?_
      exact B81 T0 _ x0 x1 x2 x3 x4 x5 hh Zh  X0 e0 N0 ((if_pos hc).symm.trans hf)
    · refine own_step (T' := T0) (g' := (mkF m 85 #[.val (.int x0), .val (.int x1), .val (.int x2), .val (.int x3), .val (.int x4), .val (.int x5)] [])) (fun _ k => XS.ifYes X0.here hx rfl (pc0 := 78) (pc' := 85) rfl (hb hby at_78) rfl ((if0 _ _).trans (feq hc).2) (by decide) (by decide) k) ?_
      exact B85 T0 _ x0 x1 x2 x3 x4 x5 hh Zh  X0 e0 N0 ((if_neg hc).symm.trans hf)
  have B71 : ∀ (T0 : State) (locs : List Loc) (x0 : Int32) (x1 : Int32) (x2 : Int32) (x3 : Int32) (x4 : Int32) (x5 : Int32) (hh : Heap), n0 ≤ hh.size → Stand p l e room_1 s m #[(.int p0), (.int p1)] below meth c T0 locs 0 0 → T0.heap = hh → Fr n0 locs → f0_71 x4 x5 = 1 → own_Goes p e below s (own_Law n0) 0 0 T0 (mkF m 71 #[.val (.int x0), .val (.int x1), .val (.int x2), .val (.int x3), .val (.int x4), .val (.int x5)] []) := by
    intro T0 locs x0 x1 x2 x3 x4 x5 hh Zh  X0 e0 N0 hf
    refine own_step (T' := T0) (g' := (mkF m 73 #[.val (.int x0), .val (.int x1), .val (.int x2), .val (.int x3), .val (.int x4), .val (.int x5)] [(.int x4)])) (fun _ k => XS.iload X0.here hx rfl (hb hby at_71) rfl k) ?_
    by_cases hc : x4 = (0 : Int32)
    · refine own_step (T' := T0) (g' := (mkF m 85 #[.val (.int x0), .val (.int x1), .val (.int x2), .val (.int x3), .val (.int x4), .val (.int x5)] [])) (fun _ k => XS.ifYes X0.here hx rfl (pc0 := 73) (pc' := 85) rfl (hb hby at_73) rfl ((if0 _ _).trans (teq hc).1) (by decide) (by decide) k) ?_
      exact B85 T0 _ x0 x1 x2 x3 x4 x5 hh Zh  X0 e0 N0 ((if_pos hc).symm.trans hf)
    · refine own_step (T' := T0) (g' := (mkF m 76 #[.val (.int x0), .val (.int x1), .val (.int x2), .val (.int x3), .val (.int x4), .val (.int x5)] [])) (fun _ k => XS.ifNo X0.here hx rfl (hb hby at_73) rfl ((if0 _ _).trans (feq hc).1) k) ?_
      exact B76 T0 _ x0 x1 x2 x3 x4 x5 hh Zh  X0 e0 N0 ((if_neg hc).symm.trans hf)
  have B35 : ∀ (T0 : State) (locs : List Loc) (x0 : Int32) (x1 : Int32) (t0 : Int32) (hh : Heap), n0 ≤ hh.size → Stand p l e room_1 s m #[(.int p0), (.int p1)] below meth c T0 locs 0 0 → T0.heap = hh → Fr n0 locs → f0_35 x0 x1 t0 = 1 → own_Goes p e below s (own_Law n0) 0 0 T0 (mkF m 35 #[.val (.int x0), .val (.int x1), .unset, .unset, .unset, .unset] [(.int t0)]) := by
    intro T0 locs x0 x1 t0 hh Zh  X0 e0 N0 hf
    refine own_step (T' := T0) (g' := (mkF m 36 #[.val (.int x0), .val (.int x1), .val (.int t0), .unset, .unset, .unset] [])) (fun _ k => XS.istoreN X0.here hx rfl (hb hby at_35) rfl (l' := #[.val (.int x0), .val (.int x1), .val (.int t0), .unset, .unset, .unset]) rfl k) ?_
    refine own_step (T' := T0) (g' := (mkF m 37 #[.val (.int x0), .val (.int x1), .val (.int t0), .unset, .unset, .unset] [(.int x0)])) (fun _ k => XS.iloadN X0.here hx rfl (hb hby at_36) rfl k) ?_
    obtain ⟨_, _, ⟨T1, L1, k1, n1⟩, -, X1, ⟨Lc1, hQ1, l1, y1, z1⟩, st1⟩ := Jvm.LawKit.callS X0 hx (y := (⟨"com/example/willow_graft/willowgraft/tree/XmlNames", "isWhitespace", "(I)Z"⟩ : MethodName)) hown (mvT hZ (hw _ (List.mem_of_getElem? (i := 0) rfl))) (mvT hZ (hw _ (List.mem_of_getElem? (i := 1) rfl))) (mvT hZ (hw _ (List.mem_of_getElem? (i := 2) rfl))) (mvT hZ (hw _ (List.mem_of_getElem? (i := 3) rfl))) (by decide) (backOf (W := 0) (rm1 l Z a0 hw [] x0 hh n0 Zh) hZ (hw _ (List.mem_of_getElem? (i := 3) rfl)) (hw _ (List.mem_of_getElem? (i := 2) rfl)) (by decide) (by decide)) (g := (mkF m 37 #[.val (.int x0), .val (.int x1), .val (.int t0), .unset, .unset, .unset] [(.int x0)])) rfl (by rw [hml]; rfl) (argsL := [(.int x0)]) (rest := []) (lenOf pd_0 rfl) rfl (by show 2 * 0 + _ ≤ _; exact Nat.le_of_eq rfl) (hb hby at_37) (fun _ _ => ⟨rfl, e0, (by decide : 0 + 0 ≤ _), (by decide : 0 + 0 ≤ _)⟩)
    dsimp only [Pt.U, Pt.locs, Pt.cells, Pt.slots] at X1 l1 y1 z1 st1 hQ1
    subst l1 y1 z1
    obtain ⟨rfl, N1q, e1⟩ := hQ1
    have N1 := Fr.app N0 N1q
    refine own_step (T' := T1) (g' := (mkF m 40 #[.val (.int x0), .val (.int x1), .val (.int t0), .unset, .unset, .unset] [(.int (f1_0 x0))])) (fun _ k => st1 _ k) ?_
    refine own_step (T' := T1) (g' := (mkF m 41 #[.val (.int x0), .val (.int x1), .val (.int t0), .val (.int (f1_0 x0)), .unset, .unset] [])) (fun _ k => XS.istoreN X1.here hx rfl (hb hby at_40) rfl (l' := #[.val (.int x0), .val (.int x1), .val (.int t0), .val (.int (f1_0 x0)), .unset, .unset]) rfl k) ?_
    refine own_step (T' := T1) (g' := (mkF m 42 #[.val (.int x0), .val (.int x1), .val (.int t0), .val (.int (f1_0 x0)), .unset, .unset] [(.int x1)])) (fun _ k => XS.iloadN X1.here hx rfl (hb hby at_41) rfl k) ?_
    refine own_step (T' := T1) (g' := (mkF m 43 #[.val (.int x0), .val (.int x1), .val (.int t0), .val (.int (f1_0 x0)), .unset, .unset] [(.int (3 : Int32)), (.int x1)])) (fun _ k => XS.iconst X1.here hx rfl (hb hby at_42) k) ?_
    refine own_step (T' := T1) (g' := (mkF m 44 #[.val (.int x0), .val (.int x1), .val (.int t0), .val (.int (f1_0 x0)), .unset, .unset] [(.int (x1 &&& (3 : Int32)))])) (fun _ k => XS.iand X1.here hx rfl (hb hby at_43) rfl k) ?_
    obtain ⟨_, _, ⟨T2, L2, k2, n2⟩, -, X2, ⟨Lc2, hQ2, l2, y2, z2⟩, st2⟩ := Jvm.LawKit.callS X1 hx (y := (⟨"com/example/willow_graft/willowgraft/tree/XmlNamesIsWhitespacePinLaw", "white", "(I)I"⟩ : MethodName)) hown (mvT hZ (hw _ (List.mem_of_getElem? (i := 4) rfl))) (mvT hZ (hw _ (List.mem_of_getElem? (i := 5) rfl))) (mvT hZ (hw _ (List.mem_of_getElem? (i := 6) rfl))) (mvT hZ (hw _ (List.mem_of_getElem? (i := 7) rfl))) (by decide) (backOf (W := 0) (rm2 l Z a0 hw [] (x1 &&& (3 : Int32)) hh n0 Zh) hZ (hw _ (List.mem_of_getElem? (i := 7) rfl)) (hw _ (List.mem_of_getElem? (i := 6) rfl)) (by decide) (by decide)) (g := (mkF m 44 #[.val (.int x0), .val (.int x1), .val (.int t0), .val (.int (f1_0 x0)), .unset, .unset] [(.int (x1 &&& (3 : Int32)))])) rfl (by rw [hml]; rfl) (argsL := [(.int (x1 &&& (3 : Int32)))]) (rest := []) (lenOf pd_1 rfl) rfl (by show 2 * 0 + _ ≤ _; exact Nat.le_of_eq rfl) (hb hby at_44) (fun _ _ => ⟨rfl, e1, (by decide : 0 + 0 ≤ _), (by decide : 0 + 0 ≤ _)⟩)
    dsimp only [Pt.U, Pt.locs, Pt.cells, Pt.slots] at X2 l2 y2 z2 st2 hQ2
    subst l2 y2 z2
    obtain ⟨rfl, N2q, e2⟩ := hQ2
    have N2 := Fr.app N1 N2q
    refine own_step (T' := T2) (g' := (mkF m 47 #[.val (.int x0), .val (.int x1), .val (.int t0), .val (.int (f1_0 x0)), .unset, .unset] [(.int (f2_0 (x1 &&& (3 : Int32))))])) (fun _ k => st2 _ k) ?_
    obtain ⟨_, _, ⟨T3, L3, k3, n3⟩, -, X3, ⟨Lc3, hQ3, l3, y3, z3⟩, st3⟩ := Jvm.LawKit.callS X2 hx (y := (⟨"com/example/willow_graft/willowgraft/tree/XmlNames", "isWhitespace", "(I)Z"⟩ : MethodName)) hown (mvT hZ (hw _ (List.mem_of_getElem? (i := 0) rfl))) (mvT hZ (hw _ (List.mem_of_getElem? (i := 1) rfl))) (mvT hZ (hw _ (List.mem_of_getElem? (i := 2) rfl))) (mvT hZ (hw _ (List.mem_of_getElem? (i := 3) rfl))) (by decide) (backOf (W := 0) (rm1 l Z a0 hw [] (f2_0 (x1 &&& (3 : Int32))) hh n0 Zh) hZ (hw _ (List.mem_of_getElem? (i := 3) rfl)) (hw _ (List.mem_of_getElem? (i := 2) rfl)) (by decide) (by decide)) (g := (mkF m 47 #[.val (.int x0), .val (.int x1), .val (.int t0), .val (.int (f1_0 x0)), .unset, .unset] [(.int (f2_0 (x1 &&& (3 : Int32))))])) rfl (by rw [hml]; rfl) (argsL := [(.int (f2_0 (x1 &&& (3 : Int32))))]) (rest := []) (lenOf pd_0 rfl) rfl (by show 2 * 0 + _ ≤ _; exact Nat.le_of_eq rfl) (hb hby at_47) (fun _ _ => ⟨rfl, e2, (by decide : 0 + 0 ≤ _), (by decide : 0 + 0 ≤ _)⟩)
    dsimp only [Pt.U, Pt.locs, Pt.cells, Pt.slots] at X3 l3 y3 z3 st3 hQ3
    subst l3 y3 z3
    obtain ⟨rfl, N3q, e3⟩ := hQ3
    have N3 := Fr.app N2 N3q
    refine own_step (T' := T3) (g' := (mkF m 50 #[.val (.int x0), .val (.int x1), .val (.int t0), .val (.int (f1_0 x0)), .unset, .unset] [(.int (f1_0 (f2_0 (x1 &&& (3 : Int32)))))])) (fun _ k => st3 _ k) ?_
    refine own_step (T' := T3) (g' := (mkF m 52 #[.val (.int x0), .val (.int x1), .val (.int t0), .val (.int (f1_0 x0)), .val (.int (f1_0 (f2_0 (x1 &&& (3 : Int32))))), .unset] [])) (fun _ k => XS.istore X3.here hx rfl (hb hby at_50) rfl (l' := #[.val (.int x0), .val (.int x1), .val (.int t0), .val (.int (f1_0 x0)), .val (.int (f1_0 (f2_0 (x1 &&& (3 : Int32))))), .unset]) rfl k) ?_
    refine own_step (T' := T3) (g' := (mkF m 53 #[.val (.int x0), .val (.int x1), .val (.int t0), .val (.int (f1_0 x0)), .val (.int (f1_0 (f2_0 (x1 &&& (3 : Int32))))), .unset] [(.int x1)])) (fun _ k => XS.iloadN X3.here hx rfl (hb hby at_52) rfl k) ?_
    refine own_step (T' := T3) (g' := (mkF m 54 #[.val (.int x0), .val (.int x1), .val (.int t0), .val (.int (f1_0 x0)), .val (.int (f1_0 (f2_0 (x1 &&& (3 : Int32))))), .unset] [(.int (2 : Int32)), (.int x1)])) (fun _ k => XS.iconst X3.here hx rfl (hb hby at_53) k) ?_
    refine own_step (T' := T3) (g' := (mkF m 55 #[.val (.int x0), .val (.int x1), .val (.int t0), .val (.int (f1_0 x0)), .val (.int (f1_0 (f2_0 (x1 &&& (3 : Int32))))), .unset] [(.int ((x1.toUInt32 >>> ((2 : Int32) &&& 31).toUInt32).toInt32))])) (fun _ k => XS.iushr X3.here hx rfl (hb hby at_54) rfl k) ?_
    refine own_step (T' := T3) (g' := (mkF m 57 #[.val (.int x0), .val (.int x1), .val (.int t0), .val (.int (f1_0 x0)), .val (.int (f1_0 (f2_0 (x1 &&& (3 : Int32))))), .unset] [(.int (7 : Int32)), (.int ((x1.toUInt32 >>> ((2 : Int32) &&& 31).toUInt32).toInt32))])) (fun _ k => XS.bipush X3.here hx rfl (hb hby at_55) k) ?_
    refine own_step (T' := T3) (g' := (mkF m 58 #[.val (.int x0), .val (.int x1), .val (.int t0), .val (.int (f1_0 x0)), .val (.int (f1_0 (f2_0 (x1 &&& (3 : Int32))))), .unset] [(.int (((x1.toUInt32 >>> ((2 : Int32) &&& 31).toUInt32).toInt32) &&& (7 : Int32)))])) (fun _ k => XS.iand X3.here hx rfl (hb hby at_57) rfl k) ?_
    obtain ⟨_, _, ⟨T4, L4, k4, n4⟩, -, X4, ⟨Lc4, hQ4, l4, y4, z4⟩, st4⟩ := Jvm.LawKit.callS X3 hx (y := (⟨"com/example/willow_graft/willowgraft/tree/XmlNamesIsWhitespacePinLaw", "near", "(I)I"⟩ : MethodName)) hown (mvT hZ (hw _ (List.mem_of_getElem? (i := 8) rfl))) (mvT hZ (hw _ (List.mem_of_getElem? (i := 9) rfl))) (mvT hZ (hw _ (List.mem_of_getElem? (i := 6) rfl))) (mvT hZ (hw _ (List.mem_of_getElem? (i := 10) rfl))) (by decide) (backOf (W := 0) (rm3 l Z a0 hw [] (((x1.toUInt32 >>> ((2 : Int32) &&& 31).toUInt32).toInt32) &&& (7 : Int32)) hh n0 Zh) hZ (hw _ (List.mem_of_getElem? (i := 10) rfl)) (hw _ (List.mem_of_getElem? (i := 6) rfl)) (by decide) (by decide)) (g := (mkF m 58 #[.val (.int x0), .val (.int x1), .val (.int t0), .val (.int (f1_0 x0)), .val (.int (f1_0 (f2_0 (x1 &&& (3 : Int32))))), .unset] [(.int (((x1.toUInt32 >>> ((2 : Int32) &&& 31).toUInt32).toInt32) &&& (7 : Int32)))])) rfl (by rw [hml]; rfl) (argsL := [(.int (((x1.toUInt32 >>> ((2 : Int32) &&& 31).toUInt32).toInt32) &&& (7 : Int32)))]) (rest := []) (lenOf pd_1 rfl) rfl (by show 2 * 0 + _ ≤ _; exact Nat.le_of_eq rfl) (hb hby at_58) (fun _ _ => ⟨rfl, e3, (by decide : 0 + 0 ≤ _), (by decide : 0 + 0 ≤ _)⟩)
    dsimp only [Pt.U, Pt.locs, Pt.cells, Pt.slots] at X4 l4 y4 z4 st4 hQ4
    subst l4 y4 z4
    obtain ⟨rfl, N4q, e4⟩ := hQ4
    have N4 := Fr.app N3 N4q
    refine own_step (T' := T4) (g' := (mkF m 61 #[.val (.int x0), .val (.int x1), .val (.int t0), .val (.int (f1_0 x0)), .val (.int (f1_0 (f2_0 (x1 &&& (3 : Int32))))), .unset] [(.int (f3_0 (((x1.toUInt32 >>> ((2 : Int32) &&& 31).toUInt32).toInt32) &&& (7 : Int32))))])) (fun _ k => st4 _ k) ?_
    obtain ⟨_, _, ⟨T5, L5, k5, n5⟩, -, X5, ⟨Lc5, hQ5, l5, y5, z5⟩, st5⟩ := Jvm.LawKit.callS X4 hx (y := (⟨"com/example/willow_graft/willowgraft/tree/XmlNames", "isWhitespace", "(I)Z"⟩ : MethodName)) hown (mvT hZ (hw _ (List.mem_of_getElem? (i := 0) rfl))) (mvT hZ (hw _ (List.mem_of_getElem? (i := 1) rfl))) (mvT hZ (hw _ (List.mem_of_getElem? (i := 2) rfl))) (mvT hZ (hw _ (List.mem_of_getElem? (i := 3) rfl))) (by decide) (backOf (W := 0) (rm1 l Z a0 hw [] (f3_0 (((x1.toUInt32 >>> ((2 : Int32) &&& 31).toUInt32).toInt32) &&& (7 : Int32))) hh n0 Zh) hZ (hw _ (List.mem_of_getElem? (i := 3) rfl)) (hw _ (List.mem_of_getElem? (i := 2) rfl)) (by decide) (by decide)) (g := (mkF m 61 #[.val (.int x0), .val (.int x1), .val (.int t0), .val (.int (f1_0 x0)), .val (.int (f1_0 (f2_0 (x1 &&& (3 : Int32))))), .unset] [(.int (f3_0 (((x1.toUInt32 >>> ((2 : Int32) &&& 31).toUInt32).toInt32) &&& (7 : Int32))))])) rfl (by rw [hml]; rfl) (argsL := [(.int (f3_0 (((x1.toUInt32 >>> ((2 : Int32) &&& 31).toUInt32).toInt32) &&& (7 : Int32))))]) (rest := []) (lenOf pd_0 rfl) rfl (by show 2 * 0 + _ ≤ _; exact Nat.le_of_eq rfl) (hb hby at_61) (fun _ _ => ⟨rfl, e4, (by decide : 0 + 0 ≤ _), (by decide : 0 + 0 ≤ _)⟩)
    dsimp only [Pt.U, Pt.locs, Pt.cells, Pt.slots] at X5 l5 y5 z5 st5 hQ5
    subst l5 y5 z5
    obtain ⟨rfl, N5q, e5⟩ := hQ5
    have N5 := Fr.app N4 N5q
    refine own_step (T' := T5) (g' := (mkF m 64 #[.val (.int x0), .val (.int x1), .val (.int t0), .val (.int (f1_0 x0)), .val (.int (f1_0 (f2_0 (x1 &&& (3 : Int32))))), .unset] [(.int (f1_0 (f3_0 (((x1.toUInt32 >>> ((2 : Int32) &&& 31).toUInt32).toInt32) &&& (7 : Int32)))))])) (fun _ k => st5 _ k) ?_
    refine own_step (T' := T5) (g' := (mkF m 66 #[.val (.int x0), .val (.int x1), .val (.int t0), .val (.int (f1_0 x0)), .val (.int (f1_0 (f2_0 (x1 &&& (3 : Int32))))), .val (.int (f1_0 (f3_0 (((x1.toUInt32 >>> ((2 : Int32) &&& 31).toUInt32).toInt32) &&& (7 : Int32)))))] [])) (fun _ k => XS.istore X5.here hx rfl (hb hby at_64) rfl (l' := #[.val (.int x0), .val (.int x1), .val (.int t0), .val (.int (f1_0 x0)), .val (.int (f1_0 (f2_0 (x1 &&& (3 : Int32))))), .val (.int (f1_0 (f3_0 (((x1.toUInt32 >>> ((2 : Int32) &&& 31).toUInt32).toInt32) &&& (7 : Int32)))))]) rfl k) ?_
    refine own_step (T' := T5) (g' := (mkF m 67 #[.val (.int x0), .val (.int x1), .val (.int t0), .val (.int (f1_0 x0)), .val (.int (f1_0 (f2_0 (x1 &&& (3 : Int32))))), .val (.int (f1_0 (f3_0 (((x1.toUInt32 >>> ((2 : Int32) &&& 31).toUInt32).toInt32) &&& (7 : Int32)))))] [(.int (f1_0 x0))])) (fun _ k => XS.iloadN X5.here hx rfl (hb hby at_66) rfl k) ?_
    refine own_step (T' := T5) (g' := (mkF m 68 #[.val (.int x0), .val (.int x1), .val (.int t0), .val (.int (f1_0 x0)), .val (.int (f1_0 (f2_0 (x1 &&& (3 : Int32))))), .val (.int (f1_0 (f3_0 (((x1.toUInt32 >>> ((2 : Int32) &&& 31).toUInt32).toInt32) &&& (7 : Int32)))))] [(.int t0), (.int (f1_0 x0))])) (fun _ k => XS.iloadN X5.here hx rfl (hb hby at_67) rfl k) ?_
    by_cases hc : (f1_0 x0) = t0
    · refine own_step (T' := T5) (g' := (mkF m 71 #[.val (.int x0), .val (.int x1), .val (.int t0), .val (.int (f1_0 x0)), .val (.int (f1_0 (f2_0 (x1 &&& (3 : Int32))))), .val (.int (f1_0 (f3_0 (((x1.toUInt32 >>> ((2 : Int32) &&& 31).toUInt32).toInt32) &&& (7 : Int32)))))] [])) (fun _ k => XS.icmpNo X5.here hx rfl (hb hby at_68) rfl (teq hc).2 k) ?_
      exact B71 T5 _ x0 x1 t0 (f1_0 x0) (f1_0 (f2_0 (x1 &&& (3 : Int32)))) (f1_0 (f3_0 (((x1.toUInt32 >>> ((2 : Int32) &&& 31).toUInt32).toInt32) &&& (7 : Int32)))) hh Zh  X5 e5 N5 ((if_pos hc).symm.trans hf)
    · refine own_step (T' := T5) (g' := (mkF m 85 #[.val (.int x0), .val (.int x1), .val (.int t0), .val (.int (f1_0 x0)), .val (.int (f1_0 (f2_0 (x1 &&& (3 : Int32))))), .val (.int (f1_0 (f3_0 (((x1.toUInt32 >>> ((2 : Int32) &&& 31).toUInt32).toInt32) &&& (7 : Int32)))))] [])) (fun _ k => XS.icmpYes X5.here hx rfl (pc0 := 68) (pc' := 85) rfl (hb hby at_68) rfl (feq hc).2 (by decide) (by decide) k) ?_
      exact B85 T5 _ x0 x1 t0 (f1_0 x0) (f1_0 (f2_0 (x1 &&& (3 : Int32)))) (f1_0 (f3_0 (((x1.toUInt32 >>> ((2 : Int32) &&& 31).toUInt32).toInt32) &&& (7 : Int32)))) hh Zh  X5 e5 N5 ((if_neg hc).symm.trans hf)
  have B34 : ∀ (T0 : State) (locs : List Loc) (x0 : Int32) (x1 : Int32) (hh : Heap), n0 ≤ hh.size → Stand p l e room_1 s m #[(.int p0), (.int p1)] below meth c T0 locs 0 0 → T0.heap = hh → Fr n0 locs → f0_34 x0 x1 = 1 → own_Goes p e below s (own_Law n0) 0 0 T0 (mkF m 34 #[.val (.int x0), .val (.int x1), .unset, .unset, .unset, .unset] []) := by
    intro T0 locs x0 x1 hh Zh  X0 e0 N0 hf
    refine own_step (T' := T0) (g' := (mkF m 35 #[.val (.int x0), .val (.int x1), .unset, .unset, .unset, .unset] [(.int (0 : Int32))])) (fun _ k => XS.iconst X0.here hx rfl (hb hby at_34) k) ?_
    exact B35 T0 _ x0 x1 (0 : Int32) hh Zh  X0 e0 N0 hf
  have B30 : ∀ (T0 : State) (locs : List Loc) (x0 : Int32) (x1 : Int32) (hh : Heap), n0 ≤ hh.size → Stand p l e room_1 s m #[(.int p0), (.int p1)] below meth c T0 locs 0 0 → T0.heap = hh → Fr n0 locs → f0_30 x0 x1 = 1 → own_Goes p e below s (own_Law n0) 0 0 T0 (mkF m 30 #[.val (.int x0), .val (.int x1), .unset, .unset, .unset, .unset] []) := by
    intro T0 locs x0 x1 hh Zh  X0 e0 N0 hf
    refine own_step (T' := T0) (g' := (mkF m 31 #[.val (.int x0), .val (.int x1), .unset, .unset, .unset, .unset] [(.int (1 : Int32))])) (fun _ k => XS.iconst X0.here hx rfl (hb hby at_30) k) ?_
    refine own_step (T' := T0) (g' := (mkF m 35 #[.val (.int x0), .val (.int x1), .unset, .unset, .unset, .unset] [(.int (1 : Int32))])) (fun _ k => XS.goto X0.here hx rfl (pc0 := 31) (pc' := 35) rfl (hb hby at_31) (by decide) (by decide) k) ?_
    exact B35 T0 _ x0 x1 (1 : Int32) hh Zh  X0 e0 N0 hf
  have B24 : ∀ (T0 : State) (locs : List Loc) (x0 : Int32) (x1 : Int32) (hh : Heap), n0 ≤ hh.size → Stand p l e room_1 s m #[(.int p0), (.int p1)] below meth c T0 locs 0 0 → T0.heap = hh → Fr n0 locs → f0_24 x0 x1 = 1 → own_Goes p e below s (own_Law n0) 0 0 T0 (mkF m 24 #[.val (.int x0), .val (.int x1), .unset, .unset, .unset, .unset] []) := by
    intro T0 locs x0 x1 hh Zh  X0 e0 N0 hf
    refine own_step (T' := T0) (g' := (mkF m 25 #[.val (.int x0), .val (.int x1), .unset, .unset, .unset, .unset] [(.int x0)])) (fun _ k => XS.iloadN X0.here hx rfl (hb hby at_24) rfl k) ?_
    refine own_step (T' := T0) (g' := (mkF m 27 #[.val (.int x0), .val (.int x1), .unset, .unset, .unset, .unset] [(.int (12 : Int32)), (.int x0)])) (fun _ k => XS.bipush X0.here hx rfl (hb hby at_25) k) ?_
    by_cases hc : x0 = (12 : Int32)
    · refine own_step (T' := T0) (g' := (mkF m 34 #[.val (.int x0), .val (.int x1), .unset, .unset, .unset, .unset] [])) (fun _ k => XS.icmpYes X0.here hx rfl (pc0 := 27) (pc' := 34) rfl (hb hby at_27) rfl (teq hc).1 (by decide) (by decide) k) ?_
      exact B34 T0 _ x0 x1 hh Zh  X0 e0 N0 ((if_pos hc).symm.trans hf)
    · refine own_step (T' := T0) (g' := (mkF m 30 #[.val (.int x0), .val (.int x1), .unset, .unset, .unset, .unset] [])) (fun _ k => XS.icmpNo X0.here hx rfl (hb hby at_27) rfl (feq hc).1 k) ?_
      exact B30 T0 _ x0 x1 hh Zh  X0 e0 N0 ((if_neg hc).symm.trans hf)
  have B18 : ∀ (T0 : State) (locs : List Loc) (x0 : Int32) (x1 : Int32) (hh : Heap), n0 ≤ hh.size → Stand p l e room_1 s m #[(.int p0), (.int p1)] below meth c T0 locs 0 0 → T0.heap = hh → Fr n0 locs → f0_18 x0 x1 = 1 → own_Goes p e below s (own_Law n0) 0 0 T0 (mkF m 18 #[.val (.int x0), .val (.int x1), .unset, .unset, .unset, .unset] []) := by
    intro T0 locs x0 x1 hh Zh  X0 e0 N0 hf
    refine own_step (T' := T0) (g' := (mkF m 19 #[.val (.int x0), .val (.int x1), .unset, .unset, .unset, .unset] [(.int x0)])) (fun _ k => XS.iloadN X0.here hx rfl (hb hby at_18) rfl k) ?_
    refine own_step (T' := T0) (g' := (mkF m 21 #[.val (.int x0), .val (.int x1), .unset, .unset, .unset, .unset] [(.int (11 : Int32)), (.int x0)])) (fun _ k => XS.bipush X0.here hx rfl (hb hby at_19) k) ?_
    by_cases hc : x0 = (11 : Int32)
    · refine own_step (T' := T0) (g' := (mkF m 34 #[.val (.int x0), .val (.int x1), .unset, .unset, .unset, .unset] [])) (fun _ k => XS.icmpYes X0.here hx rfl (pc0 := 21) (pc' := 34) rfl (hb hby at_21) rfl (teq hc).1 (by decide) (by decide) k) ?_
      exact B34 T0 _ x0 x1 hh Zh  X0 e0 N0 ((if_pos hc).symm.trans hf)
    · refine own_step (T' := T0) (g' := (mkF m 24 #[.val (.int x0), .val (.int x1), .unset, .unset, .unset, .unset] [])) (fun _ k => XS.icmpNo X0.here hx rfl (hb hby at_21) rfl (feq hc).1 k) ?_
      exact B24 T0 _ x0 x1 hh Zh  X0 e0 N0 ((if_neg hc).symm.trans hf)
  have B12 : ∀ (T0 : State) (locs : List Loc) (x0 : Int32) (x1 : Int32) (hh : Heap), n0 ≤ hh.size → Stand p l e room_1 s m #[(.int p0), (.int p1)] below meth c T0 locs 0 0 → T0.heap = hh → Fr n0 locs → f0_12 x0 x1 = 1 → own_Goes p e below s (own_Law n0) 0 0 T0 (mkF m 12 #[.val (.int x0), .val (.int x1), .unset, .unset, .unset, .unset] []) := by
    intro T0 locs x0 x1 hh Zh  X0 e0 N0 hf
    refine own_step (T' := T0) (g' := (mkF m 13 #[.val (.int x0), .val (.int x1), .unset, .unset, .unset, .unset] [(.int x0)])) (fun _ k => XS.iloadN X0.here hx rfl (hb hby at_12) rfl k) ?_
    refine own_step (T' := T0) (g' := (mkF m 15 #[.val (.int x0), .val (.int x1), .unset, .unset, .unset, .unset] [(.int (13 : Int32)), (.int x0)])) (fun _ k => XS.bipush X0.here hx rfl (hb hby at_13) k) ?_
    by_cases hc : (13 : Int32) < x0
    · refine own_step (T' := T0) (g' := (mkF m 34 #[.val (.int x0), .val (.int x1), .unset, .unset, .unset, .unset] [])) (fun _ k => XS.icmpYes X0.here hx rfl (pc0 := 15) (pc' := 34) rfl (hb hby at_15) rfl (tlt hc).2.2.1 (by decide) (by decide) k) ?_
      exact B34 T0 _ x0 x1 hh Zh  X0 e0 N0 ((if_pos hc).symm.trans hf)
    · refine own_step (T' := T0) (g' := (mkF m 18 #[.val (.int x0), .val (.int x1), .unset, .unset, .unset, .unset] [])) (fun _ k => XS.icmpNo X0.here hx rfl (hb hby at_15) rfl (flt hc).2.2.1 k) ?_
      exact B18 T0 _ x0 x1 hh Zh  X0 e0 N0 ((if_neg hc).symm.trans hf)
  have B6 : ∀ (T0 : State) (locs : List Loc) (x0 : Int32) (x1 : Int32) (hh : Heap), n0 ≤ hh.size → Stand p l e room_1 s m #[(.int p0), (.int p1)] below meth c T0 locs 0 0 → T0.heap = hh → Fr n0 locs → f0_6 x0 x1 = 1 → own_Goes p e below s (own_Law n0) 0 0 T0 (mkF m 6 #[.val (.int x0), .val (.int x1), .unset, .unset, .unset, .unset] []) := by
    intro T0 locs x0 x1 hh Zh  X0 e0 N0 hf
    refine own_step (T' := T0) (g' := (mkF m 7 #[.val (.int x0), .val (.int x1), .unset, .unset, .unset, .unset] [(.int x0)])) (fun _ k => XS.iloadN X0.here hx rfl (hb hby at_6) rfl k) ?_
    refine own_step (T' := T0) (g' := (mkF m 9 #[.val (.int x0), .val (.int x1), .unset, .unset, .unset, .unset] [(.int (9 : Int32)), (.int x0)])) (fun _ k => XS.bipush X0.here hx rfl (hb hby at_7) k) ?_
    by_cases hc : x0 < (9 : Int32)
    · refine own_step (T' := T0) (g' := (mkF m 34 #[.val (.int x0), .val (.int x1), .unset, .unset, .unset, .unset] [])) (fun _ k => XS.icmpYes X0.here hx rfl (pc0 := 9) (pc' := 34) rfl (hb hby at_9) rfl (tlt hc).1 (by decide) (by decide) k) ?_
      exact B34 T0 _ x0 x1 hh Zh  X0 e0 N0 ((if_pos hc).symm.trans hf)
    · refine own_step (T' := T0) (g' := (mkF m 12 #[.val (.int x0), .val (.int x1), .unset, .unset, .unset, .unset] [])) (fun _ k => XS.icmpNo X0.here hx rfl (hb hby at_9) rfl (flt hc).1 k) ?_
      exact B12 T0 _ x0 x1 hh Zh  X0 e0 N0 ((if_neg hc).symm.trans hf)
  have B0 : ∀ (T0 : State) (locs : List Loc) (x0 : Int32) (x1 : Int32) (hh : Heap), n0 ≤ hh.size → Stand p l e room_1 s m #[(.int p0), (.int p1)] below meth c T0 locs 0 0 → T0.heap = hh → Fr n0 locs → f0_0 x0 x1 = 1 → own_Goes p e below s (own_Law n0) 0 0 T0 (mkF m 0 #[.val (.int x0), .val (.int x1), .unset, .unset, .unset, .unset] []) := by
    intro T0 locs x0 x1 hh Zh  X0 e0 N0 hf
    refine own_step (T' := T0) (g' := (mkF m 1 #[.val (.int x0), .val (.int x1), .unset, .unset, .unset, .unset] [(.int x0)])) (fun _ k => XS.iloadN X0.here hx rfl (hb hby at_0) rfl k) ?_
    refine own_step (T' := T0) (g' := (mkF m 3 #[.val (.int x0), .val (.int x1), .unset, .unset, .unset, .unset] [(.int (32 : Int32)), (.int x0)])) (fun _ k => XS.bipush X0.here hx rfl (hb hby at_1) k) ?_
    by_cases hc : x0 = (32 : Int32)
    · refine own_step (T' := T0) (g' := (mkF m 30 #[.val (.int x0), .val (.int x1), .unset, .unset, .unset, .unset] [])) (fun _ k => XS.icmpYes X0.here hx rfl (pc0 := 3) (pc' := 30) rfl (hb hby at_3) rfl (teq hc).1 (by decide) (by decide) k) ?_
      exact B30 T0 _ x0 x1 hh Zh  X0 e0 N0 ((if_pos hc).symm.trans hf)
    · refine own_step (T' := T0) (g' := (mkF m 6 #[.val (.int x0), .val (.int x1), .unset, .unset, .unset, .unset] [])) (fun _ k => XS.icmpNo X0.here hx rfl (hb hby at_3) rfl (feq hc).1 k) ?_
      exact B6 T0 _ x0 x1 hh Zh  X0 e0 N0 ((if_neg hc).symm.trans hf)
  have hB := B0 s₁ [] p0 p1 h0 Z0 X00 e00 (Fr.nil n0) hlaw
  obtain ⟨s₂, o, q1, q2, q3, v, L, q4, q5, q6⟩ := hB
  exact ⟨s₂, o, castTop (ef_0 m p0 p1) q1, q2, q3, v, L, q4, q5, q6⟩
set_option maxRecDepth 65536 in
set_option maxHeartbeats 40000000 in
theorem comes_1 {Post : Tables → Env → Array Value → State → Outcome → State → Prop} (hpost : ∀ tb e args s v u, (limb_1_1.after args s (.returned v) u = true ∧ limb_1_2.after args s (.returned v) u = true ∧ True) → FrameEnd s (.returned v) u (Jvm.fieldLocs frame_1_writes args s ++ Jvm.arrayLocs frame_1_arrays args s ++ Jvm.staticLocs frame_1_statics s) 0 0 → Post tb e args s (.returned v) u) :
    ArmFor flags0 classFile x code maxLocals ret World_1 tables_1 room_1 Calls_1 rest_1 Pre_1 Post := by
  intro l hfl _ _ p e ha hc hk s m args below hf hA hF happ hP
  obtain ⟨hcalls, hrest, hpre⟩ := hP
  obtain ⟨-, -, -, hnamed, -, -, -, hat⟩ := (Spec.applies_iff hf).mp happ
  obtain ⟨hg, hn⟩ := and_e (Cond.before_iff.mp (show (Jvm.Cond.and given_1 narrow_1).before args s = true from hpre))
  obtain ⟨hcnt, g0⟩ := and_e hg
  obtain ⟨a0, g1⟩ := and_e g0
  obtain ⟨w0, w1, rfl⟩ : ∃ w0 w1 : Value, args = #[w0, w1] := by
    have hs : args.size = 2 := by simpa [Cond.value, given_1] using hcnt
    obtain ⟨L⟩ := args
    match L, hs with
    | [w0, w1], _ => exact ⟨w0, w1, rfl⟩
  have hw := fun d (hd : d ∈ tables_1) => atoms_spec (ws := Jvm.Cond.code x code maxLocals ret :: tables_1) hat d (List.mem_cons_of_mem _ hd)
  obtain ⟨i0, ei0⟩ := is_v a0
  obtain rfl : w0 = (.int i0) := Option.some.inj ei0
  obtain ⟨i1, ei1⟩ := is_v g1
  obtain rfl : w1 = (.int i1) := Option.some.inj ei1
  obtain ⟨n, o, h1, h2, h3, _, L, rfl, ⟨rfl, N⟩, hq⟩ := rm0 l s _ hw tables_1 i0 i1 s.heap s.heap.size (Nat.le_refl _) (own_law i0 i1) p e ha hc hk s m _ below hf ((Spec.applies_iff_loose hf).mp happ).1 ⟨rfl, State.Warmed39.refl s, rfl⟩ trivial
  refine ⟨n, _, h1, h2, h3, hpost _ _ _ _ _ _ ⟨Cond.after_iff.mpr rfl, Cond.after_iff.mpr (eq_i res_at (Term.int_eval (1)) rfl), trivial⟩ ⟨hq.1, hq.2.1, (hq.2.2.sift fun y hy => Or.inr (N y hy)).mono (by decide) (by decide)⟩⟩
theorem main_1_1 : Claimed_1_1 := comes_1 fun _ _ _ _ _ _ h hF => ⟨h.1, hF⟩
theorem main_1_2 : Claimed_1_2 := comes_1 fun _ _ _ _ _ _ h hF => ⟨h.2.1, hF⟩
end Jvm.Pilot.@@N@@
namespace Jvm.Pilot.@@N@@
open Jvm Jvm.ClassFile Sem Op Lib Jvm.Free Jvm.Stand Jvm.Pilot.@@N@@.Jvm.D
/-! MADE BY PROGRAM (witnessworld.py) out of the Statement's table words and the real class files: 9 classes; the members and pool entries that the words name. The judged class is class 1, her method 3. -/
namespace start1
open Jvm.ClassFile
def u (s : String) : CpInfo := .utf8 (stringToUtf16 s)
/-- a pool by its gaps: so many unusable entries, then the entry; so many at the end -/
def gap : Nat → List CpInfo → List CpInfo
  | 0, r => r
  | n + 1, r => .unusable :: gap n r
def poolList (es : List (Nat × CpInfo)) (last : Nat) : List CpInfo := es.foldr (fun e r => gap e.1 (e.2 :: r)) (gap last [])
def pool (es : List (Nat × CpInfo)) (last : Nat) : Array CpInfo := ⟨poolList es last⟩
def fileOf (pool : Array CpInfo) (this : Nat) (attrs : Array Attribute := #[]) (ms : Array MethodInfo := #[]) (fl : Nat := 33) (sup : Nat := 0) (ifs : Array Nat := #[]) (fds : Array FieldInfo := #[]) : ClassFile where
  minorVersion := 0
  majorVersion := 65
  constantPool := pool
  accessFlags := fl
  thisClass := this
  superClass := sup
  interfaces := ifs
  fields := fds
  methods := ms
  attributes := attrs
def plain (name : String) (sup : Option ClassId) : Class where
  name := name
  kind := .ordinary
  loader := none
  accessFlags := 33
  super := sup
  interfaces := #[]
  cf := none
  fields := #[]
  methods := #[]
  instanceTypes := #[]
  staticTypes := #[]
  resolved := #[]
  callSites := []
  init := .initialized
  statics := none
  mirror := none

def pool0 : Array CpInfo := pool [(5, u "<init>"), (0, u "()V"), (1, .class_ 10), (1, u "java/lang/Object")] 113

def k0m0 : Method := { name := "<init>", desc := "()V", sig := { parameters := [], returnType := none }, accessFlags := 1, code := none }
/-- java/lang/Object -/
def k0 : Class := { plain "java/lang/Object" none with
  accessFlags := 33
  interfaces := #[]
  cf := some (fileOf pool0 8 #[] #[{ accessFlags := 1, nameIndex := 5, descriptorIndex := 6, attributes := #[] }] 33 0 #[] #[])
  fields := #[]
  methods := #[k0m0]
  instanceTypes := #[]
  staticTypes := #[]
  resolved := Array.replicate 124 none
  statics := none }

def pool1 : Array CpInfo := pool [(2, .class_ 4), (1, u "java/lang/Object"), (0, u "<init>"), (0, u "()V"), (0, .methodref 8 9), (0, .class_ 10), (0, .nameAndType 11 12), (0, u "com/example/willow_graft/willowgraft/tree/XmlNames"), (0, u "isWhitespace"), (0, u "(I)Z"), (0, .methodref 14 15), (0, .class_ 16), (0, .nameAndType 17 18), (0, u "com/example/willow_graft/willowgraft/tree/XmlNamesIsWhitespacePinLaw"), (0, u "white"), (0, u "(I)I"), (0, .methodref 14 20), (0, .nameAndType 21 18), (0, u "near"), (3, u "law"), (0, u "(II)Z")] 2

def k1m0 : Method := { name := "<init>", desc := "()V", sig := { parameters := [], returnType := none }, accessFlags := 1, code := none }
def k1c1 : Code := { maxStack := 2, maxLocals := 1, code := method_2_code, exceptionTable := #[], attributes := #[] }
def k1m1 : Method := { name := "white", desc := "(I)I", sig := { parameters := [.int], returnType := some .int }, accessFlags := 10, code := some k1c1 }
def k1c2 : Code := { maxStack := 2, maxLocals := 1, code := method_3_code, exceptionTable := #[], attributes := #[] }
def k1m2 : Method := { name := "near", desc := "(I)I", sig := { parameters := [.int], returnType := some .int }, accessFlags := 10, code := some k1c2 }
def k1c3 : Code := { maxStack := 2, maxLocals := 6, code := code, exceptionTable := #[], attributes := #[] }
def k1m3 : Method := { name := "law", desc := "(II)Z", sig := { parameters := [.int, .int], returnType := some .boolean }, accessFlags := 9, code := some k1c3 }
/-- com/example/willow_graft/willowgraft/tree/XmlNamesIsWhitespacePinLaw -/
def k1 : Class := { plain "com/example/willow_graft/willowgraft/tree/XmlNamesIsWhitespacePinLaw" (some 0) with
  accessFlags := 49
  interfaces := #[]
  cf := some (fileOf pool1 14 #[] #[{ accessFlags := 1, nameIndex := 5, descriptorIndex := 6, attributes := #[] }, { accessFlags := 10, nameIndex := 17, descriptorIndex := 18, attributes := #[] }, { accessFlags := 10, nameIndex := 21, descriptorIndex := 18, attributes := #[] }, { accessFlags := 9, nameIndex := 25, descriptorIndex := 26, attributes := #[] }] 49 2 #[] #[])
  fields := #[]
  methods := #[k1m0, k1m1, k1m2, k1m3]
  instanceTypes := #[]
  staticTypes := #[]
  resolved := Array.replicate 29 none
  statics := none }

def pool2 : Array CpInfo := pool [(2, .class_ 4), (1, u "java/lang/Object"), (0, u "<init>"), (0, u "()V"), (1, .class_ 10), (1, u "com/example/willow_graft/willowgraft/tree/XmlNames"), (0, u "NAME_START_CHARS"), (0, u "[I"), (6, u "OTHER_NAME_CHARS"), (24, u "(I)Z"), (33, u "isWhitespace")] 38

def k2m0 : Method := { name := "<init>", desc := "()V", sig := { parameters := [], returnType := none }, accessFlags := 2, code := none }
def k2c1 : Code := { maxStack := 2, maxLocals := 1, code := prog_49_method_10_code, exceptionTable := #[], attributes := #[] }
def k2m1 : Method := { name := "isWhitespace", desc := "(I)Z", sig := { parameters := [.int], returnType := some .boolean }, accessFlags := 9, code := some k2c1 }
/-- com/example/willow_graft/willowgraft/tree/XmlNames -/
def k2 : Class := { plain "com/example/willow_graft/willowgraft/tree/XmlNames" (some 0) with
  accessFlags := 33
  interfaces := #[]
  cf := some (fileOf pool2 8 #[] #[{ accessFlags := 2, nameIndex := 5, descriptorIndex := 6, attributes := #[] }, { accessFlags := 9, nameIndex := 78, descriptorIndex := 44, attributes := #[] }] 33 2 #[] #[{ accessFlags := 26, nameIndex := 11, descriptorIndex := 12, attributes := #[] }, { accessFlags := 26, nameIndex := 19, descriptorIndex := 12, attributes := #[] }])
  fields := #[{ name := "NAME_START_CHARS", type := (.array .int), accessFlags := 26, slot := 0, constantValue := 0 }, { name := "OTHER_NAME_CHARS", type := (.array .int), accessFlags := 26, slot := 1, constantValue := 0 }]
  methods := #[k2m0, k2m1]
  instanceTypes := #[]
  staticTypes := #[(.array .int), (.array .int)]
  resolved := Array.replicate 117 none
  statics := none }

def pool3 : Array CpInfo := pool [(1, u "java/lang/Cloneable"), (0, .class_ 1), (0, u "java/lang/Object"), (0, .class_ 3)] 3

/-- java/lang/Cloneable -/
def k3 : Class := { plain "java/lang/Cloneable" (some 0) with
  accessFlags := 1537
  interfaces := #[]
  cf := some (fileOf pool3 2 #[] #[] 1537 4 #[] #[])
  fields := #[]
  methods := #[]
  instanceTypes := #[]
  staticTypes := #[]
  resolved := Array.replicate 8 none
  statics := none }

def pool4 : Array CpInfo := pool [(1, u "java/io/Serializable"), (0, .class_ 1), (0, u "java/lang/Object"), (0, .class_ 3)] 3

/-- java/io/Serializable -/
def k4 : Class := { plain "java/io/Serializable" (some 0) with
  accessFlags := 1537
  interfaces := #[]
  cf := some (fileOf pool4 2 #[] #[] 1537 4 #[] #[])
  fields := #[]
  methods := #[]
  instanceTypes := #[]
  staticTypes := #[]
  resolved := Array.replicate 8 none
  statics := none }

/-- the primitive byte -/
def k5 : Class := { plain "byte" none with kind := .primitive 'B', accessFlags := 0x411 }
/-- [B -/
def k6 : Class := { plain "[B" (some 0) with kind := .array 5 .byte, interfaces := #[3, 4], accessFlags := 1041 }

/-- the primitive int -/
def k7 : Class := { plain "int" none with kind := .primitive 'I', accessFlags := 0x411 }
/-- [I -/
def k8 : Class := { plain "[I" (some 0) with kind := .array 7 .int, interfaces := #[3, 4], accessFlags := 1041 }

def heap : Heap := #[]
def classes : Array Class := #[k0, k1, k2, k3, k4, k5, k6, k7, k8]
def interned : List (Array UInt16 × Addr) := []
def slotsUsed : Nat := 0
def theMethod : MethodId := ⟨1, 3⟩
def args0 : Array Value := #[.int 5, .int 6]
def aboutOver (below : List Frame) : State where
  vm := { classes := classes, interned := interned.toArray }
  heap := heap
  slotsUsed := slotsUsed
  threads := #[{ frames := .invoking theMethod args0 :: below }]
def below0 : List Frame := [.native { method := ⟨0, 0⟩, args := #[] }]
def about1 : State := aboutOver below0
def p0 : Program := .bare "" "" ""
def e0 : Env := launch0.env 0 0 0
theorem w_frames : about1.frames = Frame.invoking theMethod args0 :: below0 := rfl
set_option maxRecDepth 65536 in
theorem w_args : argsFit about1.vm theMethod args0 = true := by decide +kernel
set_option maxRecDepth 65536 in
theorem w_heap : heapFits about1 = true := by decide +kernel
set_option maxRecDepth 65536 in
theorem w_runnable : about1.curStatus? = some .runnable := by decide +kernel
set_option maxRecDepth 65536 in
theorem w_alone : about1.alone = true := by decide +kernel
set_option maxRecDepth 65536 in
theorem w_named : about1.methodNamed? x = some theMethod := by decide +kernel
set_option maxRecDepth 65536 in
theorem w_hears : about1.hears theMethod below0 = true := by decide +kernel
set_option maxRecDepth 65536 in
theorem w_ripe : about1.ripe theMethod args0 below0 = true := by decide +kernel
theorem w_running : about1.status = .running := rfl
set_option maxRecDepth 65536 in
theorem w_room : about1.hasRoom e0.platform room_1 = true :=
  launch0.hasRoom_least _ room_1 (by decide +kernel) (by decide +kernel) (by decide +kernel) (by decide +kernel) (by decide +kernel) (by decide +kernel)
theorem allAtoms_all (ts : List Jvm.Cond) (a : Array Jvm.Value) (st : Jvm.State) : (allAtoms ts).before a st = ts.all (fun c => c.before a st) := by
  induction ts with
  | nil => rfl
  | cons c t ih =>
    show (Jvm.Cond.and c (allAtoms t)).before a st = _
    rw [Jvm.Cond.before_and, ih, List.all_cons]
def words1 : List Jvm.Cond := Jvm.Cond.code x code maxLocals ret :: tables_1
/-- a 'code' word, met by the world's own term for the bytes: nothing is compared byte by byte -/
theorem code_word {y : MethodName} {bytes : ByteArray} {mx : Nat} {rt : Option FieldType} {a : Array Value} {s : State} {m : MethodId} {meth : Method} {c : Code} (h1 : s.methodNamed? y = some m) (h2 : s.vm.method? m = some meth) (h3 : meth.code = some c) (h4 : c.code = bytes)
    (h5 : (c.maxLocals == mx && c.exceptionTable.isEmpty && decide (c.maxStack ≤ mostOperands) && decide (meth.sig.returnType = rt) && !meth.locks && decide (parseMethodDescriptor y.desc = some meth.sig)) = true) : (Jvm.Cond.code y bytes mx rt).before a s = true := by
  simp only [Bool.and_eq_true, beq_iff_eq, Bool.not_eq_true', decide_eq_true_eq] at h5
  obtain ⟨⟨⟨⟨⟨g1, g2⟩, g3⟩, g4⟩, g5⟩, g6⟩ := h5
  simp [Cond.before, Cond.holds, Cond.value, h1, h2, h3, h4, g1, g2, g3, g4, g5, g6]
def isCode : Jvm.Cond → Bool
  | .code _ _ _ _ => true
  | _ => false
theorem all_split {L : List Jvm.Cond} {P : Jvm.Cond → Bool} (h1 : L.all (fun c => isCode c || P c) = true) (h2 : ∀ c ∈ L.filter isCode, P c = true) : L.all P = true := by
  refine List.all_eq_true.mpr fun c hc => ?_
  have h := List.all_eq_true.mp h1 c hc
  rcases Bool.eq_false_or_eq_true (isCode c) with hi | hi
  · exact h2 c (List.mem_filter.mpr ⟨hc, hi⟩)
  · simpa [hi] using h
set_option maxRecDepth 65536 in
theorem w_c0 : (Jvm.Cond.code x code maxLocals ret).before args0 about1 = true := code_word (m := ⟨1, 3⟩) (meth := k1m3) (c := k1c3) (by decide +kernel) rfl rfl rfl (by decide +kernel)
set_option maxRecDepth 65536 in
theorem w_c1 : (Jvm.Cond.code ({ cls := "com/example/willow_graft/willowgraft/tree/XmlNames", name := "isWhitespace", desc := "(I)Z" } : Jvm.MethodName) prog_49_method_10_code (1 : Nat) (Option.some Jvm.ClassFile.FieldType.boolean)).before args0 about1 = true := code_word (m := ⟨2, 1⟩) (meth := k2m1) (c := k2c1) (by decide +kernel) rfl rfl rfl (by decide +kernel)
set_option maxRecDepth 65536 in
theorem w_c2 : (Jvm.Cond.code ({ cls := "com/example/willow_graft/willowgraft/tree/XmlNamesIsWhitespacePinLaw", name := "white", desc := "(I)I" } : Jvm.MethodName) method_2_code (1 : Nat) (Option.some Jvm.ClassFile.FieldType.int)).before args0 about1 = true := code_word (m := ⟨1, 1⟩) (meth := k1m1) (c := k1c1) (by decide +kernel) rfl rfl rfl (by decide +kernel)
set_option maxRecDepth 65536 in
theorem w_c3 : (Jvm.Cond.code ({ cls := "com/example/willow_graft/willowgraft/tree/XmlNamesIsWhitespacePinLaw", name := "near", desc := "(I)I" } : Jvm.MethodName) method_3_code (1 : Nat) (Option.some Jvm.ClassFile.FieldType.int)).before args0 about1 = true := code_word (m := ⟨1, 2⟩) (meth := k1m2) (c := k1c2) (by decide +kernel) rfl rfl rfl (by decide +kernel)
def codes1 : List Jvm.Cond := [Jvm.Cond.code x code maxLocals ret, Jvm.Cond.code ({ cls := "com/example/willow_graft/willowgraft/tree/XmlNames", name := "isWhitespace", desc := "(I)Z" } : Jvm.MethodName) prog_49_method_10_code (1 : Nat) (Option.some Jvm.ClassFile.FieldType.boolean), Jvm.Cond.code ({ cls := "com/example/willow_graft/willowgraft/tree/XmlNamesIsWhitespacePinLaw", name := "white", desc := "(I)I" } : Jvm.MethodName) method_2_code (1 : Nat) (Option.some Jvm.ClassFile.FieldType.int), Jvm.Cond.code ({ cls := "com/example/willow_graft/willowgraft/tree/XmlNamesIsWhitespacePinLaw", name := "near", desc := "(I)I" } : Jvm.MethodName) method_3_code (1 : Nat) (Option.some Jvm.ClassFile.FieldType.int)]
set_option maxRecDepth 65536 in
theorem codes_eq : words1.filter isCode = codes1 := rfl
theorem w_codes : ∀ c ∈ words1.filter isCode, c.before args0 about1 = true := by
  rw [codes_eq]
  intro c hc
  simp only [codes1, List.mem_cons, List.not_mem_nil, or_false] at hc
  rcases hc with rfl | rfl | rfl | rfl
  · exact w_c0
  · exact w_c1
  · exact w_c2
  · exact w_c3
set_option maxRecDepth 65536 in
theorem w_t1 : words1.all (fun c => isCode c || c.before args0 about1) = true := by decide +kernel
theorem w_tables : (allAtoms (Jvm.Cond.code x code maxLocals ret :: tables_1)).before args0 about1 = true := by
  rw [allAtoms_all]
  show words1.all (fun c => c.before args0 about1) = true
  refine all_split ?_ w_codes
  rw [w_t1]
set_option maxRecDepth 65536 in
theorem w_case : (Jvm.Cond.and given_1 narrow_1).before args0 about1 = true := by decide +kernel
theorem w_applies : (headSpec (Jvm.Cond.code x code maxLocals ret :: tables_1) room_1).applies x e0.platform about1 = true :=
  (Spec.applies_iff w_frames).mpr ⟨w_running, w_runnable, w_alone, w_named, w_hears, w_ripe, w_room, w_tables⟩
theorem atStart : AtStart classFile x code maxLocals ret World_1 tables_1 room_1 Calls_1 rest_1 Pre_1 launch0 p0 e0 about1 theMethod args0 below0 :=
  ⟨lists_1, trivial, launch0.admits_env _ _ _, launch0.least_env, fairChoices_fair.cas, fairChoices_fair.clock, w_frames, w_args, w_heap, w_applies, trivial, trivial, w_case⟩
end start1
theorem witness_1 : WitnessClaimed_1 := ⟨start1.p0, start1.e0, start1.about1, start1.theMethod, start1.args0, start1.below0, start1.atStart⟩
end Jvm.Pilot.@@N@@
